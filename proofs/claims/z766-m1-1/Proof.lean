import JvmDerived
import JvmDerived.Pilot.@@N@@Statement
import JvmDerived.Pilot.@@N@@Code
set_option linter.unusedVariables false
set_option linter.unusedSimpArgs false
namespace Jvm.OwnGo
open Jvm Jvm.ClassFile Sem Op Lib Jvm.Free Jvm.Stand Jvm.LawKit Jvm.RoadKit
section Plain
variable {tb : Tables} [Ours tb] {e : Env} {below : List Frame} {Q : Outcome → State → Prop} {T : State} {m : MethodId} {c : Code} {bs : ByteArray} {ls l' : Array Slot} {st : List Value} {pc pn pt : Nat}
def Go (tb : Tables) (e : Env) (below : List Frame) (Q : Outcome → State → Prop) (T : State) : Prop := ∃ s₂ o, Steps tb e below T s₂ ∧ s₂.status = .running ∧ Ended s₂ below o ∧ Q o s₂
def Wk (tb : Tables) (T : State) (m : MethodId) (c : Code) (below : List Frame) (bs : ByteArray) : Prop := At T m c below ∧ tb.exec = Jvm.exec ∧ c.code = bs
theorem Go.step {tb : Tables} {T T' : State} (g : Go tb e below Q T') (h : ∀ t, Steps tb e below T' t → Steps tb e below T t) : Go tb e below Q T := by
  obtain ⟨s2, o, h1, r⟩ := g
  exact ⟨s2, o, h _ h1, r⟩
theorem Go.cast {tb : Tables} {g g' : JFrame} (q : g = g') (k : Go tb e below Q (T.setTop g')) : Go tb e below Q (T.setTop g) := q ▸ k
theorem iloadN (W : Wk tb T m c below bs) {k : Fin 4} {v : Int32} (hd : decode bs pc = .ok (.iload_n k, 1)) (hp : pc + 1 = pn) (hl : ls[k.val]? = some (.val (.int v))) (hr : Go tb e below Q (T.setTop (mkF m pn ls (.int v :: st)))) : Go tb e below Q (T.setTop (mkF m pc ls (st))) := by
  subst hp; exact hr.step fun t k => XS.iloadN W.1 W.2.1 rfl (hb W.2.2 hd) hl k
theorem iload (W : Wk tb T m c below bs) {k : Nat} {v : Int32} (hd : decode bs pc = .ok (.iload k, 2)) (hp : pc + 2 = pn) (hl : ls[k]? = some (.val (.int v))) (hr : Go tb e below Q (T.setTop (mkF m pn ls (.int v :: st)))) : Go tb e below Q (T.setTop (mkF m pc ls (st))) := by
  subst hp; exact hr.step fun t k => XS.iload W.1 W.2.1 rfl (hb W.2.2 hd) hl k
theorem lloadN (W : Wk tb T m c below bs) {k : Fin 4} {v : Int64} (hd : decode bs pc = .ok (.lload_n k, 1)) (hp : pc + 1 = pn) (hl : ls[k.val]? = some (.val (.long v))) (hr : Go tb e below Q (T.setTop (mkF m pn ls (.long v :: st)))) : Go tb e below Q (T.setTop (mkF m pc ls (st))) := by
  subst hp; exact hr.step fun t k => XT.lloadN W.1 W.2.1 rfl (hb W.2.2 hd) hl k
theorem lload (W : Wk tb T m c below bs) {k : Nat} {v : Int64} (hd : decode bs pc = .ok (.lload k, 2)) (hp : pc + 2 = pn) (hl : ls[k]? = some (.val (.long v))) (hr : Go tb e below Q (T.setTop (mkF m pn ls (.long v :: st)))) : Go tb e below Q (T.setTop (mkF m pc ls (st))) := by
  subst hp; exact hr.step fun t k => XT.lload W.1 W.2.1 rfl (hb W.2.2 hd) hl k
theorem aloadN (W : Wk tb T m c below bs) {k : Fin 4} {v : Value} (hd : decode bs pc = .ok (.aload_n k, 1)) (hp : pc + 1 = pn) (hl : ls[k.val]? = some (.val v)) (hv : v.isRef = true) (hr : Go tb e below Q (T.setTop (mkF m pn ls (v :: st)))) : Go tb e below Q (T.setTop (mkF m pc ls (st))) := by
  subst hp; exact hr.step fun t k => XS.aloadN W.1 W.2.1 rfl (hb W.2.2 hd) hl hv k
theorem aload (W : Wk tb T m c below bs) {k : Nat} {v : Value} (hd : decode bs pc = .ok (.aload k, 2)) (hp : pc + 2 = pn) (hl : ls[k]? = some (.val v)) (hv : v.isRef = true) (hr : Go tb e below Q (T.setTop (mkF m pn ls (v :: st)))) : Go tb e below Q (T.setTop (mkF m pc ls (st))) := by
  subst hp; exact hr.step fun t k => XS.aload W.1 W.2.1 rfl (hb W.2.2 hd) hl hv k
theorem istoreN (W : Wk tb T m c below bs) {k : Fin 4} {x : Int32} (hd : decode bs pc = .ok (.istore_n k, 1)) (hp : pc + 1 = pn) (hl : storeLocals ls k.val (.int x) = some l') (hr : Go tb e below Q (T.setTop (mkF m pn l' (st)))) : Go tb e below Q (T.setTop (mkF m pc ls (.int x :: st))) := by
  subst hp; exact hr.step fun t k => XS.istoreN W.1 W.2.1 rfl (hb W.2.2 hd) rfl hl k
theorem istore (W : Wk tb T m c below bs) {k : Nat} {x : Int32} (hd : decode bs pc = .ok (.istore k, 2)) (hp : pc + 2 = pn) (hl : storeLocals ls k (.int x) = some l') (hr : Go tb e below Q (T.setTop (mkF m pn l' (st)))) : Go tb e below Q (T.setTop (mkF m pc ls (.int x :: st))) := by
  subst hp; exact hr.step fun t k => XS.istore W.1 W.2.1 rfl (hb W.2.2 hd) rfl hl k
theorem lstoreN (W : Wk tb T m c below bs) {k : Fin 4} {x : Int64} (hd : decode bs pc = .ok (.lstore_n k, 1)) (hp : pc + 1 = pn) (hl : storeLocals ls k.val (.long x) = some l') (hr : Go tb e below Q (T.setTop (mkF m pn l' (st)))) : Go tb e below Q (T.setTop (mkF m pc ls (.long x :: st))) := by
  subst hp; exact hr.step fun t k => XT.lstoreN W.1 W.2.1 rfl (hb W.2.2 hd) rfl hl k
theorem lstore (W : Wk tb T m c below bs) {k : Nat} {x : Int64} (hd : decode bs pc = .ok (.lstore k, 2)) (hp : pc + 2 = pn) (hl : storeLocals ls k (.long x) = some l') (hr : Go tb e below Q (T.setTop (mkF m pn l' (st)))) : Go tb e below Q (T.setTop (mkF m pc ls (.long x :: st))) := by
  subst hp; exact hr.step fun t k => XT.lstore W.1 W.2.1 rfl (hb W.2.2 hd) rfl hl k
theorem astoreN (W : Wk tb T m c below bs) {k : Fin 4} {x : Value} (hd : decode bs pc = .ok (.astore_n k, 1)) (hp : pc + 1 = pn) (hv : x.isRef = true) (hl : storeLocals ls k.val x = some l') (hr : Go tb e below Q (T.setTop (mkF m pn l' (st)))) : Go tb e below Q (T.setTop (mkF m pc ls (x :: st))) := by
  subst hp; exact hr.step fun t k => XS.astoreN W.1 W.2.1 rfl (hb W.2.2 hd) rfl hv hl k
theorem astore (W : Wk tb T m c below bs) {k : Nat} {x : Value} (hd : decode bs pc = .ok (.astore k, 2)) (hp : pc + 2 = pn) (hv : x.isRef = true) (hl : storeLocals ls k x = some l') (hr : Go tb e below Q (T.setTop (mkF m pn l' (st)))) : Go tb e below Q (T.setTop (mkF m pc ls (x :: st))) := by
  subst hp; exact hr.step fun t k => XS.astore W.1 W.2.1 rfl (hb W.2.2 hd) rfl hv hl k
theorem iadd (W : Wk tb T m c below bs) {x y : Int32} (hd : decode bs pc = .ok (.iadd, 1)) (hp : pc + 1 = pn)  (hr : Go tb e below Q (T.setTop (mkF m pn ls (.int (x + y) :: st)))) : Go tb e below Q (T.setTop (mkF m pc ls (.int y :: .int x :: st))) := by
  subst hp; exact hr.step fun t k => XS.iadd W.1 W.2.1 rfl (hb W.2.2 hd) rfl k
theorem isub (W : Wk tb T m c below bs) {x y : Int32} (hd : decode bs pc = .ok (.isub, 1)) (hp : pc + 1 = pn)  (hr : Go tb e below Q (T.setTop (mkF m pn ls (.int (x - y) :: st)))) : Go tb e below Q (T.setTop (mkF m pc ls (.int y :: .int x :: st))) := by
  subst hp; exact hr.step fun t k => XS.isub W.1 W.2.1 rfl (hb W.2.2 hd) rfl k
theorem imul (W : Wk tb T m c below bs) {x y : Int32} (hd : decode bs pc = .ok (.imul, 1)) (hp : pc + 1 = pn)  (hr : Go tb e below Q (T.setTop (mkF m pn ls (.int (x * y) :: st)))) : Go tb e below Q (T.setTop (mkF m pc ls (.int y :: .int x :: st))) := by
  subst hp; exact hr.step fun t k => XS.imul W.1 W.2.1 rfl (hb W.2.2 hd) rfl k
theorem iand (W : Wk tb T m c below bs) {x y : Int32} (hd : decode bs pc = .ok (.iand, 1)) (hp : pc + 1 = pn)  (hr : Go tb e below Q (T.setTop (mkF m pn ls (.int (x &&& y) :: st)))) : Go tb e below Q (T.setTop (mkF m pc ls (.int y :: .int x :: st))) := by
  subst hp; exact hr.step fun t k => XS.iand W.1 W.2.1 rfl (hb W.2.2 hd) rfl k
theorem ior (W : Wk tb T m c below bs) {x y : Int32} (hd : decode bs pc = .ok (.ior, 1)) (hp : pc + 1 = pn)  (hr : Go tb e below Q (T.setTop (mkF m pn ls (.int (x ||| y) :: st)))) : Go tb e below Q (T.setTop (mkF m pc ls (.int y :: .int x :: st))) := by
  subst hp; exact hr.step fun t k => XT.ior W.1 W.2.1 rfl (hb W.2.2 hd) rfl k
theorem ixor (W : Wk tb T m c below bs) {x y : Int32} (hd : decode bs pc = .ok (.ixor, 1)) (hp : pc + 1 = pn)  (hr : Go tb e below Q (T.setTop (mkF m pn ls (.int (x ^^^ y) :: st)))) : Go tb e below Q (T.setTop (mkF m pc ls (.int y :: .int x :: st))) := by
  subst hp; exact hr.step fun t k => XT.ixor W.1 W.2.1 rfl (hb W.2.2 hd) rfl k
theorem ishl (W : Wk tb T m c below bs) {x y : Int32} (hd : decode bs pc = .ok (.ishl, 1)) (hp : pc + 1 = pn)  (hr : Go tb e below Q (T.setTop (mkF m pn ls (.int (x <<< (y &&& 31)) :: st)))) : Go tb e below Q (T.setTop (mkF m pc ls (.int y :: .int x :: st))) := by
  subst hp; exact hr.step fun t k => XT.ishl W.1 W.2.1 rfl (hb W.2.2 hd) rfl k
theorem ishr (W : Wk tb T m c below bs) {x y : Int32} (hd : decode bs pc = .ok (.ishr, 1)) (hp : pc + 1 = pn)  (hr : Go tb e below Q (T.setTop (mkF m pn ls (.int (x >>> (y &&& 31)) :: st)))) : Go tb e below Q (T.setTop (mkF m pc ls (.int y :: .int x :: st))) := by
  subst hp; exact hr.step fun t k => XT.ishr W.1 W.2.1 rfl (hb W.2.2 hd) rfl k
theorem iushr (W : Wk tb T m c below bs) {x y : Int32} (hd : decode bs pc = .ok (.iushr, 1)) (hp : pc + 1 = pn)  (hr : Go tb e below Q (T.setTop (mkF m pn ls (.int (XT.ushr x y) :: st)))) : Go tb e below Q (T.setTop (mkF m pc ls (.int y :: .int x :: st))) := by
  subst hp; exact hr.step fun t k => XT.iushr W.1 W.2.1 rfl (hb W.2.2 hd) rfl k
theorem ladd (W : Wk tb T m c below bs) {x y : Int64} (hd : decode bs pc = .ok (.ladd, 1)) (hp : pc + 1 = pn)  (hr : Go tb e below Q (T.setTop (mkF m pn ls (.long (x + y) :: st)))) : Go tb e below Q (T.setTop (mkF m pc ls (.long y :: .long x :: st))) := by
  subst hp; exact hr.step fun t k => XT.ladd W.1 W.2.1 rfl (hb W.2.2 hd) rfl k
theorem lsub (W : Wk tb T m c below bs) {x y : Int64} (hd : decode bs pc = .ok (.lsub, 1)) (hp : pc + 1 = pn)  (hr : Go tb e below Q (T.setTop (mkF m pn ls (.long (x - y) :: st)))) : Go tb e below Q (T.setTop (mkF m pc ls (.long y :: .long x :: st))) := by
  subst hp; exact hr.step fun t k => XT.lsub W.1 W.2.1 rfl (hb W.2.2 hd) rfl k
theorem lmul (W : Wk tb T m c below bs) {x y : Int64} (hd : decode bs pc = .ok (.lmul, 1)) (hp : pc + 1 = pn)  (hr : Go tb e below Q (T.setTop (mkF m pn ls (.long (x * y) :: st)))) : Go tb e below Q (T.setTop (mkF m pc ls (.long y :: .long x :: st))) := by
  subst hp; exact hr.step fun t k => XT.lmul W.1 W.2.1 rfl (hb W.2.2 hd) rfl k
theorem land (W : Wk tb T m c below bs) {x y : Int64} (hd : decode bs pc = .ok (.land, 1)) (hp : pc + 1 = pn)  (hr : Go tb e below Q (T.setTop (mkF m pn ls (.long (x &&& y) :: st)))) : Go tb e below Q (T.setTop (mkF m pc ls (.long y :: .long x :: st))) := by
  subst hp; exact hr.step fun t k => XT.land W.1 W.2.1 rfl (hb W.2.2 hd) rfl k
theorem lor (W : Wk tb T m c below bs) {x y : Int64} (hd : decode bs pc = .ok (.lor, 1)) (hp : pc + 1 = pn)  (hr : Go tb e below Q (T.setTop (mkF m pn ls (.long (x ||| y) :: st)))) : Go tb e below Q (T.setTop (mkF m pc ls (.long y :: .long x :: st))) := by
  subst hp; exact hr.step fun t k => XT.lor W.1 W.2.1 rfl (hb W.2.2 hd) rfl k
theorem lxor (W : Wk tb T m c below bs) {x y : Int64} (hd : decode bs pc = .ok (.lxor, 1)) (hp : pc + 1 = pn)  (hr : Go tb e below Q (T.setTop (mkF m pn ls (.long (x ^^^ y) :: st)))) : Go tb e below Q (T.setTop (mkF m pc ls (.long y :: .long x :: st))) := by
  subst hp; exact hr.step fun t k => XT.lxor W.1 W.2.1 rfl (hb W.2.2 hd) rfl k
theorem lshl (W : Wk tb T m c below bs) {x : Int64} {y : Int32} (hd : decode bs pc = .ok (.lshl, 1)) (hp : pc + 1 = pn)  (hr : Go tb e below Q (T.setTop (mkF m pn ls (.long (x <<< (y.toInt64 &&& 63)) :: st)))) : Go tb e below Q (T.setTop (mkF m pc ls (.int y :: .long x :: st))) := by
  subst hp; exact hr.step fun t k => XT.lshl W.1 W.2.1 rfl (hb W.2.2 hd) rfl k
theorem lshr (W : Wk tb T m c below bs) {x : Int64} {y : Int32} (hd : decode bs pc = .ok (.lshr, 1)) (hp : pc + 1 = pn)  (hr : Go tb e below Q (T.setTop (mkF m pn ls (.long (x >>> (y.toInt64 &&& 63)) :: st)))) : Go tb e below Q (T.setTop (mkF m pc ls (.int y :: .long x :: st))) := by
  subst hp; exact hr.step fun t k => XT.lshr W.1 W.2.1 rfl (hb W.2.2 hd) rfl k
theorem lushr (W : Wk tb T m c below bs) {x : Int64} {y : Int32} (hd : decode bs pc = .ok (.lushr, 1)) (hp : pc + 1 = pn)  (hr : Go tb e below Q (T.setTop (mkF m pn ls (.long (XT.ushrL x y) :: st)))) : Go tb e below Q (T.setTop (mkF m pc ls (.int y :: .long x :: st))) := by
  subst hp; exact hr.step fun t k => XT.lushr W.1 W.2.1 rfl (hb W.2.2 hd) rfl k
theorem i2l (W : Wk tb T m c below bs) {x : Int32} (hd : decode bs pc = .ok (.i2l, 1)) (hp : pc + 1 = pn)  (hr : Go tb e below Q (T.setTop (mkF m pn ls (.long (x.toInt64) :: st)))) : Go tb e below Q (T.setTop (mkF m pc ls (.int x :: st))) := by
  subst hp; exact hr.step fun t k => XT.i2l W.1 W.2.1 rfl (hb W.2.2 hd) rfl k
theorem l2i (W : Wk tb T m c below bs) {x : Int64} (hd : decode bs pc = .ok (.l2i, 1)) (hp : pc + 1 = pn)  (hr : Go tb e below Q (T.setTop (mkF m pn ls (.int (x.toInt32) :: st)))) : Go tb e below Q (T.setTop (mkF m pc ls (.long x :: st))) := by
  subst hp; exact hr.step fun t k => XT.l2i W.1 W.2.1 rfl (hb W.2.2 hd) rfl k
theorem i2b (W : Wk tb T m c below bs) {x : Int32} (hd : decode bs pc = .ok (.i2b, 1)) (hp : pc + 1 = pn)  (hr : Go tb e below Q (T.setTop (mkF m pn ls (.int (x.toInt8.toInt32) :: st)))) : Go tb e below Q (T.setTop (mkF m pc ls (.int x :: st))) := by
  subst hp; exact hr.step fun t k => XT.i2b W.1 W.2.1 rfl (hb W.2.2 hd) rfl k
theorem i2c (W : Wk tb T m c below bs) {x : Int32} (hd : decode bs pc = .ok (.i2c, 1)) (hp : pc + 1 = pn)  (hr : Go tb e below Q (T.setTop (mkF m pn ls (.int (x.toUInt32.toUInt16.toUInt32.toInt32) :: st)))) : Go tb e below Q (T.setTop (mkF m pc ls (.int x :: st))) := by
  subst hp; exact hr.step fun t k => XT.i2c W.1 W.2.1 rfl (hb W.2.2 hd) rfl k
theorem i2s (W : Wk tb T m c below bs) {x : Int32} (hd : decode bs pc = .ok (.i2s, 1)) (hp : pc + 1 = pn)  (hr : Go tb e below Q (T.setTop (mkF m pn ls (.int (x.toInt16.toInt32) :: st)))) : Go tb e below Q (T.setTop (mkF m pc ls (.int x :: st))) := by
  subst hp; exact hr.step fun t k => XT.i2s W.1 W.2.1 rfl (hb W.2.2 hd) rfl k
theorem ineg (W : Wk tb T m c below bs) {x : Int32} (hd : decode bs pc = .ok (.ineg, 1)) (hp : pc + 1 = pn)  (hr : Go tb e below Q (T.setTop (mkF m pn ls (.int (-x) :: st)))) : Go tb e below Q (T.setTop (mkF m pc ls (.int x :: st))) := by
  subst hp; exact hr.step fun t k => XS.ineg W.1 W.2.1 rfl (hb W.2.2 hd) rfl k
theorem lneg (W : Wk tb T m c below bs) {x : Int64} (hd : decode bs pc = .ok (.lneg, 1)) (hp : pc + 1 = pn)  (hr : Go tb e below Q (T.setTop (mkF m pn ls (.long (-x) :: st)))) : Go tb e below Q (T.setTop (mkF m pc ls (.long x :: st))) := by
  subst hp; exact hr.step fun t k => XT.lneg W.1 W.2.1 rfl (hb W.2.2 hd) rfl k
theorem idiv (W : Wk tb T m c below bs) {x y : Int32} (hd : decode bs pc = .ok (.idiv, 1)) (hp : pc + 1 = pn) (hy : y ≠ 0) (hr : Go tb e below Q (T.setTop (mkF m pn ls (.int (x / y) :: st)))) : Go tb e below Q (T.setTop (mkF m pc ls (.int y :: .int x :: st))) := by
  subst hp; exact hr.step fun t k => XS.idiv W.1 W.2.1 rfl (hb W.2.2 hd) rfl hy k
theorem irem (W : Wk tb T m c below bs) {x y : Int32} (hd : decode bs pc = .ok (.irem, 1)) (hp : pc + 1 = pn) (hy : y ≠ 0) (hr : Go tb e below Q (T.setTop (mkF m pn ls (.int (x - (x / y) * y) :: st)))) : Go tb e below Q (T.setTop (mkF m pc ls (.int y :: .int x :: st))) := by
  subst hp; exact hr.step fun t k => XS.irem W.1 W.2.1 rfl (hb W.2.2 hd) rfl hy k
theorem ldiv (W : Wk tb T m c below bs) {x y : Int64} (hd : decode bs pc = .ok (.ldiv, 1)) (hp : pc + 1 = pn) (hy : y ≠ 0) (hr : Go tb e below Q (T.setTop (mkF m pn ls (.long (x / y) :: st)))) : Go tb e below Q (T.setTop (mkF m pc ls (.long y :: .long x :: st))) := by
  subst hp; exact hr.step fun t k => XT.ldiv W.1 W.2.1 rfl (hb W.2.2 hd) rfl hy k
theorem lrem (W : Wk tb T m c below bs) {x y : Int64} (hd : decode bs pc = .ok (.lrem, 1)) (hp : pc + 1 = pn) (hy : y ≠ 0) (hr : Go tb e below Q (T.setTop (mkF m pn ls (.long (x - (x / y) * y) :: st)))) : Go tb e below Q (T.setTop (mkF m pc ls (.long y :: .long x :: st))) := by
  subst hp; exact hr.step fun t k => XT.lrem W.1 W.2.1 rfl (hb W.2.2 hd) rfl hy k
theorem lcmp (W : Wk tb T m c below bs) {x y : Int64} (hd : decode bs pc = .ok (.lcmp, 1)) (hp : pc + 1 = pn)  (hr : Go tb e below Q (T.setTop (mkF m pn ls (.int (XT.cmpL x y) :: st)))) : Go tb e below Q (T.setTop (mkF m pc ls (.long y :: .long x :: st))) := by
  subst hp; exact hr.step fun t k => XT.lcmp W.1 W.2.1 rfl (hb W.2.2 hd) rfl k
theorem dup (W : Wk tb T m c below bs) {x : Value} (hd : decode bs pc = .ok (.dup, 1)) (hp : pc + 1 = pn) (hc : x.category = 1) (hr : Go tb e below Q (T.setTop (mkF m pn ls (x :: x :: st)))) : Go tb e below Q (T.setTop (mkF m pc ls (x :: st))) := by
  subst hp; exact hr.step fun t k => XS.dup W.1 W.2.1 rfl (hb W.2.2 hd) rfl hc k
theorem dup2 (W : Wk tb T m c below bs) {x y : Value} (hd : decode bs pc = .ok (.dup2, 1)) (hp : pc + 1 = pn) (hc : x.category = 1) (hc' : y.category = 1) (hr : Go tb e below Q (T.setTop (mkF m pn ls (x :: y :: x :: y :: st)))) : Go tb e below Q (T.setTop (mkF m pc ls (x :: y :: st))) := by
  subst hp; exact hr.step fun t k => XT.dup2 W.1 W.2.1 rfl (hb W.2.2 hd) rfl hc hc' k
theorem pop (W : Wk tb T m c below bs) {x : Value} (hd : decode bs pc = .ok (.pop, 1)) (hp : pc + 1 = pn) (hc : x.category = 1) (hr : Go tb e below Q (T.setTop (mkF m pn ls (st)))) : Go tb e below Q (T.setTop (mkF m pc ls (x :: st))) := by
  subst hp; exact hr.step fun t k => XT.pop W.1 W.2.1 rfl (hb W.2.2 hd) rfl hc k
theorem aconstNull (W : Wk tb T m c below bs)  (hd : decode bs pc = .ok (.aconst_null, 1)) (hp : pc + 1 = pn)  (hr : Go tb e below Q (T.setTop (mkF m pn ls (.null :: st)))) : Go tb e below Q (T.setTop (mkF m pc ls (st))) := by
  subst hp; exact hr.step fun t k => XS.aconstNull W.1 W.2.1 rfl (hb W.2.2 hd)  k
theorem iconst (W : Wk tb T m c below bs) {i : Int} {v : Int32} (hd : decode bs pc = .ok (.iconst i, 1)) (hp : pc + 1 = pn) (hv : Int32.ofInt i = v) (hr : Go tb e below Q (T.setTop (mkF m pn ls (.int v :: st)))) : Go tb e below Q (T.setTop (mkF m pc ls st)) := by
  subst hp; exact hr.step fun t k => XT.iconstV W.1 W.2.1 rfl _ (hb W.2.2 hd) hv k
theorem bipush (W : Wk tb T m c below bs) {i : Int} {v : Int32} (hd : decode bs pc = .ok (.bipush i, 2)) (hp : pc + 2 = pn) (hv : (Int8.ofInt i).toInt32 = v) (hr : Go tb e below Q (T.setTop (mkF m pn ls (.int v :: st)))) : Go tb e below Q (T.setTop (mkF m pc ls st)) := by
  subst hp; exact hr.step fun t k => XT.bipushV W.1 W.2.1 rfl _ (hb W.2.2 hd) hv k
theorem sipush (W : Wk tb T m c below bs) {i : Int} {v : Int32} (hd : decode bs pc = .ok (.sipush i, 3)) (hp : pc + 3 = pn) (hv : (Int16.ofInt i).toInt32 = v) (hr : Go tb e below Q (T.setTop (mkF m pn ls (.int v :: st)))) : Go tb e below Q (T.setTop (mkF m pc ls st)) := by
  subst hp; exact hr.step fun t k => XT.sipushV W.1 W.2.1 rfl _ (hb W.2.2 hd) hv k
theorem lconst (W : Wk tb T m c below bs) {i : Fin 2} {v : Int64} (hd : decode bs pc = .ok (.lconst i, 1)) (hp : pc + 1 = pn) (hv : Int64.ofNat i = v) (hr : Go tb e below Q (T.setTop (mkF m pn ls (.long v :: st)))) : Go tb e below Q (T.setTop (mkF m pc ls st)) := by
  subst hp; exact hr.step fun t k => XT.lconstV W.1 W.2.1 rfl _ (hb W.2.2 hd) hv k
theorem iinc (W : Wk tb T m c below bs) {k : Nat} {cst : Int} {x v : Int32} (hd : decode bs pc = .ok (.iinc k cst, 3)) (hp : pc + 3 = pn) (hv : Int32.ofInt cst = v) (hl : ls[k]? = some (.val (.int x))) (hl' : storeLocals ls k (.int (x + v)) = some l') (hr : Go tb e below Q (T.setTop (mkF m pn l' st))) : Go tb e below Q (T.setTop (mkF m pc ls st)) := by
  subst hp; exact hr.step fun t k => XT.iincV W.1 W.2.1 rfl _ (hb W.2.2 hd) hv hl hl' k
theorem goto (W : Wk tb T m c below bs) {o : Int} (hd : decode bs pc = .ok (.goto o, 3)) (ho : 0 ≤ (pc : Int) + o) (ht : ((pc : Int) + o).toNat = pt) (hr : Go tb e below Q (T.setTop (mkF m pt ls st))) : Go tb e below Q (T.setTop (mkF m pc ls st)) := by
  exact hr.step fun t k => XS.goto W.1 W.2.1 rfl (pc0 := pc) (pc' := pt) rfl (hb W.2.2 hd) ho ht k
theorem icmp_eq (W : Wk tb T m c below bs) {x y : Int32} {o : Int} (hd : decode bs pc = .ok (.if_icmp .eq o, 3)) (hp : pc + 3 = pn) (ho : 0 ≤ (pc : Int) + o) (ht : ((pc : Int) + o).toNat = pt) (h1 : x = y → Go tb e below Q (T.setTop (mkF m pt ls st))) (h2 : ¬ (x = y) → Go tb e below Q (T.setTop (mkF m pn ls st))) : Go tb e below Q (T.setTop (mkF m pc ls (.int y :: .int x :: st))) := by
  subst hp
  by_cases h : x = y
  · exact (h1 h).step fun t k => XS.icmpYes W.1 W.2.1 rfl (pc0 := pc) (pc' := pt) rfl (hb W.2.2 hd) rfl (XT.ii_eq_t h) ho ht k
  · exact (h2 h).step fun t k => XS.icmpNo W.1 W.2.1 rfl (hb W.2.2 hd) rfl (XT.ii_eq_f h) k
theorem if_eq (W : Wk tb T m c below bs) {x : Int32} {o : Int} (hd : decode bs pc = .ok (.ifCond .eq o, 3)) (hp : pc + 3 = pn) (ho : 0 ≤ (pc : Int) + o) (ht : ((pc : Int) + o).toNat = pt) (h1 : x = 0 → Go tb e below Q (T.setTop (mkF m pt ls st))) (h2 : ¬ (x = 0) → Go tb e below Q (T.setTop (mkF m pn ls st))) : Go tb e below Q (T.setTop (mkF m pc ls (.int x :: st))) := by
  subst hp
  by_cases h : x = 0
  · exact (h1 h).step fun t k => XS.ifYes W.1 W.2.1 rfl (pc0 := pc) (pc' := pt) rfl (hb W.2.2 hd) rfl (XT.i0_eq_t h) ho ht k
  · exact (h2 h).step fun t k => XS.ifNo W.1 W.2.1 rfl (hb W.2.2 hd) rfl (XT.i0_eq_f h) k
theorem lif_eq (W : Wk tb T m c below bs) {x y : Int64} {o : Int} (hd : decode bs pc = .ok (.ifCond .eq o, 3)) (hp : pc + 3 = pn) (ho : 0 ≤ (pc : Int) + o) (ht : ((pc : Int) + o).toNat = pt) (h1 : x = y → Go tb e below Q (T.setTop (mkF m pt ls st))) (h2 : ¬ (x = y) → Go tb e below Q (T.setTop (mkF m pn ls st))) : Go tb e below Q (T.setTop (mkF m pc ls (.int (XT.cmpL x y) :: st))) := by
  subst hp
  by_cases h : x = y
  · exact (h1 h).step fun t k => XS.ifYes W.1 W.2.1 rfl (pc0 := pc) (pc' := pt) rfl (hb W.2.2 hd) rfl (XT.ll_eq_t h) ho ht k
  · exact (h2 h).step fun t k => XS.ifNo W.1 W.2.1 rfl (hb W.2.2 hd) rfl (XT.ll_eq_f h) k
theorem icmp_ne (W : Wk tb T m c below bs) {x y : Int32} {o : Int} (hd : decode bs pc = .ok (.if_icmp .ne o, 3)) (hp : pc + 3 = pn) (ho : 0 ≤ (pc : Int) + o) (ht : ((pc : Int) + o).toNat = pt) (h1 : x = y → Go tb e below Q (T.setTop (mkF m pn ls st))) (h2 : ¬ (x = y) → Go tb e below Q (T.setTop (mkF m pt ls st))) : Go tb e below Q (T.setTop (mkF m pc ls (.int y :: .int x :: st))) := by
  subst hp
  by_cases h : x = y
  · exact (h1 h).step fun t k => XS.icmpNo W.1 W.2.1 rfl (hb W.2.2 hd) rfl (XT.ii_ne_f h) k
  · exact (h2 h).step fun t k => XS.icmpYes W.1 W.2.1 rfl (pc0 := pc) (pc' := pt) rfl (hb W.2.2 hd) rfl (XT.ii_ne_t h) ho ht k
theorem if_ne (W : Wk tb T m c below bs) {x : Int32} {o : Int} (hd : decode bs pc = .ok (.ifCond .ne o, 3)) (hp : pc + 3 = pn) (ho : 0 ≤ (pc : Int) + o) (ht : ((pc : Int) + o).toNat = pt) (h1 : x = 0 → Go tb e below Q (T.setTop (mkF m pn ls st))) (h2 : ¬ (x = 0) → Go tb e below Q (T.setTop (mkF m pt ls st))) : Go tb e below Q (T.setTop (mkF m pc ls (.int x :: st))) := by
  subst hp
  by_cases h : x = 0
  · exact (h1 h).step fun t k => XS.ifNo W.1 W.2.1 rfl (hb W.2.2 hd) rfl (XT.i0_ne_f h) k
  · exact (h2 h).step fun t k => XS.ifYes W.1 W.2.1 rfl (pc0 := pc) (pc' := pt) rfl (hb W.2.2 hd) rfl (XT.i0_ne_t h) ho ht k
theorem lif_ne (W : Wk tb T m c below bs) {x y : Int64} {o : Int} (hd : decode bs pc = .ok (.ifCond .ne o, 3)) (hp : pc + 3 = pn) (ho : 0 ≤ (pc : Int) + o) (ht : ((pc : Int) + o).toNat = pt) (h1 : x = y → Go tb e below Q (T.setTop (mkF m pn ls st))) (h2 : ¬ (x = y) → Go tb e below Q (T.setTop (mkF m pt ls st))) : Go tb e below Q (T.setTop (mkF m pc ls (.int (XT.cmpL x y) :: st))) := by
  subst hp
  by_cases h : x = y
  · exact (h1 h).step fun t k => XS.ifNo W.1 W.2.1 rfl (hb W.2.2 hd) rfl (XT.ll_ne_f h) k
  · exact (h2 h).step fun t k => XS.ifYes W.1 W.2.1 rfl (pc0 := pc) (pc' := pt) rfl (hb W.2.2 hd) rfl (XT.ll_ne_t h) ho ht k
theorem icmp_lt (W : Wk tb T m c below bs) {x y : Int32} {o : Int} (hd : decode bs pc = .ok (.if_icmp .lt o, 3)) (hp : pc + 3 = pn) (ho : 0 ≤ (pc : Int) + o) (ht : ((pc : Int) + o).toNat = pt) (h1 : x < y → Go tb e below Q (T.setTop (mkF m pt ls st))) (h2 : ¬ (x < y) → Go tb e below Q (T.setTop (mkF m pn ls st))) : Go tb e below Q (T.setTop (mkF m pc ls (.int y :: .int x :: st))) := by
  subst hp
  by_cases h : x < y
  · exact (h1 h).step fun t k => XS.icmpYes W.1 W.2.1 rfl (pc0 := pc) (pc' := pt) rfl (hb W.2.2 hd) rfl (XT.ii_lt_t h) ho ht k
  · exact (h2 h).step fun t k => XS.icmpNo W.1 W.2.1 rfl (hb W.2.2 hd) rfl (XT.ii_lt_f h) k
theorem if_lt (W : Wk tb T m c below bs) {x : Int32} {o : Int} (hd : decode bs pc = .ok (.ifCond .lt o, 3)) (hp : pc + 3 = pn) (ho : 0 ≤ (pc : Int) + o) (ht : ((pc : Int) + o).toNat = pt) (h1 : x < 0 → Go tb e below Q (T.setTop (mkF m pt ls st))) (h2 : ¬ (x < 0) → Go tb e below Q (T.setTop (mkF m pn ls st))) : Go tb e below Q (T.setTop (mkF m pc ls (.int x :: st))) := by
  subst hp
  by_cases h : x < 0
  · exact (h1 h).step fun t k => XS.ifYes W.1 W.2.1 rfl (pc0 := pc) (pc' := pt) rfl (hb W.2.2 hd) rfl (XT.i0_lt_t h) ho ht k
  · exact (h2 h).step fun t k => XS.ifNo W.1 W.2.1 rfl (hb W.2.2 hd) rfl (XT.i0_lt_f h) k
theorem lif_lt (W : Wk tb T m c below bs) {x y : Int64} {o : Int} (hd : decode bs pc = .ok (.ifCond .lt o, 3)) (hp : pc + 3 = pn) (ho : 0 ≤ (pc : Int) + o) (ht : ((pc : Int) + o).toNat = pt) (h1 : x < y → Go tb e below Q (T.setTop (mkF m pt ls st))) (h2 : ¬ (x < y) → Go tb e below Q (T.setTop (mkF m pn ls st))) : Go tb e below Q (T.setTop (mkF m pc ls (.int (XT.cmpL x y) :: st))) := by
  subst hp
  by_cases h : x < y
  · exact (h1 h).step fun t k => XS.ifYes W.1 W.2.1 rfl (pc0 := pc) (pc' := pt) rfl (hb W.2.2 hd) rfl (XT.ll_lt_t h) ho ht k
  · exact (h2 h).step fun t k => XS.ifNo W.1 W.2.1 rfl (hb W.2.2 hd) rfl (XT.ll_lt_f h) k
theorem icmp_ge (W : Wk tb T m c below bs) {x y : Int32} {o : Int} (hd : decode bs pc = .ok (.if_icmp .ge o, 3)) (hp : pc + 3 = pn) (ho : 0 ≤ (pc : Int) + o) (ht : ((pc : Int) + o).toNat = pt) (h1 : x < y → Go tb e below Q (T.setTop (mkF m pn ls st))) (h2 : ¬ (x < y) → Go tb e below Q (T.setTop (mkF m pt ls st))) : Go tb e below Q (T.setTop (mkF m pc ls (.int y :: .int x :: st))) := by
  subst hp
  by_cases h : x < y
  · exact (h1 h).step fun t k => XS.icmpNo W.1 W.2.1 rfl (hb W.2.2 hd) rfl (XT.ii_ge_f h) k
  · exact (h2 h).step fun t k => XS.icmpYes W.1 W.2.1 rfl (pc0 := pc) (pc' := pt) rfl (hb W.2.2 hd) rfl (XT.ii_ge_t h) ho ht k
theorem if_ge (W : Wk tb T m c below bs) {x : Int32} {o : Int} (hd : decode bs pc = .ok (.ifCond .ge o, 3)) (hp : pc + 3 = pn) (ho : 0 ≤ (pc : Int) + o) (ht : ((pc : Int) + o).toNat = pt) (h1 : x < 0 → Go tb e below Q (T.setTop (mkF m pn ls st))) (h2 : ¬ (x < 0) → Go tb e below Q (T.setTop (mkF m pt ls st))) : Go tb e below Q (T.setTop (mkF m pc ls (.int x :: st))) := by
  subst hp
  by_cases h : x < 0
  · exact (h1 h).step fun t k => XS.ifNo W.1 W.2.1 rfl (hb W.2.2 hd) rfl (XT.i0_ge_f h) k
  · exact (h2 h).step fun t k => XS.ifYes W.1 W.2.1 rfl (pc0 := pc) (pc' := pt) rfl (hb W.2.2 hd) rfl (XT.i0_ge_t h) ho ht k
theorem lif_ge (W : Wk tb T m c below bs) {x y : Int64} {o : Int} (hd : decode bs pc = .ok (.ifCond .ge o, 3)) (hp : pc + 3 = pn) (ho : 0 ≤ (pc : Int) + o) (ht : ((pc : Int) + o).toNat = pt) (h1 : x < y → Go tb e below Q (T.setTop (mkF m pn ls st))) (h2 : ¬ (x < y) → Go tb e below Q (T.setTop (mkF m pt ls st))) : Go tb e below Q (T.setTop (mkF m pc ls (.int (XT.cmpL x y) :: st))) := by
  subst hp
  by_cases h : x < y
  · exact (h1 h).step fun t k => XS.ifNo W.1 W.2.1 rfl (hb W.2.2 hd) rfl (XT.ll_ge_f h) k
  · exact (h2 h).step fun t k => XS.ifYes W.1 W.2.1 rfl (pc0 := pc) (pc' := pt) rfl (hb W.2.2 hd) rfl (XT.ll_ge_t h) ho ht k
theorem icmp_gt (W : Wk tb T m c below bs) {x y : Int32} {o : Int} (hd : decode bs pc = .ok (.if_icmp .gt o, 3)) (hp : pc + 3 = pn) (ho : 0 ≤ (pc : Int) + o) (ht : ((pc : Int) + o).toNat = pt) (h1 : y < x → Go tb e below Q (T.setTop (mkF m pt ls st))) (h2 : ¬ (y < x) → Go tb e below Q (T.setTop (mkF m pn ls st))) : Go tb e below Q (T.setTop (mkF m pc ls (.int y :: .int x :: st))) := by
  subst hp
  by_cases h : y < x
  · exact (h1 h).step fun t k => XS.icmpYes W.1 W.2.1 rfl (pc0 := pc) (pc' := pt) rfl (hb W.2.2 hd) rfl (XT.ii_gt_t h) ho ht k
  · exact (h2 h).step fun t k => XS.icmpNo W.1 W.2.1 rfl (hb W.2.2 hd) rfl (XT.ii_gt_f h) k
theorem if_gt (W : Wk tb T m c below bs) {x : Int32} {o : Int} (hd : decode bs pc = .ok (.ifCond .gt o, 3)) (hp : pc + 3 = pn) (ho : 0 ≤ (pc : Int) + o) (ht : ((pc : Int) + o).toNat = pt) (h1 : 0 < x → Go tb e below Q (T.setTop (mkF m pt ls st))) (h2 : ¬ (0 < x) → Go tb e below Q (T.setTop (mkF m pn ls st))) : Go tb e below Q (T.setTop (mkF m pc ls (.int x :: st))) := by
  subst hp
  by_cases h : 0 < x
  · exact (h1 h).step fun t k => XS.ifYes W.1 W.2.1 rfl (pc0 := pc) (pc' := pt) rfl (hb W.2.2 hd) rfl (XT.i0_gt_t h) ho ht k
  · exact (h2 h).step fun t k => XS.ifNo W.1 W.2.1 rfl (hb W.2.2 hd) rfl (XT.i0_gt_f h) k
theorem lif_gt (W : Wk tb T m c below bs) {x y : Int64} {o : Int} (hd : decode bs pc = .ok (.ifCond .gt o, 3)) (hp : pc + 3 = pn) (ho : 0 ≤ (pc : Int) + o) (ht : ((pc : Int) + o).toNat = pt) (h1 : y < x → Go tb e below Q (T.setTop (mkF m pt ls st))) (h2 : ¬ (y < x) → Go tb e below Q (T.setTop (mkF m pn ls st))) : Go tb e below Q (T.setTop (mkF m pc ls (.int (XT.cmpL x y) :: st))) := by
  subst hp
  by_cases h : y < x
  · exact (h1 h).step fun t k => XS.ifYes W.1 W.2.1 rfl (pc0 := pc) (pc' := pt) rfl (hb W.2.2 hd) rfl (XT.ll_gt_t h) ho ht k
  · exact (h2 h).step fun t k => XS.ifNo W.1 W.2.1 rfl (hb W.2.2 hd) rfl (XT.ll_gt_f h) k
theorem icmp_le (W : Wk tb T m c below bs) {x y : Int32} {o : Int} (hd : decode bs pc = .ok (.if_icmp .le o, 3)) (hp : pc + 3 = pn) (ho : 0 ≤ (pc : Int) + o) (ht : ((pc : Int) + o).toNat = pt) (h1 : y < x → Go tb e below Q (T.setTop (mkF m pn ls st))) (h2 : ¬ (y < x) → Go tb e below Q (T.setTop (mkF m pt ls st))) : Go tb e below Q (T.setTop (mkF m pc ls (.int y :: .int x :: st))) := by
  subst hp
  by_cases h : y < x
  · exact (h1 h).step fun t k => XS.icmpNo W.1 W.2.1 rfl (hb W.2.2 hd) rfl (XT.ii_le_f h) k
  · exact (h2 h).step fun t k => XS.icmpYes W.1 W.2.1 rfl (pc0 := pc) (pc' := pt) rfl (hb W.2.2 hd) rfl (XT.ii_le_t h) ho ht k
theorem if_le (W : Wk tb T m c below bs) {x : Int32} {o : Int} (hd : decode bs pc = .ok (.ifCond .le o, 3)) (hp : pc + 3 = pn) (ho : 0 ≤ (pc : Int) + o) (ht : ((pc : Int) + o).toNat = pt) (h1 : 0 < x → Go tb e below Q (T.setTop (mkF m pn ls st))) (h2 : ¬ (0 < x) → Go tb e below Q (T.setTop (mkF m pt ls st))) : Go tb e below Q (T.setTop (mkF m pc ls (.int x :: st))) := by
  subst hp
  by_cases h : 0 < x
  · exact (h1 h).step fun t k => XS.ifNo W.1 W.2.1 rfl (hb W.2.2 hd) rfl (XT.i0_le_f h) k
  · exact (h2 h).step fun t k => XS.ifYes W.1 W.2.1 rfl (pc0 := pc) (pc' := pt) rfl (hb W.2.2 hd) rfl (XT.i0_le_t h) ho ht k
theorem lif_le (W : Wk tb T m c below bs) {x y : Int64} {o : Int} (hd : decode bs pc = .ok (.ifCond .le o, 3)) (hp : pc + 3 = pn) (ho : 0 ≤ (pc : Int) + o) (ht : ((pc : Int) + o).toNat = pt) (h1 : y < x → Go tb e below Q (T.setTop (mkF m pn ls st))) (h2 : ¬ (y < x) → Go tb e below Q (T.setTop (mkF m pt ls st))) : Go tb e below Q (T.setTop (mkF m pc ls (.int (XT.cmpL x y) :: st))) := by
  subst hp
  by_cases h : y < x
  · exact (h1 h).step fun t k => XS.ifNo W.1 W.2.1 rfl (hb W.2.2 hd) rfl (XT.ll_le_f h) k
  · exact (h2 h).step fun t k => XS.ifYes W.1 W.2.1 rfl (pc0 := pc) (pc' := pt) rfl (hb W.2.2 hd) rfl (XT.ll_le_t h) ho ht k
theorem ifnullY (W : Wk tb T m c below bs) {o : Int} (hd : decode bs pc = .ok (.ifnull o, 3)) (ho : 0 ≤ (pc : Int) + o) (ht : ((pc : Int) + o).toNat = pt) (hr : Go tb e below Q (T.setTop (mkF m pt ls st))) : Go tb e below Q (T.setTop (mkF m pc ls (.null :: st))) := by
  exact hr.step fun t k => XS.ifnullYes W.1 W.2.1 rfl (pc0 := pc) (pc' := pt) rfl (hb W.2.2 hd) rfl ho ht k
theorem ifnonnullY (W : Wk tb T m c below bs) {b : Addr} {o : Int} (hd : decode bs pc = .ok (.ifnonnull o, 3)) (ho : 0 ≤ (pc : Int) + o) (ht : ((pc : Int) + o).toNat = pt) (hr : Go tb e below Q (T.setTop (mkF m pt ls st))) : Go tb e below Q (T.setTop (mkF m pc ls (.ref b :: st))) := by
  exact hr.step fun t k => XT.ifnonnullYes W.1 W.2.1 rfl (pc0 := pc) (pc' := pt) rfl (hb W.2.2 hd) rfl ho ht k
theorem ifnullN (W : Wk tb T m c below bs) {b : Addr} {o : Int} (hd : decode bs pc = .ok (.ifnull o, 3)) (hp : pc + 3 = pn) (hr : Go tb e below Q (T.setTop (mkF m pn ls st))) : Go tb e below Q (T.setTop (mkF m pc ls (.ref b :: st))) := by
  subst hp; exact hr.step fun t k => XS.ifnullNo W.1 W.2.1 rfl (hb W.2.2 hd) rfl k
theorem ifnonnullN (W : Wk tb T m c below bs) {o : Int} (hd : decode bs pc = .ok (.ifnonnull o, 3)) (hp : pc + 3 = pn) (hr : Go tb e below Q (T.setTop (mkF m pn ls st))) : Go tb e below Q (T.setTop (mkF m pc ls (.null :: st))) := by
  subst hp; exact hr.step fun t k => XT.ifnonnullNo W.1 W.2.1 rfl (hb W.2.2 hd) rfl k
end Plain
section Stands
variable {p : Program} {l : Launch} {e : Env} {R : Room} {s : State} {m : MethodId} {args : Array Value} {below : List Frame} {meth : Method} {c : Code} {T : State} {locs : List Loc} {cells slots : Nat} {Z : State} {a0 : Array Value} {h0 : Heap} {bs : ByteArray} {ls : Array Slot} {st : List Value} {pc pn : Nat} {Q : Outcome → State → Prop}
/-- the end of a body that returned -/
def Qe (s : State) (rm : Room) (QX : Option Value → Heap → List Loc → Prop) (o : Outcome) (U' : State) : Prop := ∃ v L, o = .returned v ∧ QX v U'.heap L ∧ FrameEnd s o U' L rm.cells rm.slots
/-- a body's contract: called with these arguments over this heap it returns as QX says -/
def Con (l : Launch) (y : MethodName) (bs : ByteArray) (maxL : Nat) (ret : Option FieldType) (rm : Room) (Z : State) (as' : Array Value) (h0 : Heap) (QX : Option Value → Heap → List Loc → Prop) : Prop :=
  ∀ ws : List Jvm.Cond, MetFree l y (head1 (Jvm.Cond.code y bs maxL ret :: ws) rm) (fun a U => a = as' ∧ Z.Warmed39 U.vm ∧ U.heap = h0) (fun _ _ _ _ _ => True) (fun _ U o U' => ∃ v L, o = .returned v ∧ QX v U'.heap L ∧ FrameEnd U o U' L rm.cells rm.slots)
theorem Con.intro {y : MethodName} {maxL : Nat} {ret : Option FieldType} {rm : Room} {as' : Array Value} {QX : Option Value → Heap → List Loc → Prop} (hpn : plainName y.cls = true)
    (body : ∀ (p : Program) (e : Env) (s : State) (m : MethodId) (below : List Frame) (meth : Method) (c : Code) (T : State), Stand p l e rm s m as' below meth c T [] 0 0 → p.tables.exec = Jvm.exec → c.code = bs → c.maxLocals = maxL → Z.Warmed39 s.vm → s.vm.findClass y.cls = some m.cls → meth.name = y.name → meth.sig.returnType = ret → meth.locks = false → T.heap = h0 →
      Go p.tables e below (Qe s rm QX) (T.setTop (entryFrame m as' maxL))) : Con l y bs maxL ret rm Z as' h0 QX := by
  intro ws
  refine MetFree.of_bodySF (plainFor_of_name hpn) hisR ?_
  intro p e s m args below meth c s₁ Bd hml0 hP hK
  obtain ⟨rfl, hZ, hh⟩ := hP
  obtain ⟨s2, o, h1, h2, h3, h4⟩ := body p e s m below meth c s₁ (Stand.of_body Bd) Bd.exec Bd.bytes hml0 hZ (findClass_of_methodNamed Bd.named) (name_of_methodNamed Bd.named Bd.method).1 Bd.returns Bd.notSynchronized (by rw [← hh, Bd.state]; rfl)
  exact ⟨s2, o, h1, h2, h3, h4⟩
/-- a body that only reckons: it returns V, writes and makes nothing -/
def PureQ (V : Value) (h0 : Heap) (v : Option Value) (h : Heap) (L : List Loc) : Prop := v = some V ∧ L = [] ∧ h = h0
theorem fin_of {QX : Option Value → Heap → List Loc → Prop} {z r : Int32} {h h' : Heap} {L : List Loc} (hr : z = r) (e : h = h') (hf : QX (some (.int r)) h' L) : QX (some (.int z)) h L := by subst hr e; exact hf
theorem fin_ofL {QX : Option Value → Heap → List Loc → Prop} {z r : Int64} {h h' : Heap} {L : List Loc} (hr : z = r) (e : h = h') (hf : QX (some (.long r)) h' L) : QX (some (.long z)) h L := by subst hr e; exact hf
def rmP (fr lo : Nat) : Room := { frames := fr, cells := 0, slots := 0, locals := lo }
theorem Go.leave {rm : Room} {QX : Option Value → Heap → List Loc → Prop} (X : Stand p l e R s m args below meth c T locs cells slots) {v : Option Value} {g : JFrame} (hv : meth.sig.returnType = none → v = none) (hlk : meth.locks = false) (hq : QX v T.heap locs) (hc : cells ≤ rm.cells) (hs : slots ≤ rm.slots)
    (hst : ∀ fs, (∀ (f : JFrame) (acts : List Action), f.method = m → f.locked = none → f.entered = [] → (doReturn e (T.setTop f) acts v).1 = T.setFrames fs) → Steps p.tables e below (T.setTop g) (T.setFrames fs)) : Go p.tables e below (Qe s rm QX) (T.setTop g) := by
  obtain ⟨fs, hr, hrun, hended, hW, hsame⟩ := X.leave (v := v) hv hlk
  exact ⟨_, _, hst fs hr, hrun, hended, _, _, rfl, hq, ⟨_, rfl⟩, hW, hsame.mono hc hs⟩
theorem ireturn {rm : Room} {QX : Option Value → Heap → List Loc → Prop} (X : Stand p l e R s m args below meth c T locs cells slots) (hx : p.tables.exec = Jvm.exec) (hby : c.code = bs) {w : Int32} {t : FieldType} (hret : meth.sig.returnType = some t) (hlk : meth.locks = false) (hn : narrow t (.int w) = .int w) (hti : t = .int ∨ t = .boolean ∨ t = .byte ∨ t = .char ∨ t = .short)
    (hd : decode bs pc = .ok (.ireturn, 1)) (hq : QX (some (.int w)) T.heap locs) (hc : cells ≤ rm.cells) (hs : slots ≤ rm.slots) : Go p.tables e below (Qe s rm QX) (T.setTop (mkF m pc ls [.int w])) :=
  Go.leave X (fun h => by rw [hret] at h; cases h) hlk hq hc hs fun fs hr => X.ireturnOut hx hret hn hti (hb hby hd) hr
theorem lreturn {rm : Room} {QX : Option Value → Heap → List Loc → Prop} (X : Stand p l e R s m args below meth c T locs cells slots) (hx : p.tables.exec = Jvm.exec) (hby : c.code = bs) {w : Int64} (hret : meth.sig.returnType = some .long) (hlk : meth.locks = false)
    (hd : decode bs pc = .ok (.lreturn, 1)) (hq : QX (some (.long w)) T.heap locs) (hc : cells ≤ rm.cells) (hs : slots ≤ rm.slots) : Go p.tables e below (Qe s rm QX) (T.setTop (mkF m pc ls [.long w])) :=
  Go.leave X (fun h => by rw [hret] at h; cases h) hlk hq hc hs fun fs hr => X.lreturnOut hx hret (hb hby hd) hr
theorem areturn {rm : Room} {QX : Option Value → Heap → List Loc → Prop} (X : Stand p l e R s m args below meth c T locs cells slots) (hx : p.tables.exec = Jvm.exec) (hby : c.code = bs) {w : Value} {t : FieldType} (hret : meth.sig.returnType = some t) (hlk : meth.locks = false) (hw : w.isRef = true) (ht : t.isReference = true)
    (hd : decode bs pc = .ok (.areturn, 1)) (hq : QX (some w) T.heap locs) (hc : cells ≤ rm.cells) (hs : slots ≤ rm.slots) : Go p.tables e below (Qe s rm QX) (T.setTop (mkF m pc ls [w])) :=
  Go.leave X (fun h => by rw [hret] at h; cases h) hlk hq hc hs fun fs hr => X.areturnOut hx hw hret ht (hb hby hd) hr
theorem returnV {rm : Room} {QX : Option Value → Heap → List Loc → Prop} (X : Stand p l e R s m args below meth c T locs cells slots) (hx : p.tables.exec = Jvm.exec) (hby : c.code = bs) (hret : meth.sig.returnType = none) (hlk : meth.locks = false)
    (hd : decode bs pc = .ok (.return_, 1)) (hq : QX none T.heap locs) (hc : cells ≤ rm.cells) (hs : slots ≤ rm.slots) : Go p.tables e below (Qe s rm QX) (T.setTop (mkF m pc ls [])) :=
  Go.leave X (fun _ => rfl) hlk hq hc hs fun fs hr => X.returnOut hx hret (hb hby hd) hr
theorem ldcI (X : Stand p l e R s m args below meth c T locs cells slots) (hx : p.tables.exec = Jvm.exec) (hby : c.code = bs) (hZ : Z.Warmed39 s.vm) {own : String} {index : Nat} {v : Int32} (hown : s.vm.findClass own = some m.cls) (w : (Jvm.Cond.constant own index v).before a0 Z = true) (hd : decode bs pc = .ok (.ldc index, 2)) (hp : pc + 2 = pn)
    (hr : Go p.tables e below Q (T.setTop (mkF m pn ls (.int v :: st)))) : Go p.tables e below Q (T.setTop (mkF m pc ls st)) := by
  subst hp; exact hr.step fun t k => X.ldcI hx hown (mvT hZ w) rfl (hb hby hd) k
theorem ldc2J (X : Stand p l e R s m args below meth c T locs cells slots) (hx : p.tables.exec = Jvm.exec) (hby : c.code = bs) (hZ : Z.Warmed39 s.vm) {own : String} {index : Nat} {v : Int64} (hown : s.vm.findClass own = some m.cls) (w : (Jvm.Cond.constantLong own index v).before a0 Z = true) (hd : decode bs pc = .ok (.ldc2_w index, 3)) (hp : pc + 3 = pn)
    (hr : Go p.tables e below Q (T.setTop (mkF m pn ls (.long v :: st)))) : Go p.tables e below Q (T.setTop (mkF m pc ls st)) := by
  subst hp; exact hr.step fun t k => X.ldc2J hx hown (mvT hZ w) rfl (hb hby hd) k
/-- a static call by its contract -/
theorem callS (X : Stand p l e R s m args below meth c T locs cells slots) (hx : p.tables.exec = Jvm.exec) (hby : c.code = bs) (hZ : Z.Warmed39 s.vm) {own : String} (hown : s.vm.findClass own = some m.cls) {index : Nat} {y : MethodName} {ybs : ByteArray} {yl : Nat} {yret : Option FieldType} {rm : Room} {argsL rest : List Value} {QX : Option Value → Heap → List Loc → Prop}
    (w1 : (Jvm.Cond.methodLink own index y).before a0 Z = true) (w2 : (Jvm.Cond.static y).before a0 Z = true) (w3 : (Jvm.Cond.initialized y.cls).before a0 Z = true) (w4 : (Jvm.Cond.code y ybs yl yret).before a0 Z = true) (hy : y.cls ≠ "java/lang/invoke/MethodHandle" ∧ y.cls ≠ "java/lang/invoke/VarHandle")
    (K : Con l y ybs yl yret rm Z argsL.toArray T.heap QX) (hf : rm.frames + 1 ≤ R.frames) (hl : (rest.map fun v => v.category).sum + (yl + 11) + rm.locals ≤ R.locals) (hcl : cells + rm.cells ≤ R.cells) (hsl : slots + rm.slots ≤ R.slots)
    (hlen : ∀ sig, parseMethodDescriptor y.desc = some sig → argsL.length = sig.parameters.length) (hsize : ls.size = c.maxLocals) (hst : st = argsL.reverse ++ rest) (hd : decode bs pc = .ok (.invokestatic index, 3)) (hp : pc + 3 = pn)
    (hr : ∀ (v : Option Value) (T' : State) (L : List Loc), QX v T'.heap L → Stand p l e R s m args below meth c T' (locs ++ L) (cells + rm.cells) (slots + rm.slots) → Go p.tables e below Q (T'.setTop (mkF m pn ls (v.toList ++ rest)))) : Go p.tables e below Q (T.setTop (mkF m pc ls st)) := by
  subst hp
  obtain ⟨v, _, ⟨T2, L2, k2, n2⟩, -, X2, ⟨Lc2, hQ2, l2, y2, z2⟩, st2⟩ := Jvm.LawKit.callS X hx (y := y) hown (mvT hZ w1) (mvT hZ w2) (mvT hZ w3) (mvT hZ w4) hy (backOf (W := (rest.map fun v => v.category).sum) (K []) hZ w4 w3 hf hl) (g := mkF m pc ls st) rfl hsize (argsL := argsL) (rest := rest) hlen hst (by show 2 * 0 + _ ≤ _; omega) (hb hby hd) (fun _ _ => ⟨rfl, rfl, hcl, hsl⟩)
  dsimp only [Pt.U, Pt.locs, Pt.cells, Pt.slots] at X2 l2 y2 z2 st2 hQ2
  subst l2 y2 z2
  exact (hr v T2 Lc2 hQ2 X2).step fun t k => st2 t k
/-- a static call of a body that only reckons -/
theorem callP (X : Stand p l e R s m args below meth c T locs cells slots) (hx : p.tables.exec = Jvm.exec) (hby : c.code = bs) (hZ : Z.Warmed39 s.vm) {own : String} (hown : s.vm.findClass own = some m.cls) {index : Nat} {y : MethodName} {ybs : ByteArray} {yl fr lo : Nat} {yret : Option FieldType} {argsL rest : List Value} {V : Value}
    (w1 : (Jvm.Cond.methodLink own index y).before a0 Z = true) (w2 : (Jvm.Cond.static y).before a0 Z = true) (w3 : (Jvm.Cond.initialized y.cls).before a0 Z = true) (w4 : (Jvm.Cond.code y ybs yl yret).before a0 Z = true) (hy : y.cls ≠ "java/lang/invoke/MethodHandle" ∧ y.cls ≠ "java/lang/invoke/VarHandle")
    (K : Con l y ybs yl yret (rmP fr lo) Z argsL.toArray T.heap (PureQ V T.heap)) (hf : fr + 1 ≤ R.frames) (hl : (rest.map fun v => v.category).sum + (yl + 11) + lo ≤ R.locals) (hcl : cells ≤ R.cells) (hsl : slots ≤ R.slots)
    (hlen : ∀ sig, parseMethodDescriptor y.desc = some sig → argsL.length = sig.parameters.length) (hsize : ls.size = c.maxLocals) (hst : st = argsL.reverse ++ rest) (hd : decode bs pc = .ok (.invokestatic index, 3)) (hp : pc + 3 = pn)
    (hr : ∀ (T' : State), Stand p l e R s m args below meth c T' locs cells slots → T'.heap = T.heap → Go p.tables e below Q (T'.setTop (mkF m pn ls (V :: rest)))) : Go p.tables e below Q (T.setTop (mkF m pc ls st)) := by
  refine callS X hx hby hZ hown w1 w2 w3 w4 hy K hf hl hcl hsl hlen hsize hst hd hp ?_
  intro v T' L hQ X'
  obtain ⟨rfl, rfl, eh⟩ := hQ
  exact hr T' (by simpa [rmP] using X') eh
end Stands
end Jvm.OwnGo
namespace Jvm.Pilot.@@N@@
open Jvm Jvm.ClassFile Sem Op Lib Jvm.Free Jvm.Stand Jvm.LawKit Jvm.RoadKit Bundle Jvm.Pilot.@@N@@.Jvm.D
def own_f1_198 : Int32 := (0 : Int32)
def own_f1_184 (p0 : Int32) : Int32 := (if p0 < (65534 : Int32) then (own_f1_198) else (if (65535 : Int32) < p0 then (own_f1_198) else (1 : Int32)))
def own_f1_170 (p0 : Int32) : Int32 := (if p0 < (64976 : Int32) then (own_f1_184 p0) else (if (65007 : Int32) < p0 then (own_f1_184 p0) else (1 : Int32)))
def own_f1_156 (p0 : Int32) : Int32 := (if p0 < (55296 : Int32) then (own_f1_170 p0) else (if (63743 : Int32) < p0 then (own_f1_170 p0) else (1 : Int32)))
def own_f1_140 (p0 : Int32) : Int32 := (if p0 < (12272 : Int32) then (own_f1_156 p0) else (if (12288 : Int32) < p0 then (own_f1_156 p0) else (1 : Int32)))
def own_f1_124 (p0 : Int32) : Int32 := (if p0 < (8592 : Int32) then (own_f1_140 p0) else (if (11263 : Int32) < p0 then (own_f1_140 p0) else (1 : Int32)))
def own_f1_108 (p0 : Int32) : Int32 := (if p0 < (8206 : Int32) then (own_f1_124 p0) else (if (8303 : Int32) < p0 then (own_f1_124 p0) else (1 : Int32)))
def own_f1_83 (p0 : Int32) : Int32 := (if p0 = (894 : Int32) then (1 : Int32) else (if p0 < (8192 : Int32) then (own_f1_108 p0) else (if (8203 : Int32) < p0 then (own_f1_108 p0) else (1 : Int32))))
def own_f1_65 : Int32 := (1 : Int32)
def own_f1_51 (p0 : Int32) : Int32 := (if p0 = (215 : Int32) then (own_f1_65) else (if p0 = (247 : Int32) then (own_f1_65) else (if p0 < (768 : Int32) then (own_f1_83 p0) else (if (879 : Int32) < p0 then (own_f1_83 p0) else (1 : Int32)))))
def own_f1_28 (p0 : Int32) : Int32 := (if p0 = (96 : Int32) then (1 : Int32) else (if p0 < (123 : Int32) then (own_f1_51 p0) else (if (191 : Int32) < p0 then (own_f1_51 p0) else (1 : Int32))))
def own_f1_12 : Int32 := (1 : Int32)
def own_f1 (p0 : Int32) : Int32 := (if p0 < (65 : Int32) then (own_f1_12) else (if (983039 : Int32) < p0 then (own_f1_12) else (if p0 < (91 : Int32) then (own_f1_28 p0) else (if (94 : Int32) < p0 then (own_f1_28 p0) else (1 : Int32)))))
theorem d1_0 : decode method_2_code 0 = .ok (.iload_n 0, 1) := by decide +kernel
theorem d1_1 : decode method_2_code 1 = .ok (.bipush 65, 2) := by decide +kernel
theorem d1_3 : decode method_2_code 3 = .ok (.if_icmp .lt 9, 3) := by decide +kernel
theorem d1_6 : decode method_2_code 6 = .ok (.iload_n 0, 1) := by decide +kernel
theorem d1_7 : decode method_2_code 7 = .ok (.ldc 7, 2) := by decide +kernel
theorem d1_9 : decode method_2_code 9 = .ok (.if_icmp .le 5, 3) := by decide +kernel
theorem d1_12 : decode method_2_code 12 = .ok (.iconst 1, 1) := by decide +kernel
theorem d1_13 : decode method_2_code 13 = .ok (.ireturn, 1) := by decide +kernel
theorem d1_14 : decode method_2_code 14 = .ok (.iload_n 0, 1) := by decide +kernel
theorem d1_15 : decode method_2_code 15 = .ok (.bipush 91, 2) := by decide +kernel
theorem d1_17 : decode method_2_code 17 = .ok (.if_icmp .lt 11, 3) := by decide +kernel
theorem d1_20 : decode method_2_code 20 = .ok (.iload_n 0, 1) := by decide +kernel
theorem d1_21 : decode method_2_code 21 = .ok (.bipush 94, 2) := by decide +kernel
theorem d1_23 : decode method_2_code 23 = .ok (.if_icmp .gt 5, 3) := by decide +kernel
theorem d1_26 : decode method_2_code 26 = .ok (.iconst 1, 1) := by decide +kernel
theorem d1_27 : decode method_2_code 27 = .ok (.ireturn, 1) := by decide +kernel
theorem d1_28 : decode method_2_code 28 = .ok (.iload_n 0, 1) := by decide +kernel
theorem d1_29 : decode method_2_code 29 = .ok (.bipush 96, 2) := by decide +kernel
theorem d1_31 : decode method_2_code 31 = .ok (.if_icmp .ne 5, 3) := by decide +kernel
theorem d1_34 : decode method_2_code 34 = .ok (.iconst 1, 1) := by decide +kernel
theorem d1_35 : decode method_2_code 35 = .ok (.ireturn, 1) := by decide +kernel
theorem d1_36 : decode method_2_code 36 = .ok (.iload_n 0, 1) := by decide +kernel
theorem d1_37 : decode method_2_code 37 = .ok (.bipush 123, 2) := by decide +kernel
theorem d1_39 : decode method_2_code 39 = .ok (.if_icmp .lt 12, 3) := by decide +kernel
theorem d1_42 : decode method_2_code 42 = .ok (.iload_n 0, 1) := by decide +kernel
theorem d1_43 : decode method_2_code 43 = .ok (.sipush 191, 3) := by decide +kernel
theorem d1_46 : decode method_2_code 46 = .ok (.if_icmp .gt 5, 3) := by decide +kernel
theorem d1_49 : decode method_2_code 49 = .ok (.iconst 1, 1) := by decide +kernel
theorem d1_50 : decode method_2_code 50 = .ok (.ireturn, 1) := by decide +kernel
theorem d1_51 : decode method_2_code 51 = .ok (.iload_n 0, 1) := by decide +kernel
theorem d1_52 : decode method_2_code 52 = .ok (.sipush 215, 3) := by decide +kernel
theorem d1_55 : decode method_2_code 55 = .ok (.if_icmp .eq 10, 3) := by decide +kernel
theorem d1_58 : decode method_2_code 58 = .ok (.iload_n 0, 1) := by decide +kernel
theorem d1_59 : decode method_2_code 59 = .ok (.sipush 247, 3) := by decide +kernel
theorem d1_62 : decode method_2_code 62 = .ok (.if_icmp .ne 5, 3) := by decide +kernel
theorem d1_65 : decode method_2_code 65 = .ok (.iconst 1, 1) := by decide +kernel
theorem d1_66 : decode method_2_code 66 = .ok (.ireturn, 1) := by decide +kernel
theorem d1_67 : decode method_2_code 67 = .ok (.iload_n 0, 1) := by decide +kernel
theorem d1_68 : decode method_2_code 68 = .ok (.sipush 768, 3) := by decide +kernel
theorem d1_71 : decode method_2_code 71 = .ok (.if_icmp .lt 12, 3) := by decide +kernel
theorem d1_74 : decode method_2_code 74 = .ok (.iload_n 0, 1) := by decide +kernel
theorem d1_75 : decode method_2_code 75 = .ok (.sipush 879, 3) := by decide +kernel
theorem d1_78 : decode method_2_code 78 = .ok (.if_icmp .gt 5, 3) := by decide +kernel
theorem d1_81 : decode method_2_code 81 = .ok (.iconst 1, 1) := by decide +kernel
theorem d1_82 : decode method_2_code 82 = .ok (.ireturn, 1) := by decide +kernel
theorem d1_83 : decode method_2_code 83 = .ok (.iload_n 0, 1) := by decide +kernel
theorem d1_84 : decode method_2_code 84 = .ok (.sipush 894, 3) := by decide +kernel
theorem d1_87 : decode method_2_code 87 = .ok (.if_icmp .ne 5, 3) := by decide +kernel
theorem d1_90 : decode method_2_code 90 = .ok (.iconst 1, 1) := by decide +kernel
theorem d1_91 : decode method_2_code 91 = .ok (.ireturn, 1) := by decide +kernel
theorem d1_92 : decode method_2_code 92 = .ok (.iload_n 0, 1) := by decide +kernel
theorem d1_93 : decode method_2_code 93 = .ok (.sipush 8192, 3) := by decide +kernel
theorem d1_96 : decode method_2_code 96 = .ok (.if_icmp .lt 12, 3) := by decide +kernel
theorem d1_99 : decode method_2_code 99 = .ok (.iload_n 0, 1) := by decide +kernel
theorem d1_100 : decode method_2_code 100 = .ok (.sipush 8203, 3) := by decide +kernel
theorem d1_103 : decode method_2_code 103 = .ok (.if_icmp .gt 5, 3) := by decide +kernel
theorem d1_106 : decode method_2_code 106 = .ok (.iconst 1, 1) := by decide +kernel
theorem d1_107 : decode method_2_code 107 = .ok (.ireturn, 1) := by decide +kernel
theorem d1_108 : decode method_2_code 108 = .ok (.iload_n 0, 1) := by decide +kernel
theorem d1_109 : decode method_2_code 109 = .ok (.sipush 8206, 3) := by decide +kernel
theorem d1_112 : decode method_2_code 112 = .ok (.if_icmp .lt 12, 3) := by decide +kernel
theorem d1_115 : decode method_2_code 115 = .ok (.iload_n 0, 1) := by decide +kernel
theorem d1_116 : decode method_2_code 116 = .ok (.sipush 8303, 3) := by decide +kernel
theorem d1_119 : decode method_2_code 119 = .ok (.if_icmp .gt 5, 3) := by decide +kernel
theorem d1_122 : decode method_2_code 122 = .ok (.iconst 1, 1) := by decide +kernel
theorem d1_123 : decode method_2_code 123 = .ok (.ireturn, 1) := by decide +kernel
theorem d1_124 : decode method_2_code 124 = .ok (.iload_n 0, 1) := by decide +kernel
theorem d1_125 : decode method_2_code 125 = .ok (.sipush 8592, 3) := by decide +kernel
theorem d1_128 : decode method_2_code 128 = .ok (.if_icmp .lt 12, 3) := by decide +kernel
theorem d1_131 : decode method_2_code 131 = .ok (.iload_n 0, 1) := by decide +kernel
theorem d1_132 : decode method_2_code 132 = .ok (.sipush 11263, 3) := by decide +kernel
theorem d1_135 : decode method_2_code 135 = .ok (.if_icmp .gt 5, 3) := by decide +kernel
theorem d1_138 : decode method_2_code 138 = .ok (.iconst 1, 1) := by decide +kernel
theorem d1_139 : decode method_2_code 139 = .ok (.ireturn, 1) := by decide +kernel
theorem d1_140 : decode method_2_code 140 = .ok (.iload_n 0, 1) := by decide +kernel
theorem d1_141 : decode method_2_code 141 = .ok (.sipush 12272, 3) := by decide +kernel
theorem d1_144 : decode method_2_code 144 = .ok (.if_icmp .lt 12, 3) := by decide +kernel
theorem d1_147 : decode method_2_code 147 = .ok (.iload_n 0, 1) := by decide +kernel
theorem d1_148 : decode method_2_code 148 = .ok (.sipush 12288, 3) := by decide +kernel
theorem d1_151 : decode method_2_code 151 = .ok (.if_icmp .gt 5, 3) := by decide +kernel
theorem d1_154 : decode method_2_code 154 = .ok (.iconst 1, 1) := by decide +kernel
theorem d1_155 : decode method_2_code 155 = .ok (.ireturn, 1) := by decide +kernel
theorem d1_156 : decode method_2_code 156 = .ok (.iload_n 0, 1) := by decide +kernel
theorem d1_157 : decode method_2_code 157 = .ok (.ldc 8, 2) := by decide +kernel
theorem d1_159 : decode method_2_code 159 = .ok (.if_icmp .lt 11, 3) := by decide +kernel
theorem d1_162 : decode method_2_code 162 = .ok (.iload_n 0, 1) := by decide +kernel
theorem d1_163 : decode method_2_code 163 = .ok (.ldc 9, 2) := by decide +kernel
theorem d1_165 : decode method_2_code 165 = .ok (.if_icmp .gt 5, 3) := by decide +kernel
theorem d1_168 : decode method_2_code 168 = .ok (.iconst 1, 1) := by decide +kernel
theorem d1_169 : decode method_2_code 169 = .ok (.ireturn, 1) := by decide +kernel
theorem d1_170 : decode method_2_code 170 = .ok (.iload_n 0, 1) := by decide +kernel
theorem d1_171 : decode method_2_code 171 = .ok (.ldc 10, 2) := by decide +kernel
theorem d1_173 : decode method_2_code 173 = .ok (.if_icmp .lt 11, 3) := by decide +kernel
theorem d1_176 : decode method_2_code 176 = .ok (.iload_n 0, 1) := by decide +kernel
theorem d1_177 : decode method_2_code 177 = .ok (.ldc 11, 2) := by decide +kernel
theorem d1_179 : decode method_2_code 179 = .ok (.if_icmp .gt 5, 3) := by decide +kernel
theorem d1_182 : decode method_2_code 182 = .ok (.iconst 1, 1) := by decide +kernel
theorem d1_183 : decode method_2_code 183 = .ok (.ireturn, 1) := by decide +kernel
theorem d1_184 : decode method_2_code 184 = .ok (.iload_n 0, 1) := by decide +kernel
theorem d1_185 : decode method_2_code 185 = .ok (.ldc 12, 2) := by decide +kernel
theorem d1_187 : decode method_2_code 187 = .ok (.if_icmp .lt 11, 3) := by decide +kernel
theorem d1_190 : decode method_2_code 190 = .ok (.iload_n 0, 1) := by decide +kernel
theorem d1_191 : decode method_2_code 191 = .ok (.ldc 13, 2) := by decide +kernel
theorem d1_193 : decode method_2_code 193 = .ok (.if_icmp .gt 5, 3) := by decide +kernel
theorem d1_196 : decode method_2_code 196 = .ok (.iconst 1, 1) := by decide +kernel
theorem d1_197 : decode method_2_code 197 = .ok (.ireturn, 1) := by decide +kernel
theorem d1_198 : decode method_2_code 198 = .ok (.iconst 0, 1) := by decide +kernel
theorem d1_199 : decode method_2_code 199 = .ok (.ireturn, 1) := by decide +kernel
theorem pn_0 : plainName "com/example/hedge_index/hedgeindex/xml/XmlCharactersIsNameStartPinLaw" = true := by first | (simp [plainName, overriddenIn]; done) | decide +kernel
theorem ef_1 (m : MethodId) (p0 : Int32) : entryFrame m #[(.int p0)] 1 = mkF m 0 #[.val (.int p0)] [] := by first | (simp [entryFrame, mkF, argsToLocals, Value.category]; done) | rfl
set_option maxRecDepth 65536 in
set_option maxHeartbeats 40000000 in
theorem rm_own_f1 (l : Launch) (Z : State) (a0 : Array Value) (hw : ∀ d ∈ tables_1, d.before a0 Z = true) (p0 : Int32) (h0 : Heap) :
    OwnGo.Con l (⟨"com/example/hedge_index/hedgeindex/xml/XmlCharactersIsNameStartPinLaw", "inGap", "(I)Z"⟩ : MethodName) method_2_code 1 (some .boolean) (OwnGo.rmP 0 0) Z #[(.int p0)] h0 (OwnGo.PureQ (.int (own_f1 p0)) h0) := by
  refine OwnGo.Con.intro pn_0 ?_
  intro p e s m below meth c T0 X0 hx hby hml hZ hown hnm hret hlk e0
  refine OwnGo.Go.cast (ef_1 m p0) ?_
  obtain ⟨r, hr⟩ : ∃ r, own_f1 p0 = r := ⟨_, rfl⟩
  rw [hr]
  have hfin : OwnGo.PureQ (.int r) h0 (some (.int r)) h0 [] := ⟨rfl, rfl, rfl⟩
  have B198 : ∀ (T0 : State) (X0 : Stand p l e (OwnGo.rmP 0 0) s m #[(.int p0)] below meth c T0 [] 0 0) (e0 : T0.heap = h0), own_f1_198 = r → OwnGo.Go p.tables e below (OwnGo.Qe s (OwnGo.rmP 0 0) (OwnGo.PureQ (.int r) h0)) (T0.setTop (mkF m 198 #[.val (.int p0)] [])) := by
    intro T0 X0 e0 hr
    unfold own_f1_198 at hr
    have W0 : OwnGo.Wk p.tables T0 m c below method_2_code := ⟨X0.here, hx, hby⟩
    refine OwnGo.iconst (v := (0 : Int32)) W0 (pn := 199) d1_198 rfl rfl ?_
    exact OwnGo.ireturn X0 hx hby hret hlk rfl (by simp) d1_199 (OwnGo.fin_of hr e0 hfin) (by decide) (by decide)
  have B184 : ∀ (T0 : State) (X0 : Stand p l e (OwnGo.rmP 0 0) s m #[(.int p0)] below meth c T0 [] 0 0) (e0 : T0.heap = h0), own_f1_184 p0 = r → OwnGo.Go p.tables e below (OwnGo.Qe s (OwnGo.rmP 0 0) (OwnGo.PureQ (.int r) h0)) (T0.setTop (mkF m 184 #[.val (.int p0)] [])) := by
    intro T0 X0 e0 hr
    unfold own_f1_184 at hr
    have W0 : OwnGo.Wk p.tables T0 m c below method_2_code := ⟨X0.here, hx, hby⟩
    refine OwnGo.iloadN W0 (pn := 185) d1_184 rfl rfl ?_
    refine OwnGo.ldcI X0 hx hby hZ hown (pn := 187) (hw _ (List.mem_of_getElem? (i := 14) rfl)) d1_185 rfl ?_
    refine OwnGo.icmp_lt W0 (pn := 190) (pt := 198) d1_187 rfl (by decide) (by decide) (fun h187 => ?_) (fun h187 => ?_)
    · rw [if_pos h187] at hr
      exact B198 _ X0 e0 hr
    · rw [if_neg h187] at hr
      refine OwnGo.iloadN W0 (pn := 191) d1_190 rfl rfl ?_
      refine OwnGo.ldcI X0 hx hby hZ hown (pn := 193) (hw _ (List.mem_of_getElem? (i := 21) rfl)) d1_191 rfl ?_
      refine OwnGo.icmp_gt W0 (pn := 196) (pt := 198) d1_193 rfl (by decide) (by decide) (fun h193 => ?_) (fun h193 => ?_)
      · rw [if_pos h193] at hr
        exact B198 _ X0 e0 hr
      · rw [if_neg h193] at hr
        refine OwnGo.iconst (v := (1 : Int32)) W0 (pn := 197) d1_196 rfl rfl ?_
        exact OwnGo.ireturn X0 hx hby hret hlk rfl (by simp) d1_197 (OwnGo.fin_of hr e0 hfin) (by decide) (by decide)
  have B170 : ∀ (T0 : State) (X0 : Stand p l e (OwnGo.rmP 0 0) s m #[(.int p0)] below meth c T0 [] 0 0) (e0 : T0.heap = h0), own_f1_170 p0 = r → OwnGo.Go p.tables e below (OwnGo.Qe s (OwnGo.rmP 0 0) (OwnGo.PureQ (.int r) h0)) (T0.setTop (mkF m 170 #[.val (.int p0)] [])) := by
    intro T0 X0 e0 hr
    unfold own_f1_170 at hr
    have W0 : OwnGo.Wk p.tables T0 m c below method_2_code := ⟨X0.here, hx, hby⟩
    refine OwnGo.iloadN W0 (pn := 171) d1_170 rfl rfl ?_
    refine OwnGo.ldcI X0 hx hby hZ hown (pn := 173) (hw _ (List.mem_of_getElem? (i := 13) rfl)) d1_171 rfl ?_
    refine OwnGo.icmp_lt W0 (pn := 176) (pt := 184) d1_173 rfl (by decide) (by decide) (fun h173 => ?_) (fun h173 => ?_)
    · rw [if_pos h173] at hr
      exact B184 _ X0 e0 hr
    · rw [if_neg h173] at hr
      refine OwnGo.iloadN W0 (pn := 177) d1_176 rfl rfl ?_
      refine OwnGo.ldcI X0 hx hby hZ hown (pn := 179) (hw _ (List.mem_of_getElem? (i := 20) rfl)) d1_177 rfl ?_
      refine OwnGo.icmp_gt W0 (pn := 182) (pt := 184) d1_179 rfl (by decide) (by decide) (fun h179 => ?_) (fun h179 => ?_)
      · rw [if_pos h179] at hr
        exact B184 _ X0 e0 hr
      · rw [if_neg h179] at hr
        refine OwnGo.iconst (v := (1 : Int32)) W0 (pn := 183) d1_182 rfl rfl ?_
        exact OwnGo.ireturn X0 hx hby hret hlk rfl (by simp) d1_183 (OwnGo.fin_of hr e0 hfin) (by decide) (by decide)
  have B156 : ∀ (T0 : State) (X0 : Stand p l e (OwnGo.rmP 0 0) s m #[(.int p0)] below meth c T0 [] 0 0) (e0 : T0.heap = h0), own_f1_156 p0 = r → OwnGo.Go p.tables e below (OwnGo.Qe s (OwnGo.rmP 0 0) (OwnGo.PureQ (.int r) h0)) (T0.setTop (mkF m 156 #[.val (.int p0)] [])) := by
    intro T0 X0 e0 hr
    unfold own_f1_156 at hr
    have W0 : OwnGo.Wk p.tables T0 m c below method_2_code := ⟨X0.here, hx, hby⟩
    refine OwnGo.iloadN W0 (pn := 157) d1_156 rfl rfl ?_
    refine OwnGo.ldcI X0 hx hby hZ hown (pn := 159) (hw _ (List.mem_of_getElem? (i := 12) rfl)) d1_157 rfl ?_
    refine OwnGo.icmp_lt W0 (pn := 162) (pt := 170) d1_159 rfl (by decide) (by decide) (fun h159 => ?_) (fun h159 => ?_)
    · rw [if_pos h159] at hr
      exact B170 _ X0 e0 hr
    · rw [if_neg h159] at hr
      refine OwnGo.iloadN W0 (pn := 163) d1_162 rfl rfl ?_
      refine OwnGo.ldcI X0 hx hby hZ hown (pn := 165) (hw _ (List.mem_of_getElem? (i := 19) rfl)) d1_163 rfl ?_
      refine OwnGo.icmp_gt W0 (pn := 168) (pt := 170) d1_165 rfl (by decide) (by decide) (fun h165 => ?_) (fun h165 => ?_)
      · rw [if_pos h165] at hr
        exact B170 _ X0 e0 hr
      · rw [if_neg h165] at hr
        refine OwnGo.iconst (v := (1 : Int32)) W0 (pn := 169) d1_168 rfl rfl ?_
        exact OwnGo.ireturn X0 hx hby hret hlk rfl (by simp) d1_169 (OwnGo.fin_of hr e0 hfin) (by decide) (by decide)
  have B140 : ∀ (T0 : State) (X0 : Stand p l e (OwnGo.rmP 0 0) s m #[(.int p0)] below meth c T0 [] 0 0) (e0 : T0.heap = h0), own_f1_140 p0 = r → OwnGo.Go p.tables e below (OwnGo.Qe s (OwnGo.rmP 0 0) (OwnGo.PureQ (.int r) h0)) (T0.setTop (mkF m 140 #[.val (.int p0)] [])) := by
    intro T0 X0 e0 hr
    unfold own_f1_140 at hr
    have W0 : OwnGo.Wk p.tables T0 m c below method_2_code := ⟨X0.here, hx, hby⟩
    refine OwnGo.iloadN W0 (pn := 141) d1_140 rfl rfl ?_
    refine OwnGo.sipush (v := (12272 : Int32)) W0 (pn := 144) d1_141 rfl rfl ?_
    refine OwnGo.icmp_lt W0 (pn := 147) (pt := 156) d1_144 rfl (by decide) (by decide) (fun h144 => ?_) (fun h144 => ?_)
    · rw [if_pos h144] at hr
      exact B156 _ X0 e0 hr
    · rw [if_neg h144] at hr
      refine OwnGo.iloadN W0 (pn := 148) d1_147 rfl rfl ?_
      refine OwnGo.sipush (v := (12288 : Int32)) W0 (pn := 151) d1_148 rfl rfl ?_
      refine OwnGo.icmp_gt W0 (pn := 154) (pt := 156) d1_151 rfl (by decide) (by decide) (fun h151 => ?_) (fun h151 => ?_)
      · rw [if_pos h151] at hr
        exact B156 _ X0 e0 hr
      · rw [if_neg h151] at hr
        refine OwnGo.iconst (v := (1 : Int32)) W0 (pn := 155) d1_154 rfl rfl ?_
        exact OwnGo.ireturn X0 hx hby hret hlk rfl (by simp) d1_155 (OwnGo.fin_of hr e0 hfin) (by decide) (by decide)
  have B124 : ∀ (T0 : State) (X0 : Stand p l e (OwnGo.rmP 0 0) s m #[(.int p0)] below meth c T0 [] 0 0) (e0 : T0.heap = h0), own_f1_124 p0 = r → OwnGo.Go p.tables e below (OwnGo.Qe s (OwnGo.rmP 0 0) (OwnGo.PureQ (.int r) h0)) (T0.setTop (mkF m 124 #[.val (.int p0)] [])) := by
    intro T0 X0 e0 hr
    unfold own_f1_124 at hr
    have W0 : OwnGo.Wk p.tables T0 m c below method_2_code := ⟨X0.here, hx, hby⟩
    refine OwnGo.iloadN W0 (pn := 125) d1_124 rfl rfl ?_
    refine OwnGo.sipush (v := (8592 : Int32)) W0 (pn := 128) d1_125 rfl rfl ?_
    refine OwnGo.icmp_lt W0 (pn := 131) (pt := 140) d1_128 rfl (by decide) (by decide) (fun h128 => ?_) (fun h128 => ?_)
    · rw [if_pos h128] at hr
      exact B140 _ X0 e0 hr
    · rw [if_neg h128] at hr
      refine OwnGo.iloadN W0 (pn := 132) d1_131 rfl rfl ?_
      refine OwnGo.sipush (v := (11263 : Int32)) W0 (pn := 135) d1_132 rfl rfl ?_
      refine OwnGo.icmp_gt W0 (pn := 138) (pt := 140) d1_135 rfl (by decide) (by decide) (fun h135 => ?_) (fun h135 => ?_)
      · rw [if_pos h135] at hr
        exact B140 _ X0 e0 hr
      · rw [if_neg h135] at hr
        refine OwnGo.iconst (v := (1 : Int32)) W0 (pn := 139) d1_138 rfl rfl ?_
        exact OwnGo.ireturn X0 hx hby hret hlk rfl (by simp) d1_139 (OwnGo.fin_of hr e0 hfin) (by decide) (by decide)
  have B108 : ∀ (T0 : State) (X0 : Stand p l e (OwnGo.rmP 0 0) s m #[(.int p0)] below meth c T0 [] 0 0) (e0 : T0.heap = h0), own_f1_108 p0 = r → OwnGo.Go p.tables e below (OwnGo.Qe s (OwnGo.rmP 0 0) (OwnGo.PureQ (.int r) h0)) (T0.setTop (mkF m 108 #[.val (.int p0)] [])) := by
    intro T0 X0 e0 hr
    unfold own_f1_108 at hr
    have W0 : OwnGo.Wk p.tables T0 m c below method_2_code := ⟨X0.here, hx, hby⟩
    refine OwnGo.iloadN W0 (pn := 109) d1_108 rfl rfl ?_
    refine OwnGo.sipush (v := (8206 : Int32)) W0 (pn := 112) d1_109 rfl rfl ?_
    refine OwnGo.icmp_lt W0 (pn := 115) (pt := 124) d1_112 rfl (by decide) (by decide) (fun h112 => ?_) (fun h112 => ?_)
    · rw [if_pos h112] at hr
      exact B124 _ X0 e0 hr
    · rw [if_neg h112] at hr
      refine OwnGo.iloadN W0 (pn := 116) d1_115 rfl rfl ?_
      refine OwnGo.sipush (v := (8303 : Int32)) W0 (pn := 119) d1_116 rfl rfl ?_
      refine OwnGo.icmp_gt W0 (pn := 122) (pt := 124) d1_119 rfl (by decide) (by decide) (fun h119 => ?_) (fun h119 => ?_)
      · rw [if_pos h119] at hr
        exact B124 _ X0 e0 hr
      · rw [if_neg h119] at hr
        refine OwnGo.iconst (v := (1 : Int32)) W0 (pn := 123) d1_122 rfl rfl ?_
        exact OwnGo.ireturn X0 hx hby hret hlk rfl (by simp) d1_123 (OwnGo.fin_of hr e0 hfin) (by decide) (by decide)
  have B83 : ∀ (T0 : State) (X0 : Stand p l e (OwnGo.rmP 0 0) s m #[(.int p0)] below meth c T0 [] 0 0) (e0 : T0.heap = h0), own_f1_83 p0 = r → OwnGo.Go p.tables e below (OwnGo.Qe s (OwnGo.rmP 0 0) (OwnGo.PureQ (.int r) h0)) (T0.setTop (mkF m 83 #[.val (.int p0)] [])) := by
    intro T0 X0 e0 hr
    unfold own_f1_83 at hr
    have W0 : OwnGo.Wk p.tables T0 m c below method_2_code := ⟨X0.here, hx, hby⟩
    refine OwnGo.iloadN W0 (pn := 84) d1_83 rfl rfl ?_
    refine OwnGo.sipush (v := (894 : Int32)) W0 (pn := 87) d1_84 rfl rfl ?_
    refine OwnGo.icmp_ne W0 (pn := 90) (pt := 92) d1_87 rfl (by decide) (by decide) (fun h87 => ?_) (fun h87 => ?_)
    · rw [if_pos h87] at hr
      refine OwnGo.iconst (v := (1 : Int32)) W0 (pn := 91) d1_90 rfl rfl ?_
      exact OwnGo.ireturn X0 hx hby hret hlk rfl (by simp) d1_91 (OwnGo.fin_of hr e0 hfin) (by decide) (by decide)
    · rw [if_neg h87] at hr
      refine OwnGo.iloadN W0 (pn := 93) d1_92 rfl rfl ?_
      refine OwnGo.sipush (v := (8192 : Int32)) W0 (pn := 96) d1_93 rfl rfl ?_
      refine OwnGo.icmp_lt W0 (pn := 99) (pt := 108) d1_96 rfl (by decide) (by decide) (fun h96 => ?_) (fun h96 => ?_)
      · rw [if_pos h96] at hr
        exact B108 _ X0 e0 hr
      · rw [if_neg h96] at hr
        refine OwnGo.iloadN W0 (pn := 100) d1_99 rfl rfl ?_
        refine OwnGo.sipush (v := (8203 : Int32)) W0 (pn := 103) d1_100 rfl rfl ?_
        refine OwnGo.icmp_gt W0 (pn := 106) (pt := 108) d1_103 rfl (by decide) (by decide) (fun h103 => ?_) (fun h103 => ?_)
        · rw [if_pos h103] at hr
          exact B108 _ X0 e0 hr
        · rw [if_neg h103] at hr
          refine OwnGo.iconst (v := (1 : Int32)) W0 (pn := 107) d1_106 rfl rfl ?_
          exact OwnGo.ireturn X0 hx hby hret hlk rfl (by simp) d1_107 (OwnGo.fin_of hr e0 hfin) (by decide) (by decide)
  have B65 : ∀ (T0 : State) (X0 : Stand p l e (OwnGo.rmP 0 0) s m #[(.int p0)] below meth c T0 [] 0 0) (e0 : T0.heap = h0), own_f1_65 = r → OwnGo.Go p.tables e below (OwnGo.Qe s (OwnGo.rmP 0 0) (OwnGo.PureQ (.int r) h0)) (T0.setTop (mkF m 65 #[.val (.int p0)] [])) := by
    intro T0 X0 e0 hr
    unfold own_f1_65 at hr
    have W0 : OwnGo.Wk p.tables T0 m c below method_2_code := ⟨X0.here, hx, hby⟩
    refine OwnGo.iconst (v := (1 : Int32)) W0 (pn := 66) d1_65 rfl rfl ?_
    exact OwnGo.ireturn X0 hx hby hret hlk rfl (by simp) d1_66 (OwnGo.fin_of hr e0 hfin) (by decide) (by decide)
  have B51 : ∀ (T0 : State) (X0 : Stand p l e (OwnGo.rmP 0 0) s m #[(.int p0)] below meth c T0 [] 0 0) (e0 : T0.heap = h0), own_f1_51 p0 = r → OwnGo.Go p.tables e below (OwnGo.Qe s (OwnGo.rmP 0 0) (OwnGo.PureQ (.int r) h0)) (T0.setTop (mkF m 51 #[.val (.int p0)] [])) := by
    intro T0 X0 e0 hr
    unfold own_f1_51 at hr
    have W0 : OwnGo.Wk p.tables T0 m c below method_2_code := ⟨X0.here, hx, hby⟩
    refine OwnGo.iloadN W0 (pn := 52) d1_51 rfl rfl ?_
    refine OwnGo.sipush (v := (215 : Int32)) W0 (pn := 55) d1_52 rfl rfl ?_
    refine OwnGo.icmp_eq W0 (pn := 58) (pt := 65) d1_55 rfl (by decide) (by decide) (fun h55 => ?_) (fun h55 => ?_)
    · rw [if_pos h55] at hr
      exact B65 _ X0 e0 hr
    · rw [if_neg h55] at hr
      refine OwnGo.iloadN W0 (pn := 59) d1_58 rfl rfl ?_
      refine OwnGo.sipush (v := (247 : Int32)) W0 (pn := 62) d1_59 rfl rfl ?_
      refine OwnGo.icmp_ne W0 (pn := 65) (pt := 67) d1_62 rfl (by decide) (by decide) (fun h62 => ?_) (fun h62 => ?_)
      · rw [if_pos h62] at hr
        exact B65 _ X0 e0 hr
      · rw [if_neg h62] at hr
        refine OwnGo.iloadN W0 (pn := 68) d1_67 rfl rfl ?_
        refine OwnGo.sipush (v := (768 : Int32)) W0 (pn := 71) d1_68 rfl rfl ?_
        refine OwnGo.icmp_lt W0 (pn := 74) (pt := 83) d1_71 rfl (by decide) (by decide) (fun h71 => ?_) (fun h71 => ?_)
        · rw [if_pos h71] at hr
          exact B83 _ X0 e0 hr
        · rw [if_neg h71] at hr
          refine OwnGo.iloadN W0 (pn := 75) d1_74 rfl rfl ?_
          refine OwnGo.sipush (v := (879 : Int32)) W0 (pn := 78) d1_75 rfl rfl ?_
          refine OwnGo.icmp_gt W0 (pn := 81) (pt := 83) d1_78 rfl (by decide) (by decide) (fun h78 => ?_) (fun h78 => ?_)
          · rw [if_pos h78] at hr
            exact B83 _ X0 e0 hr
          · rw [if_neg h78] at hr
            refine OwnGo.iconst (v := (1 : Int32)) W0 (pn := 82) d1_81 rfl rfl ?_
            exact OwnGo.ireturn X0 hx hby hret hlk rfl (by simp) d1_82 (OwnGo.fin_of hr e0 hfin) (by decide) (by decide)
  have B28 : ∀ (T0 : State) (X0 : Stand p l e (OwnGo.rmP 0 0) s m #[(.int p0)] below meth c T0 [] 0 0) (e0 : T0.heap = h0), own_f1_28 p0 = r → OwnGo.Go p.tables e below (OwnGo.Qe s (OwnGo.rmP 0 0) (OwnGo.PureQ (.int r) h0)) (T0.setTop (mkF m 28 #[.val (.int p0)] [])) := by
    intro T0 X0 e0 hr
    unfold own_f1_28 at hr
    have W0 : OwnGo.Wk p.tables T0 m c below method_2_code := ⟨X0.here, hx, hby⟩
    refine OwnGo.iloadN W0 (pn := 29) d1_28 rfl rfl ?_
    refine OwnGo.bipush (v := (96 : Int32)) W0 (pn := 31) d1_29 rfl rfl ?_
    refine OwnGo.icmp_ne W0 (pn := 34) (pt := 36) d1_31 rfl (by decide) (by decide) (fun h31 => ?_) (fun h31 => ?_)
    · rw [if_pos h31] at hr
      refine OwnGo.iconst (v := (1 : Int32)) W0 (pn := 35) d1_34 rfl rfl ?_
      exact OwnGo.ireturn X0 hx hby hret hlk rfl (by simp) d1_35 (OwnGo.fin_of hr e0 hfin) (by decide) (by decide)
    · rw [if_neg h31] at hr
      refine OwnGo.iloadN W0 (pn := 37) d1_36 rfl rfl ?_
      refine OwnGo.bipush (v := (123 : Int32)) W0 (pn := 39) d1_37 rfl rfl ?_
      refine OwnGo.icmp_lt W0 (pn := 42) (pt := 51) d1_39 rfl (by decide) (by decide) (fun h39 => ?_) (fun h39 => ?_)
      · rw [if_pos h39] at hr
        exact B51 _ X0 e0 hr
      · rw [if_neg h39] at hr
        refine OwnGo.iloadN W0 (pn := 43) d1_42 rfl rfl ?_
        refine OwnGo.sipush (v := (191 : Int32)) W0 (pn := 46) d1_43 rfl rfl ?_
        refine OwnGo.icmp_gt W0 (pn := 49) (pt := 51) d1_46 rfl (by decide) (by decide) (fun h46 => ?_) (fun h46 => ?_)
        · rw [if_pos h46] at hr
          exact B51 _ X0 e0 hr
        · rw [if_neg h46] at hr
          refine OwnGo.iconst (v := (1 : Int32)) W0 (pn := 50) d1_49 rfl rfl ?_
          exact OwnGo.ireturn X0 hx hby hret hlk rfl (by simp) d1_50 (OwnGo.fin_of hr e0 hfin) (by decide) (by decide)
  have B12 : ∀ (T0 : State) (X0 : Stand p l e (OwnGo.rmP 0 0) s m #[(.int p0)] below meth c T0 [] 0 0) (e0 : T0.heap = h0), own_f1_12 = r → OwnGo.Go p.tables e below (OwnGo.Qe s (OwnGo.rmP 0 0) (OwnGo.PureQ (.int r) h0)) (T0.setTop (mkF m 12 #[.val (.int p0)] [])) := by
    intro T0 X0 e0 hr
    unfold own_f1_12 at hr
    have W0 : OwnGo.Wk p.tables T0 m c below method_2_code := ⟨X0.here, hx, hby⟩
    refine OwnGo.iconst (v := (1 : Int32)) W0 (pn := 13) d1_12 rfl rfl ?_
    exact OwnGo.ireturn X0 hx hby hret hlk rfl (by simp) d1_13 (OwnGo.fin_of hr e0 hfin) (by decide) (by decide)
  unfold own_f1 at hr
  have W0 : OwnGo.Wk p.tables T0 m c below method_2_code := ⟨X0.here, hx, hby⟩
  refine OwnGo.iloadN W0 (pn := 1) d1_0 rfl rfl ?_
  refine OwnGo.bipush (v := (65 : Int32)) W0 (pn := 3) d1_1 rfl rfl ?_
  refine OwnGo.icmp_lt W0 (pn := 6) (pt := 12) d1_3 rfl (by decide) (by decide) (fun h3 => ?_) (fun h3 => ?_)
  · rw [if_pos h3] at hr
    exact B12 _ X0 e0 hr
  · rw [if_neg h3] at hr
    refine OwnGo.iloadN W0 (pn := 7) d1_6 rfl rfl ?_
    refine OwnGo.ldcI X0 hx hby hZ hown (pn := 9) (hw _ (List.mem_of_getElem? (i := 11) rfl)) d1_7 rfl ?_
    refine OwnGo.icmp_le W0 (pn := 12) (pt := 14) d1_9 rfl (by decide) (by decide) (fun h9 => ?_) (fun h9 => ?_)
    · rw [if_pos h9] at hr
      exact B12 _ X0 e0 hr
    · rw [if_neg h9] at hr
      refine OwnGo.iloadN W0 (pn := 15) d1_14 rfl rfl ?_
      refine OwnGo.bipush (v := (91 : Int32)) W0 (pn := 17) d1_15 rfl rfl ?_
      refine OwnGo.icmp_lt W0 (pn := 20) (pt := 28) d1_17 rfl (by decide) (by decide) (fun h17 => ?_) (fun h17 => ?_)
      · rw [if_pos h17] at hr
        exact B28 _ X0 e0 hr
      · rw [if_neg h17] at hr
        refine OwnGo.iloadN W0 (pn := 21) d1_20 rfl rfl ?_
        refine OwnGo.bipush (v := (94 : Int32)) W0 (pn := 23) d1_21 rfl rfl ?_
        refine OwnGo.icmp_gt W0 (pn := 26) (pt := 28) d1_23 rfl (by decide) (by decide) (fun h23 => ?_) (fun h23 => ?_)
        · rw [if_pos h23] at hr
          exact B28 _ X0 e0 hr
        · rw [if_neg h23] at hr
          refine OwnGo.iconst (v := (1 : Int32)) W0 (pn := 27) d1_26 rfl rfl ?_
          exact OwnGo.ireturn X0 hx hby hret hlk rfl (by simp) d1_27 (OwnGo.fin_of hr e0 hfin) (by decide) (by decide)
def own_f2_195 : Int32 := (0 : Int32)
def own_f2_191 : Int32 := (1 : Int32)
def own_f2_179 (p0 : Int32) : Int32 := (if p0 < (65536 : Int32) then (own_f2_195) else (if (983039 : Int32) < p0 then (own_f2_195) else (own_f2_191)))
def own_f2_167 (p0 : Int32) : Int32 := (if p0 < (65008 : Int32) then (own_f2_179 p0) else (if (65533 : Int32) < p0 then (own_f2_179 p0) else (own_f2_191)))
def own_f2_155 (p0 : Int32) : Int32 := (if p0 < (63744 : Int32) then (own_f2_167 p0) else (if (64975 : Int32) < p0 then (own_f2_167 p0) else (own_f2_191)))
def own_f2_142 (p0 : Int32) : Int32 := (if p0 < (12289 : Int32) then (own_f2_155 p0) else (if (55295 : Int32) < p0 then (own_f2_155 p0) else (own_f2_191)))
def own_f2_128 (p0 : Int32) : Int32 := (if p0 < (11264 : Int32) then (own_f2_142 p0) else (if (12271 : Int32) < p0 then (own_f2_142 p0) else (own_f2_191)))
def own_f2_100 (p0 : Int32) : Int32 := (if p0 = (8204 : Int32) then (own_f2_191) else (if p0 = (8205 : Int32) then (own_f2_191) else (if p0 < (8304 : Int32) then (own_f2_128 p0) else (if (8591 : Int32) < p0 then (own_f2_128 p0) else (own_f2_191)))))
def own_f2_86 (p0 : Int32) : Int32 := (if p0 < (895 : Int32) then (own_f2_100 p0) else (if (8191 : Int32) < p0 then (own_f2_100 p0) else (own_f2_191)))
def own_f2_72 (p0 : Int32) : Int32 := (if p0 < (880 : Int32) then (own_f2_86 p0) else (if (893 : Int32) < p0 then (own_f2_86 p0) else (own_f2_191)))
def own_f2_58 (p0 : Int32) : Int32 := (if p0 < (248 : Int32) then (own_f2_72 p0) else (if (767 : Int32) < p0 then (own_f2_72 p0) else (own_f2_191)))
def own_f2_44 (p0 : Int32) : Int32 := (if p0 < (216 : Int32) then (own_f2_58 p0) else (if (246 : Int32) < p0 then (own_f2_58 p0) else (own_f2_191)))
def own_f2_30 (p0 : Int32) : Int32 := (if p0 < (192 : Int32) then (own_f2_44 p0) else (if (214 : Int32) < p0 then (own_f2_44 p0) else (own_f2_191)))
def own_f2_12 (p0 : Int32) : Int32 := (if p0 = (95 : Int32) then (own_f2_191) else (if p0 < (97 : Int32) then (own_f2_30 p0) else (if (122 : Int32) < p0 then (own_f2_30 p0) else (own_f2_191))))
def own_f2 (p0 : Int32) : Int32 := (if p0 < (65 : Int32) then (own_f2_12 p0) else (if (90 : Int32) < p0 then (own_f2_12 p0) else (own_f2_191)))
theorem d2_0 : decode prog_120_method_3_code 0 = .ok (.iload_n 0, 1) := by decide +kernel
theorem d2_1 : decode prog_120_method_3_code 1 = .ok (.bipush 65, 2) := by decide +kernel
theorem d2_3 : decode prog_120_method_3_code 3 = .ok (.if_icmp .lt 9, 3) := by decide +kernel
theorem d2_6 : decode prog_120_method_3_code 6 = .ok (.iload_n 0, 1) := by decide +kernel
theorem d2_7 : decode prog_120_method_3_code 7 = .ok (.bipush 90, 2) := by decide +kernel
theorem d2_9 : decode prog_120_method_3_code 9 = .ok (.if_icmp .le 182, 3) := by decide +kernel
theorem d2_12 : decode prog_120_method_3_code 12 = .ok (.iload_n 0, 1) := by decide +kernel
theorem d2_13 : decode prog_120_method_3_code 13 = .ok (.bipush 95, 2) := by decide +kernel
theorem d2_15 : decode prog_120_method_3_code 15 = .ok (.if_icmp .eq 176, 3) := by decide +kernel
theorem d2_18 : decode prog_120_method_3_code 18 = .ok (.iload_n 0, 1) := by decide +kernel
theorem d2_19 : decode prog_120_method_3_code 19 = .ok (.bipush 97, 2) := by decide +kernel
theorem d2_21 : decode prog_120_method_3_code 21 = .ok (.if_icmp .lt 9, 3) := by decide +kernel
theorem d2_24 : decode prog_120_method_3_code 24 = .ok (.iload_n 0, 1) := by decide +kernel
theorem d2_25 : decode prog_120_method_3_code 25 = .ok (.bipush 122, 2) := by decide +kernel
theorem d2_27 : decode prog_120_method_3_code 27 = .ok (.if_icmp .le 164, 3) := by decide +kernel
theorem d2_30 : decode prog_120_method_3_code 30 = .ok (.iload_n 0, 1) := by decide +kernel
theorem d2_31 : decode prog_120_method_3_code 31 = .ok (.sipush 192, 3) := by decide +kernel
theorem d2_34 : decode prog_120_method_3_code 34 = .ok (.if_icmp .lt 10, 3) := by decide +kernel
theorem d2_37 : decode prog_120_method_3_code 37 = .ok (.iload_n 0, 1) := by decide +kernel
theorem d2_38 : decode prog_120_method_3_code 38 = .ok (.sipush 214, 3) := by decide +kernel
theorem d2_41 : decode prog_120_method_3_code 41 = .ok (.if_icmp .le 150, 3) := by decide +kernel
theorem d2_44 : decode prog_120_method_3_code 44 = .ok (.iload_n 0, 1) := by decide +kernel
theorem d2_45 : decode prog_120_method_3_code 45 = .ok (.sipush 216, 3) := by decide +kernel
theorem d2_48 : decode prog_120_method_3_code 48 = .ok (.if_icmp .lt 10, 3) := by decide +kernel
theorem d2_51 : decode prog_120_method_3_code 51 = .ok (.iload_n 0, 1) := by decide +kernel
theorem d2_52 : decode prog_120_method_3_code 52 = .ok (.sipush 246, 3) := by decide +kernel
theorem d2_55 : decode prog_120_method_3_code 55 = .ok (.if_icmp .le 136, 3) := by decide +kernel
theorem d2_58 : decode prog_120_method_3_code 58 = .ok (.iload_n 0, 1) := by decide +kernel
theorem d2_59 : decode prog_120_method_3_code 59 = .ok (.sipush 248, 3) := by decide +kernel
theorem d2_62 : decode prog_120_method_3_code 62 = .ok (.if_icmp .lt 10, 3) := by decide +kernel
theorem d2_65 : decode prog_120_method_3_code 65 = .ok (.iload_n 0, 1) := by decide +kernel
theorem d2_66 : decode prog_120_method_3_code 66 = .ok (.sipush 767, 3) := by decide +kernel
theorem d2_69 : decode prog_120_method_3_code 69 = .ok (.if_icmp .le 122, 3) := by decide +kernel
theorem d2_72 : decode prog_120_method_3_code 72 = .ok (.iload_n 0, 1) := by decide +kernel
theorem d2_73 : decode prog_120_method_3_code 73 = .ok (.sipush 880, 3) := by decide +kernel
theorem d2_76 : decode prog_120_method_3_code 76 = .ok (.if_icmp .lt 10, 3) := by decide +kernel
theorem d2_79 : decode prog_120_method_3_code 79 = .ok (.iload_n 0, 1) := by decide +kernel
theorem d2_80 : decode prog_120_method_3_code 80 = .ok (.sipush 893, 3) := by decide +kernel
theorem d2_83 : decode prog_120_method_3_code 83 = .ok (.if_icmp .le 108, 3) := by decide +kernel
theorem d2_86 : decode prog_120_method_3_code 86 = .ok (.iload_n 0, 1) := by decide +kernel
theorem d2_87 : decode prog_120_method_3_code 87 = .ok (.sipush 895, 3) := by decide +kernel
theorem d2_90 : decode prog_120_method_3_code 90 = .ok (.if_icmp .lt 10, 3) := by decide +kernel
theorem d2_93 : decode prog_120_method_3_code 93 = .ok (.iload_n 0, 1) := by decide +kernel
theorem d2_94 : decode prog_120_method_3_code 94 = .ok (.sipush 8191, 3) := by decide +kernel
theorem d2_97 : decode prog_120_method_3_code 97 = .ok (.if_icmp .le 94, 3) := by decide +kernel
theorem d2_100 : decode prog_120_method_3_code 100 = .ok (.iload_n 0, 1) := by decide +kernel
theorem d2_101 : decode prog_120_method_3_code 101 = .ok (.sipush 8204, 3) := by decide +kernel
theorem d2_104 : decode prog_120_method_3_code 104 = .ok (.if_icmp .eq 87, 3) := by decide +kernel
theorem d2_107 : decode prog_120_method_3_code 107 = .ok (.iload_n 0, 1) := by decide +kernel
theorem d2_108 : decode prog_120_method_3_code 108 = .ok (.sipush 8205, 3) := by decide +kernel
theorem d2_111 : decode prog_120_method_3_code 111 = .ok (.if_icmp .eq 80, 3) := by decide +kernel
theorem d2_114 : decode prog_120_method_3_code 114 = .ok (.iload_n 0, 1) := by decide +kernel
theorem d2_115 : decode prog_120_method_3_code 115 = .ok (.sipush 8304, 3) := by decide +kernel
theorem d2_118 : decode prog_120_method_3_code 118 = .ok (.if_icmp .lt 10, 3) := by decide +kernel
theorem d2_121 : decode prog_120_method_3_code 121 = .ok (.iload_n 0, 1) := by decide +kernel
theorem d2_122 : decode prog_120_method_3_code 122 = .ok (.sipush 8591, 3) := by decide +kernel
theorem d2_125 : decode prog_120_method_3_code 125 = .ok (.if_icmp .le 66, 3) := by decide +kernel
theorem d2_128 : decode prog_120_method_3_code 128 = .ok (.iload_n 0, 1) := by decide +kernel
theorem d2_129 : decode prog_120_method_3_code 129 = .ok (.sipush 11264, 3) := by decide +kernel
theorem d2_132 : decode prog_120_method_3_code 132 = .ok (.if_icmp .lt 10, 3) := by decide +kernel
theorem d2_135 : decode prog_120_method_3_code 135 = .ok (.iload_n 0, 1) := by decide +kernel
theorem d2_136 : decode prog_120_method_3_code 136 = .ok (.sipush 12271, 3) := by decide +kernel
theorem d2_139 : decode prog_120_method_3_code 139 = .ok (.if_icmp .le 52, 3) := by decide +kernel
theorem d2_142 : decode prog_120_method_3_code 142 = .ok (.iload_n 0, 1) := by decide +kernel
theorem d2_143 : decode prog_120_method_3_code 143 = .ok (.sipush 12289, 3) := by decide +kernel
theorem d2_146 : decode prog_120_method_3_code 146 = .ok (.if_icmp .lt 9, 3) := by decide +kernel
theorem d2_149 : decode prog_120_method_3_code 149 = .ok (.iload_n 0, 1) := by decide +kernel
theorem d2_150 : decode prog_120_method_3_code 150 = .ok (.ldc 7, 2) := by decide +kernel
theorem d2_152 : decode prog_120_method_3_code 152 = .ok (.if_icmp .le 39, 3) := by decide +kernel
theorem d2_155 : decode prog_120_method_3_code 155 = .ok (.iload_n 0, 1) := by decide +kernel
theorem d2_156 : decode prog_120_method_3_code 156 = .ok (.ldc 14, 2) := by decide +kernel
theorem d2_158 : decode prog_120_method_3_code 158 = .ok (.if_icmp .lt 9, 3) := by decide +kernel
theorem d2_161 : decode prog_120_method_3_code 161 = .ok (.iload_n 0, 1) := by decide +kernel
theorem d2_162 : decode prog_120_method_3_code 162 = .ok (.ldc 15, 2) := by decide +kernel
theorem d2_164 : decode prog_120_method_3_code 164 = .ok (.if_icmp .le 27, 3) := by decide +kernel
theorem d2_167 : decode prog_120_method_3_code 167 = .ok (.iload_n 0, 1) := by decide +kernel
theorem d2_168 : decode prog_120_method_3_code 168 = .ok (.ldc 16, 2) := by decide +kernel
theorem d2_170 : decode prog_120_method_3_code 170 = .ok (.if_icmp .lt 9, 3) := by decide +kernel
theorem d2_173 : decode prog_120_method_3_code 173 = .ok (.iload_n 0, 1) := by decide +kernel
theorem d2_174 : decode prog_120_method_3_code 174 = .ok (.ldc 9, 2) := by decide +kernel
theorem d2_176 : decode prog_120_method_3_code 176 = .ok (.if_icmp .le 15, 3) := by decide +kernel
theorem d2_179 : decode prog_120_method_3_code 179 = .ok (.iload_n 0, 1) := by decide +kernel
theorem d2_180 : decode prog_120_method_3_code 180 = .ok (.ldc 10, 2) := by decide +kernel
theorem d2_182 : decode prog_120_method_3_code 182 = .ok (.if_icmp .lt 13, 3) := by decide +kernel
theorem d2_185 : decode prog_120_method_3_code 185 = .ok (.iload_n 0, 1) := by decide +kernel
theorem d2_186 : decode prog_120_method_3_code 186 = .ok (.ldc 17, 2) := by decide +kernel
theorem d2_188 : decode prog_120_method_3_code 188 = .ok (.if_icmp .gt 7, 3) := by decide +kernel
theorem d2_191 : decode prog_120_method_3_code 191 = .ok (.iconst 1, 1) := by decide +kernel
theorem d2_192 : decode prog_120_method_3_code 192 = .ok (.goto 4, 3) := by decide +kernel
theorem d2_195 : decode prog_120_method_3_code 195 = .ok (.iconst 0, 1) := by decide +kernel
theorem d2_196 : decode prog_120_method_3_code 196 = .ok (.ireturn, 1) := by decide +kernel
theorem pn_1 : plainName "com/example/hedge_index/hedgeindex/xml/XmlCharacters" = true := by first | (simp [plainName, overriddenIn]; done) | decide +kernel
theorem ef_2 (m : MethodId) (p0 : Int32) : entryFrame m #[(.int p0)] 1 = mkF m 0 #[.val (.int p0)] [] := by first | (simp [entryFrame, mkF, argsToLocals, Value.category]; done) | rfl
set_option maxRecDepth 65536 in
set_option maxHeartbeats 40000000 in
theorem rm_own_f2 (l : Launch) (Z : State) (a0 : Array Value) (hw : ∀ d ∈ tables_1, d.before a0 Z = true) (p0 : Int32) (h0 : Heap) :
    OwnGo.Con l (⟨"com/example/hedge_index/hedgeindex/xml/XmlCharacters", "isNameStart", "(I)Z"⟩ : MethodName) prog_120_method_3_code 1 (some .boolean) (OwnGo.rmP 0 0) Z #[(.int p0)] h0 (OwnGo.PureQ (.int (own_f2 p0)) h0) := by
  refine OwnGo.Con.intro pn_1 ?_
  intro p e s m below meth c T0 X0 hx hby hml hZ hown hnm hret hlk e0
  refine OwnGo.Go.cast (ef_2 m p0) ?_
  obtain ⟨r, hr⟩ : ∃ r, own_f2 p0 = r := ⟨_, rfl⟩
  rw [hr]
  have hfin : OwnGo.PureQ (.int r) h0 (some (.int r)) h0 [] := ⟨rfl, rfl, rfl⟩
  have B195 : ∀ (T0 : State) (X0 : Stand p l e (OwnGo.rmP 0 0) s m #[(.int p0)] below meth c T0 [] 0 0) (e0 : T0.heap = h0), own_f2_195 = r → OwnGo.Go p.tables e below (OwnGo.Qe s (OwnGo.rmP 0 0) (OwnGo.PureQ (.int r) h0)) (T0.setTop (mkF m 195 #[.val (.int p0)] [])) := by
    intro T0 X0 e0 hr
    unfold own_f2_195 at hr
    have W0 : OwnGo.Wk p.tables T0 m c below prog_120_method_3_code := ⟨X0.here, hx, hby⟩
    refine OwnGo.iconst (v := (0 : Int32)) W0 (pn := 196) d2_195 rfl rfl ?_
    exact OwnGo.ireturn X0 hx hby hret hlk rfl (by simp) d2_196 (OwnGo.fin_of hr e0 hfin) (by decide) (by decide)
  have B191 : ∀ (T0 : State) (X0 : Stand p l e (OwnGo.rmP 0 0) s m #[(.int p0)] below meth c T0 [] 0 0) (e0 : T0.heap = h0), own_f2_191 = r → OwnGo.Go p.tables e below (OwnGo.Qe s (OwnGo.rmP 0 0) (OwnGo.PureQ (.int r) h0)) (T0.setTop (mkF m 191 #[.val (.int p0)] [])) := by
    intro T0 X0 e0 hr
    unfold own_f2_191 at hr
    have W0 : OwnGo.Wk p.tables T0 m c below prog_120_method_3_code := ⟨X0.here, hx, hby⟩
    refine OwnGo.iconst (v := (1 : Int32)) W0 (pn := 192) d2_191 rfl rfl ?_
    refine OwnGo.goto W0 (pt := 196) d2_192 (by decide) (by decide) ?_
    exact OwnGo.ireturn X0 hx hby hret hlk rfl (by simp) d2_196 (OwnGo.fin_of hr e0 hfin) (by decide) (by decide)
  have B179 : ∀ (T0 : State) (X0 : Stand p l e (OwnGo.rmP 0 0) s m #[(.int p0)] below meth c T0 [] 0 0) (e0 : T0.heap = h0), own_f2_179 p0 = r → OwnGo.Go p.tables e below (OwnGo.Qe s (OwnGo.rmP 0 0) (OwnGo.PureQ (.int r) h0)) (T0.setTop (mkF m 179 #[.val (.int p0)] [])) := by
    intro T0 X0 e0 hr
    unfold own_f2_179 at hr
    have W0 : OwnGo.Wk p.tables T0 m c below prog_120_method_3_code := ⟨X0.here, hx, hby⟩
    refine OwnGo.iloadN W0 (pn := 180) d2_179 rfl rfl ?_
    refine OwnGo.ldcI X0 hx hby hZ hown (pn := 182) (hw _ (List.mem_of_getElem? (i := 10) rfl)) d2_180 rfl ?_
    refine OwnGo.icmp_lt W0 (pn := 185) (pt := 195) d2_182 rfl (by decide) (by decide) (fun h182 => ?_) (fun h182 => ?_)
    · rw [if_pos h182] at hr
      exact B195 _ X0 e0 hr
    · rw [if_neg h182] at hr
      refine OwnGo.iloadN W0 (pn := 186) d2_185 rfl rfl ?_
      refine OwnGo.ldcI X0 hx hby hZ hown (pn := 188) (hw _ (List.mem_of_getElem? (i := 18) rfl)) d2_186 rfl ?_
      refine OwnGo.icmp_gt W0 (pn := 191) (pt := 195) d2_188 rfl (by decide) (by decide) (fun h188 => ?_) (fun h188 => ?_)
      · rw [if_pos h188] at hr
        exact B195 _ X0 e0 hr
      · rw [if_neg h188] at hr
        exact B191 _ X0 e0 hr
  have B167 : ∀ (T0 : State) (X0 : Stand p l e (OwnGo.rmP 0 0) s m #[(.int p0)] below meth c T0 [] 0 0) (e0 : T0.heap = h0), own_f2_167 p0 = r → OwnGo.Go p.tables e below (OwnGo.Qe s (OwnGo.rmP 0 0) (OwnGo.PureQ (.int r) h0)) (T0.setTop (mkF m 167 #[.val (.int p0)] [])) := by
    intro T0 X0 e0 hr
    unfold own_f2_167 at hr
    have W0 : OwnGo.Wk p.tables T0 m c below prog_120_method_3_code := ⟨X0.here, hx, hby⟩
    refine OwnGo.iloadN W0 (pn := 168) d2_167 rfl rfl ?_
    refine OwnGo.ldcI X0 hx hby hZ hown (pn := 170) (hw _ (List.mem_of_getElem? (i := 9) rfl)) d2_168 rfl ?_
    refine OwnGo.icmp_lt W0 (pn := 173) (pt := 179) d2_170 rfl (by decide) (by decide) (fun h170 => ?_) (fun h170 => ?_)
    · rw [if_pos h170] at hr
      exact B179 _ X0 e0 hr
    · rw [if_neg h170] at hr
      refine OwnGo.iloadN W0 (pn := 174) d2_173 rfl rfl ?_
      refine OwnGo.ldcI X0 hx hby hZ hown (pn := 176) (hw _ (List.mem_of_getElem? (i := 17) rfl)) d2_174 rfl ?_
      refine OwnGo.icmp_le W0 (pn := 179) (pt := 191) d2_176 rfl (by decide) (by decide) (fun h176 => ?_) (fun h176 => ?_)
      · rw [if_pos h176] at hr
        exact B179 _ X0 e0 hr
      · rw [if_neg h176] at hr
        exact B191 _ X0 e0 hr
  have B155 : ∀ (T0 : State) (X0 : Stand p l e (OwnGo.rmP 0 0) s m #[(.int p0)] below meth c T0 [] 0 0) (e0 : T0.heap = h0), own_f2_155 p0 = r → OwnGo.Go p.tables e below (OwnGo.Qe s (OwnGo.rmP 0 0) (OwnGo.PureQ (.int r) h0)) (T0.setTop (mkF m 155 #[.val (.int p0)] [])) := by
    intro T0 X0 e0 hr
    unfold own_f2_155 at hr
    have W0 : OwnGo.Wk p.tables T0 m c below prog_120_method_3_code := ⟨X0.here, hx, hby⟩
    refine OwnGo.iloadN W0 (pn := 156) d2_155 rfl rfl ?_
    refine OwnGo.ldcI X0 hx hby hZ hown (pn := 158) (hw _ (List.mem_of_getElem? (i := 8) rfl)) d2_156 rfl ?_
    refine OwnGo.icmp_lt W0 (pn := 161) (pt := 167) d2_158 rfl (by decide) (by decide) (fun h158 => ?_) (fun h158 => ?_)
    · rw [if_pos h158] at hr
      exact B167 _ X0 e0 hr
    · rw [if_neg h158] at hr
      refine OwnGo.iloadN W0 (pn := 162) d2_161 rfl rfl ?_
      refine OwnGo.ldcI X0 hx hby hZ hown (pn := 164) (hw _ (List.mem_of_getElem? (i := 16) rfl)) d2_162 rfl ?_
      refine OwnGo.icmp_le W0 (pn := 167) (pt := 191) d2_164 rfl (by decide) (by decide) (fun h164 => ?_) (fun h164 => ?_)
      · rw [if_pos h164] at hr
        exact B167 _ X0 e0 hr
      · rw [if_neg h164] at hr
        exact B191 _ X0 e0 hr
  have B142 : ∀ (T0 : State) (X0 : Stand p l e (OwnGo.rmP 0 0) s m #[(.int p0)] below meth c T0 [] 0 0) (e0 : T0.heap = h0), own_f2_142 p0 = r → OwnGo.Go p.tables e below (OwnGo.Qe s (OwnGo.rmP 0 0) (OwnGo.PureQ (.int r) h0)) (T0.setTop (mkF m 142 #[.val (.int p0)] [])) := by
    intro T0 X0 e0 hr
    unfold own_f2_142 at hr
    have W0 : OwnGo.Wk p.tables T0 m c below prog_120_method_3_code := ⟨X0.here, hx, hby⟩
    refine OwnGo.iloadN W0 (pn := 143) d2_142 rfl rfl ?_
    refine OwnGo.sipush (v := (12289 : Int32)) W0 (pn := 146) d2_143 rfl rfl ?_
    refine OwnGo.icmp_lt W0 (pn := 149) (pt := 155) d2_146 rfl (by decide) (by decide) (fun h146 => ?_) (fun h146 => ?_)
    · rw [if_pos h146] at hr
      exact B155 _ X0 e0 hr
    · rw [if_neg h146] at hr
      refine OwnGo.iloadN W0 (pn := 150) d2_149 rfl rfl ?_
      refine OwnGo.ldcI X0 hx hby hZ hown (pn := 152) (hw _ (List.mem_of_getElem? (i := 15) rfl)) d2_150 rfl ?_
      refine OwnGo.icmp_le W0 (pn := 155) (pt := 191) d2_152 rfl (by decide) (by decide) (fun h152 => ?_) (fun h152 => ?_)
      · rw [if_pos h152] at hr
        exact B155 _ X0 e0 hr
      · rw [if_neg h152] at hr
        exact B191 _ X0 e0 hr
  have B128 : ∀ (T0 : State) (X0 : Stand p l e (OwnGo.rmP 0 0) s m #[(.int p0)] below meth c T0 [] 0 0) (e0 : T0.heap = h0), own_f2_128 p0 = r → OwnGo.Go p.tables e below (OwnGo.Qe s (OwnGo.rmP 0 0) (OwnGo.PureQ (.int r) h0)) (T0.setTop (mkF m 128 #[.val (.int p0)] [])) := by
    intro T0 X0 e0 hr
    unfold own_f2_128 at hr
    have W0 : OwnGo.Wk p.tables T0 m c below prog_120_method_3_code := ⟨X0.here, hx, hby⟩
    refine OwnGo.iloadN W0 (pn := 129) d2_128 rfl rfl ?_
    refine OwnGo.sipush (v := (11264 : Int32)) W0 (pn := 132) d2_129 rfl rfl ?_
    refine OwnGo.icmp_lt W0 (pn := 135) (pt := 142) d2_132 rfl (by decide) (by decide) (fun h132 => ?_) (fun h132 => ?_)
    · rw [if_pos h132] at hr
      exact B142 _ X0 e0 hr
    · rw [if_neg h132] at hr
      refine OwnGo.iloadN W0 (pn := 136) d2_135 rfl rfl ?_
      refine OwnGo.sipush (v := (12271 : Int32)) W0 (pn := 139) d2_136 rfl rfl ?_
      refine OwnGo.icmp_le W0 (pn := 142) (pt := 191) d2_139 rfl (by decide) (by decide) (fun h139 => ?_) (fun h139 => ?_)
      · rw [if_pos h139] at hr
        exact B142 _ X0 e0 hr
      · rw [if_neg h139] at hr
        exact B191 _ X0 e0 hr
  have B100 : ∀ (T0 : State) (X0 : Stand p l e (OwnGo.rmP 0 0) s m #[(.int p0)] below meth c T0 [] 0 0) (e0 : T0.heap = h0), own_f2_100 p0 = r → OwnGo.Go p.tables e below (OwnGo.Qe s (OwnGo.rmP 0 0) (OwnGo.PureQ (.int r) h0)) (T0.setTop (mkF m 100 #[.val (.int p0)] [])) := by
    intro T0 X0 e0 hr
    unfold own_f2_100 at hr
    have W0 : OwnGo.Wk p.tables T0 m c below prog_120_method_3_code := ⟨X0.here, hx, hby⟩
    refine OwnGo.iloadN W0 (pn := 101) d2_100 rfl rfl ?_
    refine OwnGo.sipush (v := (8204 : Int32)) W0 (pn := 104) d2_101 rfl rfl ?_
    refine OwnGo.icmp_eq W0 (pn := 107) (pt := 191) d2_104 rfl (by decide) (by decide) (fun h104 => ?_) (fun h104 => ?_)
    · rw [if_pos h104] at hr
      exact B191 _ X0 e0 hr
    · rw [if_neg h104] at hr
      refine OwnGo.iloadN W0 (pn := 108) d2_107 rfl rfl ?_
      refine OwnGo.sipush (v := (8205 : Int32)) W0 (pn := 111) d2_108 rfl rfl ?_
      refine OwnGo.icmp_eq W0 (pn := 114) (pt := 191) d2_111 rfl (by decide) (by decide) (fun h111 => ?_) (fun h111 => ?_)
      · rw [if_pos h111] at hr
        exact B191 _ X0 e0 hr
      · rw [if_neg h111] at hr
        refine OwnGo.iloadN W0 (pn := 115) d2_114 rfl rfl ?_
        refine OwnGo.sipush (v := (8304 : Int32)) W0 (pn := 118) d2_115 rfl rfl ?_
        refine OwnGo.icmp_lt W0 (pn := 121) (pt := 128) d2_118 rfl (by decide) (by decide) (fun h118 => ?_) (fun h118 => ?_)
        · rw [if_pos h118] at hr
          exact B128 _ X0 e0 hr
        · rw [if_neg h118] at hr
          refine OwnGo.iloadN W0 (pn := 122) d2_121 rfl rfl ?_
          refine OwnGo.sipush (v := (8591 : Int32)) W0 (pn := 125) d2_122 rfl rfl ?_
          refine OwnGo.icmp_le W0 (pn := 128) (pt := 191) d2_125 rfl (by decide) (by decide) (fun h125 => ?_) (fun h125 => ?_)
          · rw [if_pos h125] at hr
            exact B128 _ X0 e0 hr
          · rw [if_neg h125] at hr
            exact B191 _ X0 e0 hr
  have B86 : ∀ (T0 : State) (X0 : Stand p l e (OwnGo.rmP 0 0) s m #[(.int p0)] below meth c T0 [] 0 0) (e0 : T0.heap = h0), own_f2_86 p0 = r → OwnGo.Go p.tables e below (OwnGo.Qe s (OwnGo.rmP 0 0) (OwnGo.PureQ (.int r) h0)) (T0.setTop (mkF m 86 #[.val (.int p0)] [])) := by
    intro T0 X0 e0 hr
    unfold own_f2_86 at hr
    have W0 : OwnGo.Wk p.tables T0 m c below prog_120_method_3_code := ⟨X0.here, hx, hby⟩
    refine OwnGo.iloadN W0 (pn := 87) d2_86 rfl rfl ?_
    refine OwnGo.sipush (v := (895 : Int32)) W0 (pn := 90) d2_87 rfl rfl ?_
    refine OwnGo.icmp_lt W0 (pn := 93) (pt := 100) d2_90 rfl (by decide) (by decide) (fun h90 => ?_) (fun h90 => ?_)
    · rw [if_pos h90] at hr
      exact B100 _ X0 e0 hr
    · rw [if_neg h90] at hr
      refine OwnGo.iloadN W0 (pn := 94) d2_93 rfl rfl ?_
      refine OwnGo.sipush (v := (8191 : Int32)) W0 (pn := 97) d2_94 rfl rfl ?_
      refine OwnGo.icmp_le W0 (pn := 100) (pt := 191) d2_97 rfl (by decide) (by decide) (fun h97 => ?_) (fun h97 => ?_)
      · rw [if_pos h97] at hr
        exact B100 _ X0 e0 hr
      · rw [if_neg h97] at hr
        exact B191 _ X0 e0 hr
  have B72 : ∀ (T0 : State) (X0 : Stand p l e (OwnGo.rmP 0 0) s m #[(.int p0)] below meth c T0 [] 0 0) (e0 : T0.heap = h0), own_f2_72 p0 = r → OwnGo.Go p.tables e below (OwnGo.Qe s (OwnGo.rmP 0 0) (OwnGo.PureQ (.int r) h0)) (T0.setTop (mkF m 72 #[.val (.int p0)] [])) := by
    intro T0 X0 e0 hr
    unfold own_f2_72 at hr
    have W0 : OwnGo.Wk p.tables T0 m c below prog_120_method_3_code := ⟨X0.here, hx, hby⟩
    refine OwnGo.iloadN W0 (pn := 73) d2_72 rfl rfl ?_
    refine OwnGo.sipush (v := (880 : Int32)) W0 (pn := 76) d2_73 rfl rfl ?_
    refine OwnGo.icmp_lt W0 (pn := 79) (pt := 86) d2_76 rfl (by decide) (by decide) (fun h76 => ?_) (fun h76 => ?_)
    · rw [if_pos h76] at hr
      exact B86 _ X0 e0 hr
    · rw [if_neg h76] at hr
      refine OwnGo.iloadN W0 (pn := 80) d2_79 rfl rfl ?_
      refine OwnGo.sipush (v := (893 : Int32)) W0 (pn := 83) d2_80 rfl rfl ?_
      refine OwnGo.icmp_le W0 (pn := 86) (pt := 191) d2_83 rfl (by decide) (by decide) (fun h83 => ?_) (fun h83 => ?_)
      · rw [if_pos h83] at hr
        exact B86 _ X0 e0 hr
      · rw [if_neg h83] at hr
        exact B191 _ X0 e0 hr
  have B58 : ∀ (T0 : State) (X0 : Stand p l e (OwnGo.rmP 0 0) s m #[(.int p0)] below meth c T0 [] 0 0) (e0 : T0.heap = h0), own_f2_58 p0 = r → OwnGo.Go p.tables e below (OwnGo.Qe s (OwnGo.rmP 0 0) (OwnGo.PureQ (.int r) h0)) (T0.setTop (mkF m 58 #[.val (.int p0)] [])) := by
    intro T0 X0 e0 hr
    unfold own_f2_58 at hr
    have W0 : OwnGo.Wk p.tables T0 m c below prog_120_method_3_code := ⟨X0.here, hx, hby⟩
    refine OwnGo.iloadN W0 (pn := 59) d2_58 rfl rfl ?_
    refine OwnGo.sipush (v := (248 : Int32)) W0 (pn := 62) d2_59 rfl rfl ?_
    refine OwnGo.icmp_lt W0 (pn := 65) (pt := 72) d2_62 rfl (by decide) (by decide) (fun h62 => ?_) (fun h62 => ?_)
    · rw [if_pos h62] at hr
      exact B72 _ X0 e0 hr
    · rw [if_neg h62] at hr
      refine OwnGo.iloadN W0 (pn := 66) d2_65 rfl rfl ?_
      refine OwnGo.sipush (v := (767 : Int32)) W0 (pn := 69) d2_66 rfl rfl ?_
      refine OwnGo.icmp_le W0 (pn := 72) (pt := 191) d2_69 rfl (by decide) (by decide) (fun h69 => ?_) (fun h69 => ?_)
      · rw [if_pos h69] at hr
        exact B72 _ X0 e0 hr
      · rw [if_neg h69] at hr
        exact B191 _ X0 e0 hr
  have B44 : ∀ (T0 : State) (X0 : Stand p l e (OwnGo.rmP 0 0) s m #[(.int p0)] below meth c T0 [] 0 0) (e0 : T0.heap = h0), own_f2_44 p0 = r → OwnGo.Go p.tables e below (OwnGo.Qe s (OwnGo.rmP 0 0) (OwnGo.PureQ (.int r) h0)) (T0.setTop (mkF m 44 #[.val (.int p0)] [])) := by
    intro T0 X0 e0 hr
    unfold own_f2_44 at hr
    have W0 : OwnGo.Wk p.tables T0 m c below prog_120_method_3_code := ⟨X0.here, hx, hby⟩
    refine OwnGo.iloadN W0 (pn := 45) d2_44 rfl rfl ?_
    refine OwnGo.sipush (v := (216 : Int32)) W0 (pn := 48) d2_45 rfl rfl ?_
    refine OwnGo.icmp_lt W0 (pn := 51) (pt := 58) d2_48 rfl (by decide) (by decide) (fun h48 => ?_) (fun h48 => ?_)
    · rw [if_pos h48] at hr
      exact B58 _ X0 e0 hr
    · rw [if_neg h48] at hr
      refine OwnGo.iloadN W0 (pn := 52) d2_51 rfl rfl ?_
      refine OwnGo.sipush (v := (246 : Int32)) W0 (pn := 55) d2_52 rfl rfl ?_
      refine OwnGo.icmp_le W0 (pn := 58) (pt := 191) d2_55 rfl (by decide) (by decide) (fun h55 => ?_) (fun h55 => ?_)
      · rw [if_pos h55] at hr
        exact B58 _ X0 e0 hr
      · rw [if_neg h55] at hr
        exact B191 _ X0 e0 hr
  have B30 : ∀ (T0 : State) (X0 : Stand p l e (OwnGo.rmP 0 0) s m #[(.int p0)] below meth c T0 [] 0 0) (e0 : T0.heap = h0), own_f2_30 p0 = r → OwnGo.Go p.tables e below (OwnGo.Qe s (OwnGo.rmP 0 0) (OwnGo.PureQ (.int r) h0)) (T0.setTop (mkF m 30 #[.val (.int p0)] [])) := by
    intro T0 X0 e0 hr
    unfold own_f2_30 at hr
    have W0 : OwnGo.Wk p.tables T0 m c below prog_120_method_3_code := ⟨X0.here, hx, hby⟩
    refine OwnGo.iloadN W0 (pn := 31) d2_30 rfl rfl ?_
    refine OwnGo.sipush (v := (192 : Int32)) W0 (pn := 34) d2_31 rfl rfl ?_
    refine OwnGo.icmp_lt W0 (pn := 37) (pt := 44) d2_34 rfl (by decide) (by decide) (fun h34 => ?_) (fun h34 => ?_)
    · rw [if_pos h34] at hr
      exact B44 _ X0 e0 hr
    · rw [if_neg h34] at hr
      refine OwnGo.iloadN W0 (pn := 38) d2_37 rfl rfl ?_
      refine OwnGo.sipush (v := (214 : Int32)) W0 (pn := 41) d2_38 rfl rfl ?_
      refine OwnGo.icmp_le W0 (pn := 44) (pt := 191) d2_41 rfl (by decide) (by decide) (fun h41 => ?_) (fun h41 => ?_)
      · rw [if_pos h41] at hr
        exact B44 _ X0 e0 hr
      · rw [if_neg h41] at hr
        exact B191 _ X0 e0 hr
  have B12 : ∀ (T0 : State) (X0 : Stand p l e (OwnGo.rmP 0 0) s m #[(.int p0)] below meth c T0 [] 0 0) (e0 : T0.heap = h0), own_f2_12 p0 = r → OwnGo.Go p.tables e below (OwnGo.Qe s (OwnGo.rmP 0 0) (OwnGo.PureQ (.int r) h0)) (T0.setTop (mkF m 12 #[.val (.int p0)] [])) := by
    intro T0 X0 e0 hr
    unfold own_f2_12 at hr
    have W0 : OwnGo.Wk p.tables T0 m c below prog_120_method_3_code := ⟨X0.here, hx, hby⟩
    refine OwnGo.iloadN W0 (pn := 13) d2_12 rfl rfl ?_
    refine OwnGo.bipush (v := (95 : Int32)) W0 (pn := 15) d2_13 rfl rfl ?_
    refine OwnGo.icmp_eq W0 (pn := 18) (pt := 191) d2_15 rfl (by decide) (by decide) (fun h15 => ?_) (fun h15 => ?_)
    · rw [if_pos h15] at hr
      exact B191 _ X0 e0 hr
    · rw [if_neg h15] at hr
      refine OwnGo.iloadN W0 (pn := 19) d2_18 rfl rfl ?_
      refine OwnGo.bipush (v := (97 : Int32)) W0 (pn := 21) d2_19 rfl rfl ?_
      refine OwnGo.icmp_lt W0 (pn := 24) (pt := 30) d2_21 rfl (by decide) (by decide) (fun h21 => ?_) (fun h21 => ?_)
      · rw [if_pos h21] at hr
        exact B30 _ X0 e0 hr
      · rw [if_neg h21] at hr
        refine OwnGo.iloadN W0 (pn := 25) d2_24 rfl rfl ?_
        refine OwnGo.bipush (v := (122 : Int32)) W0 (pn := 27) d2_25 rfl rfl ?_
        refine OwnGo.icmp_le W0 (pn := 30) (pt := 191) d2_27 rfl (by decide) (by decide) (fun h27 => ?_) (fun h27 => ?_)
        · rw [if_pos h27] at hr
          exact B30 _ X0 e0 hr
        · rw [if_neg h27] at hr
          exact B191 _ X0 e0 hr
  unfold own_f2 at hr
  have W0 : OwnGo.Wk p.tables T0 m c below prog_120_method_3_code := ⟨X0.here, hx, hby⟩
  refine OwnGo.iloadN W0 (pn := 1) d2_0 rfl rfl ?_
  refine OwnGo.bipush (v := (65 : Int32)) W0 (pn := 3) d2_1 rfl rfl ?_
  refine OwnGo.icmp_lt W0 (pn := 6) (pt := 12) d2_3 rfl (by decide) (by decide) (fun h3 => ?_) (fun h3 => ?_)
  · rw [if_pos h3] at hr
    exact B12 _ X0 e0 hr
  · rw [if_neg h3] at hr
    refine OwnGo.iloadN W0 (pn := 7) d2_6 rfl rfl ?_
    refine OwnGo.bipush (v := (90 : Int32)) W0 (pn := 9) d2_7 rfl rfl ?_
    refine OwnGo.icmp_le W0 (pn := 12) (pt := 191) d2_9 rfl (by decide) (by decide) (fun h9 => ?_) (fun h9 => ?_)
    · rw [if_pos h9] at hr
      exact B12 _ X0 e0 hr
    · rw [if_neg h9] at hr
      exact B191 _ X0 e0 hr
def own_f0_12 (p0 : Int32) (s0 : Int32) : Int32 := (if (own_f2 p0) = s0 then (1 : Int32) else (0 : Int32))
def own_f0 (p0 : Int32) : Int32 := (if (own_f1 p0) = (0 : Int32) then (own_f0_12 p0 (1 : Int32)) else (own_f0_12 p0 (0 : Int32)))
theorem pd_0 : parseMethodDescriptor "(I)Z" = some ⟨[.int], some .boolean⟩ := by decide +kernel
theorem ef_0 (m : MethodId) (p0 : Int32) : entryFrame m #[(.int p0)] maxLocals = mkF m 0 #[.val (.int p0), .unset] [] := by first | (simp [entryFrame, mkF, argsToLocals, Value.category, maxLocals]; done) | rfl
set_option maxRecDepth 65536 in
set_option maxHeartbeats 40000000 in
theorem rm_own_f0 (l : Launch) (Z : State) (a0 : Array Value) (hw : ∀ d ∈ tables_1, d.before a0 Z = true) (p0 : Int32) (h0 : Heap) :
    OwnGo.Con l x code maxLocals ret room_1 Z #[(.int p0)] h0 (OwnGo.PureQ (.int (own_f0 p0)) h0) := by
  refine OwnGo.Con.intro pn_0 ?_
  intro p e s m below meth c T0 X0 hx hby hml hZ hown hnm hret hlk e0
  refine OwnGo.Go.cast (ef_0 m p0) ?_
  obtain ⟨r, hr⟩ : ∃ r, own_f0 p0 = r := ⟨_, rfl⟩
  rw [hr]
  have hfin : OwnGo.PureQ (.int r) h0 (some (.int r)) h0 [] := ⟨rfl, rfl, rfl⟩
  have B12 : ∀ (T0 : State) (X0 : Stand p l e room_1 s m #[(.int p0)] below meth c T0 [] 0 0) (e0 : T0.heap = h0) (s0 : Int32), own_f0_12 p0 s0 = r → OwnGo.Go p.tables e below (OwnGo.Qe s room_1 (OwnGo.PureQ (.int r) h0)) (T0.setTop (mkF m 12 #[.val (.int p0), .unset] [(.int s0)])) := by
    intro T0 X0 e0 s0 hr
    unfold own_f0_12 at hr
    have W0 : OwnGo.Wk p.tables T0 m c below code := ⟨X0.here, hx, hby⟩
    refine OwnGo.istoreN W0 (pn := 13) (l' := #[.val (.int p0), .val (.int s0)]) at_12 rfl rfl ?_
    refine OwnGo.iloadN W0 (pn := 14) at_13 rfl rfl ?_
    refine OwnGo.callP X0 hx hby hZ hown (argsL := [(.int p0)]) (rest := []) (pn := 17) (hw _ (List.mem_of_getElem? (i := 4) rfl)) (hw _ (List.mem_of_getElem? (i := 5) rfl)) (hw _ (List.mem_of_getElem? (i := 6) rfl)) (hw _ (List.mem_of_getElem? (i := 7) rfl)) (by decide) (rm_own_f2 l Z a0 hw p0 _) (by decide) (by decide) (by decide) (by decide) (lenOf pd_0 rfl) (by rw [hml]; rfl) rfl at_14 rfl (fun T1 X1 f1 => ?_)
    have e1 := f1.trans e0
    have W1 : OwnGo.Wk p.tables T1 m c below code := ⟨X1.here, hx, hby⟩
    refine OwnGo.iloadN W1 (pn := 18) at_17 rfl rfl ?_
    refine OwnGo.icmp_ne W1 (pn := 21) (pt := 25) at_18 rfl (by decide) (by decide) (fun h18 => ?_) (fun h18 => ?_)
    · rw [if_pos h18] at hr
      refine OwnGo.iconst (v := (1 : Int32)) W1 (pn := 22) at_21 rfl rfl ?_
      refine OwnGo.goto W1 (pt := 26) at_22 (by decide) (by decide) ?_
      exact OwnGo.ireturn X1 hx hby hret hlk rfl (by simp) at_26 (OwnGo.fin_of hr e1 hfin) (by decide) (by decide)
    · rw [if_neg h18] at hr
      refine OwnGo.iconst (v := (0 : Int32)) W1 (pn := 26) at_25 rfl rfl ?_
      exact OwnGo.ireturn X1 hx hby hret hlk rfl (by simp) at_26 (OwnGo.fin_of hr e1 hfin) (by decide) (by decide)
  unfold own_f0 at hr
  have W0 : OwnGo.Wk p.tables T0 m c below code := ⟨X0.here, hx, hby⟩
  refine OwnGo.iloadN W0 (pn := 1) at_0 rfl rfl ?_
  refine OwnGo.callP X0 hx hby hZ hown (argsL := [(.int p0)]) (rest := []) (pn := 4) (hw _ (List.mem_of_getElem? (i := 0) rfl)) (hw _ (List.mem_of_getElem? (i := 1) rfl)) (hw _ (List.mem_of_getElem? (i := 2) rfl)) (hw _ (List.mem_of_getElem? (i := 3) rfl)) (by decide) (rm_own_f1 l Z a0 hw p0 _) (by decide) (by decide) (by decide) (by decide) (lenOf pd_0 rfl) (by rw [hml]; rfl) rfl at_1 rfl (fun T1 X1 f1 => ?_)
  have e1 := f1.trans e0
  have W1 : OwnGo.Wk p.tables T1 m c below code := ⟨X1.here, hx, hby⟩
  refine OwnGo.if_ne W1 (pn := 7) (pt := 11) at_4 rfl (by decide) (by decide) (fun h4 => ?_) (fun h4 => ?_)
  · rw [if_pos h4] at hr
    refine OwnGo.iconst (v := (1 : Int32)) W1 (pn := 8) at_7 rfl rfl ?_
    refine OwnGo.goto W1 (pt := 12) at_8 (by decide) (by decide) ?_
    exact B12 _ X1 e1 ((1 : Int32)) hr
  · rw [if_neg h4] at hr
    refine OwnGo.iconst (v := (0 : Int32)) W1 (pn := 12) at_11 rfl rfl ?_
    exact B12 _ X1 e1 ((0 : Int32)) hr
theorem own_out {r : Int32} {I P : Prop} (h : (r.toInt = 1 ∧ P) ∨ (r.toInt = 0 ∧ ¬ P)) (hI : ¬ I) : (r.toInt = 1 ∧ (I ∨ P)) ∨ (r.toInt = 0 ∧ ¬ (I ∨ P)) := by
  rcases h with ⟨a, b⟩ | ⟨a, b⟩
  · exact Or.inl ⟨a, Or.inr b⟩
  · exact Or.inr ⟨a, fun q => q.elim hI b⟩
def own_P1_198 (n : Int) : Prop := False
theorem own_c1_198 (b : Int32) : ((own_f1_198).toInt = 1 ∧ own_P1_198 b.toInt) ∨ ((own_f1_198).toInt = 0 ∧ ¬ own_P1_198 b.toInt) := Or.inr ⟨rfl, id⟩
def own_P1_184 (n : Int) : Prop := ((65534 ≤ n ∧ n ≤ 65535)) ∨ own_P1_198 n
theorem own_c1_184 (b : Int32) : ((own_f1_184 b).toInt = 1 ∧ own_P1_184 b.toInt) ∨ ((own_f1_184 b).toInt = 0 ∧ ¬ own_P1_184 b.toInt) := by
  have h := own_c1_198 b
  unfold own_P1_184
  simp only [own_f1_184, own_f1_65, own_f1_12]
  generalize own_f1_198 = r at *
  generalize own_P1_198 b.toInt = P at *
  repeat' split
  all_goals first | exact Or.inl ⟨rfl, Or.inl (by simp only [Int32.lt_iff_toInt_lt, Int32.reduceToInt, ← Int32.toInt_inj] at *; omega)⟩ | exact own_out h (by simp only [Int32.lt_iff_toInt_lt, Int32.reduceToInt, ← Int32.toInt_inj] at *; omega)
def own_P1_170 (n : Int) : Prop := ((64976 ≤ n ∧ n ≤ 65007)) ∨ own_P1_184 n
theorem own_c1_170 (b : Int32) : ((own_f1_170 b).toInt = 1 ∧ own_P1_170 b.toInt) ∨ ((own_f1_170 b).toInt = 0 ∧ ¬ own_P1_170 b.toInt) := by
  have h := own_c1_184 b
  unfold own_P1_170
  simp only [own_f1_170, own_f1_65, own_f1_12]
  generalize own_f1_184 b = r at *
  generalize own_P1_184 b.toInt = P at *
  repeat' split
  all_goals first | exact Or.inl ⟨rfl, Or.inl (by simp only [Int32.lt_iff_toInt_lt, Int32.reduceToInt, ← Int32.toInt_inj] at *; omega)⟩ | exact own_out h (by simp only [Int32.lt_iff_toInt_lt, Int32.reduceToInt, ← Int32.toInt_inj] at *; omega)
def own_P1_156 (n : Int) : Prop := ((55296 ≤ n ∧ n ≤ 63743)) ∨ own_P1_170 n
theorem own_c1_156 (b : Int32) : ((own_f1_156 b).toInt = 1 ∧ own_P1_156 b.toInt) ∨ ((own_f1_156 b).toInt = 0 ∧ ¬ own_P1_156 b.toInt) := by
  have h := own_c1_170 b
  unfold own_P1_156
  simp only [own_f1_156, own_f1_65, own_f1_12]
  generalize own_f1_170 b = r at *
  generalize own_P1_170 b.toInt = P at *
  repeat' split
  all_goals first | exact Or.inl ⟨rfl, Or.inl (by simp only [Int32.lt_iff_toInt_lt, Int32.reduceToInt, ← Int32.toInt_inj] at *; omega)⟩ | exact own_out h (by simp only [Int32.lt_iff_toInt_lt, Int32.reduceToInt, ← Int32.toInt_inj] at *; omega)
def own_P1_140 (n : Int) : Prop := ((12272 ≤ n ∧ n ≤ 12288)) ∨ own_P1_156 n
theorem own_c1_140 (b : Int32) : ((own_f1_140 b).toInt = 1 ∧ own_P1_140 b.toInt) ∨ ((own_f1_140 b).toInt = 0 ∧ ¬ own_P1_140 b.toInt) := by
  have h := own_c1_156 b
  unfold own_P1_140
  simp only [own_f1_140, own_f1_65, own_f1_12]
  generalize own_f1_156 b = r at *
  generalize own_P1_156 b.toInt = P at *
  repeat' split
  all_goals first | exact Or.inl ⟨rfl, Or.inl (by simp only [Int32.lt_iff_toInt_lt, Int32.reduceToInt, ← Int32.toInt_inj] at *; omega)⟩ | exact own_out h (by simp only [Int32.lt_iff_toInt_lt, Int32.reduceToInt, ← Int32.toInt_inj] at *; omega)
def own_P1_124 (n : Int) : Prop := ((8592 ≤ n ∧ n ≤ 11263)) ∨ own_P1_140 n
theorem own_c1_124 (b : Int32) : ((own_f1_124 b).toInt = 1 ∧ own_P1_124 b.toInt) ∨ ((own_f1_124 b).toInt = 0 ∧ ¬ own_P1_124 b.toInt) := by
  have h := own_c1_140 b
  unfold own_P1_124
  simp only [own_f1_124, own_f1_65, own_f1_12]
  generalize own_f1_140 b = r at *
  generalize own_P1_140 b.toInt = P at *
  repeat' split
  all_goals first | exact Or.inl ⟨rfl, Or.inl (by simp only [Int32.lt_iff_toInt_lt, Int32.reduceToInt, ← Int32.toInt_inj] at *; omega)⟩ | exact own_out h (by simp only [Int32.lt_iff_toInt_lt, Int32.reduceToInt, ← Int32.toInt_inj] at *; omega)
def own_P1_108 (n : Int) : Prop := ((8206 ≤ n ∧ n ≤ 8303)) ∨ own_P1_124 n
theorem own_c1_108 (b : Int32) : ((own_f1_108 b).toInt = 1 ∧ own_P1_108 b.toInt) ∨ ((own_f1_108 b).toInt = 0 ∧ ¬ own_P1_108 b.toInt) := by
  have h := own_c1_124 b
  unfold own_P1_108
  simp only [own_f1_108, own_f1_65, own_f1_12]
  generalize own_f1_124 b = r at *
  generalize own_P1_124 b.toInt = P at *
  repeat' split
  all_goals first | exact Or.inl ⟨rfl, Or.inl (by simp only [Int32.lt_iff_toInt_lt, Int32.reduceToInt, ← Int32.toInt_inj] at *; omega)⟩ | exact own_out h (by simp only [Int32.lt_iff_toInt_lt, Int32.reduceToInt, ← Int32.toInt_inj] at *; omega)
def own_P1_83 (n : Int) : Prop := ((894 ≤ n ∧ n ≤ 894) ∨ (8192 ≤ n ∧ n ≤ 8203)) ∨ own_P1_108 n
theorem own_c1_83 (b : Int32) : ((own_f1_83 b).toInt = 1 ∧ own_P1_83 b.toInt) ∨ ((own_f1_83 b).toInt = 0 ∧ ¬ own_P1_83 b.toInt) := by
  have h := own_c1_108 b
  unfold own_P1_83
  simp only [own_f1_83, own_f1_65, own_f1_12]
  generalize own_f1_108 b = r at *
  generalize own_P1_108 b.toInt = P at *
  repeat' split
  all_goals first | exact Or.inl ⟨rfl, Or.inl (by simp only [Int32.lt_iff_toInt_lt, Int32.reduceToInt, ← Int32.toInt_inj] at *; omega)⟩ | exact own_out h (by simp only [Int32.lt_iff_toInt_lt, Int32.reduceToInt, ← Int32.toInt_inj] at *; omega)
def own_P1_51 (n : Int) : Prop := ((215 ≤ n ∧ n ≤ 215) ∨ (247 ≤ n ∧ n ≤ 247) ∨ (768 ≤ n ∧ n ≤ 879)) ∨ own_P1_83 n
theorem own_c1_51 (b : Int32) : ((own_f1_51 b).toInt = 1 ∧ own_P1_51 b.toInt) ∨ ((own_f1_51 b).toInt = 0 ∧ ¬ own_P1_51 b.toInt) := by
  have h := own_c1_83 b
  unfold own_P1_51
  simp only [own_f1_51, own_f1_65, own_f1_12]
  generalize own_f1_83 b = r at *
  generalize own_P1_83 b.toInt = P at *
  repeat' split
  all_goals first | exact Or.inl ⟨rfl, Or.inl (by simp only [Int32.lt_iff_toInt_lt, Int32.reduceToInt, ← Int32.toInt_inj] at *; omega)⟩ | exact own_out h (by simp only [Int32.lt_iff_toInt_lt, Int32.reduceToInt, ← Int32.toInt_inj] at *; omega)
def own_P1_28 (n : Int) : Prop := ((96 ≤ n ∧ n ≤ 96) ∨ (123 ≤ n ∧ n ≤ 191)) ∨ own_P1_51 n
theorem own_c1_28 (b : Int32) : ((own_f1_28 b).toInt = 1 ∧ own_P1_28 b.toInt) ∨ ((own_f1_28 b).toInt = 0 ∧ ¬ own_P1_28 b.toInt) := by
  have h := own_c1_51 b
  unfold own_P1_28
  simp only [own_f1_28, own_f1_65, own_f1_12]
  generalize own_f1_51 b = r at *
  generalize own_P1_51 b.toInt = P at *
  repeat' split
  all_goals first | exact Or.inl ⟨rfl, Or.inl (by simp only [Int32.lt_iff_toInt_lt, Int32.reduceToInt, ← Int32.toInt_inj] at *; omega)⟩ | exact own_out h (by simp only [Int32.lt_iff_toInt_lt, Int32.reduceToInt, ← Int32.toInt_inj] at *; omega)
def own_P1_0 (n : Int) : Prop := (n ≤ 64 ∨ 983040 ≤ n ∨ (91 ≤ n ∧ n ≤ 94)) ∨ own_P1_28 n
theorem own_c1_0 (b : Int32) : ((own_f1 b).toInt = 1 ∧ own_P1_0 b.toInt) ∨ ((own_f1 b).toInt = 0 ∧ ¬ own_P1_0 b.toInt) := by
  have h := own_c1_28 b
  unfold own_P1_0
  simp only [own_f1, own_f1_65, own_f1_12]
  generalize own_f1_28 b = r at *
  generalize own_P1_28 b.toInt = P at *
  repeat' split
  all_goals first | exact Or.inl ⟨rfl, Or.inl (by simp only [Int32.lt_iff_toInt_lt, Int32.reduceToInt, ← Int32.toInt_inj] at *; omega)⟩ | exact own_out h (by simp only [Int32.lt_iff_toInt_lt, Int32.reduceToInt, ← Int32.toInt_inj] at *; omega)
def own_P2_195 (n : Int) : Prop := False
theorem own_c2_195 (b : Int32) : ((own_f2_195).toInt = 1 ∧ own_P2_195 b.toInt) ∨ ((own_f2_195).toInt = 0 ∧ ¬ own_P2_195 b.toInt) := Or.inr ⟨rfl, id⟩
def own_P2_179 (n : Int) : Prop := ((65536 ≤ n ∧ n ≤ 983039)) ∨ own_P2_195 n
theorem own_c2_179 (b : Int32) : ((own_f2_179 b).toInt = 1 ∧ own_P2_179 b.toInt) ∨ ((own_f2_179 b).toInt = 0 ∧ ¬ own_P2_179 b.toInt) := by
  have h := own_c2_195 b
  unfold own_P2_179
  simp only [own_f2_179, own_f2_191]
  generalize own_f2_195 = r at *
  generalize own_P2_195 b.toInt = P at *
  repeat' split
  all_goals first | exact Or.inl ⟨rfl, Or.inl (by simp only [Int32.lt_iff_toInt_lt, Int32.reduceToInt, ← Int32.toInt_inj] at *; omega)⟩ | exact own_out h (by simp only [Int32.lt_iff_toInt_lt, Int32.reduceToInt, ← Int32.toInt_inj] at *; omega)
def own_P2_167 (n : Int) : Prop := ((65008 ≤ n ∧ n ≤ 65533)) ∨ own_P2_179 n
theorem own_c2_167 (b : Int32) : ((own_f2_167 b).toInt = 1 ∧ own_P2_167 b.toInt) ∨ ((own_f2_167 b).toInt = 0 ∧ ¬ own_P2_167 b.toInt) := by
  have h := own_c2_179 b
  unfold own_P2_167
  simp only [own_f2_167, own_f2_191]
  generalize own_f2_179 b = r at *
  generalize own_P2_179 b.toInt = P at *
  repeat' split
  all_goals first | exact Or.inl ⟨rfl, Or.inl (by simp only [Int32.lt_iff_toInt_lt, Int32.reduceToInt, ← Int32.toInt_inj] at *; omega)⟩ | exact own_out h (by simp only [Int32.lt_iff_toInt_lt, Int32.reduceToInt, ← Int32.toInt_inj] at *; omega)
def own_P2_155 (n : Int) : Prop := ((63744 ≤ n ∧ n ≤ 64975)) ∨ own_P2_167 n
theorem own_c2_155 (b : Int32) : ((own_f2_155 b).toInt = 1 ∧ own_P2_155 b.toInt) ∨ ((own_f2_155 b).toInt = 0 ∧ ¬ own_P2_155 b.toInt) := by
  have h := own_c2_167 b
  unfold own_P2_155
  simp only [own_f2_155, own_f2_191]
  generalize own_f2_167 b = r at *
  generalize own_P2_167 b.toInt = P at *
  repeat' split
  all_goals first | exact Or.inl ⟨rfl, Or.inl (by simp only [Int32.lt_iff_toInt_lt, Int32.reduceToInt, ← Int32.toInt_inj] at *; omega)⟩ | exact own_out h (by simp only [Int32.lt_iff_toInt_lt, Int32.reduceToInt, ← Int32.toInt_inj] at *; omega)
def own_P2_142 (n : Int) : Prop := ((12289 ≤ n ∧ n ≤ 55295)) ∨ own_P2_155 n
theorem own_c2_142 (b : Int32) : ((own_f2_142 b).toInt = 1 ∧ own_P2_142 b.toInt) ∨ ((own_f2_142 b).toInt = 0 ∧ ¬ own_P2_142 b.toInt) := by
  have h := own_c2_155 b
  unfold own_P2_142
  simp only [own_f2_142, own_f2_191]
  generalize own_f2_155 b = r at *
  generalize own_P2_155 b.toInt = P at *
  repeat' split
  all_goals first | exact Or.inl ⟨rfl, Or.inl (by simp only [Int32.lt_iff_toInt_lt, Int32.reduceToInt, ← Int32.toInt_inj] at *; omega)⟩ | exact own_out h (by simp only [Int32.lt_iff_toInt_lt, Int32.reduceToInt, ← Int32.toInt_inj] at *; omega)
def own_P2_128 (n : Int) : Prop := ((11264 ≤ n ∧ n ≤ 12271)) ∨ own_P2_142 n
theorem own_c2_128 (b : Int32) : ((own_f2_128 b).toInt = 1 ∧ own_P2_128 b.toInt) ∨ ((own_f2_128 b).toInt = 0 ∧ ¬ own_P2_128 b.toInt) := by
  have h := own_c2_142 b
  unfold own_P2_128
  simp only [own_f2_128, own_f2_191]
  generalize own_f2_142 b = r at *
  generalize own_P2_142 b.toInt = P at *
  repeat' split
  all_goals first | exact Or.inl ⟨rfl, Or.inl (by simp only [Int32.lt_iff_toInt_lt, Int32.reduceToInt, ← Int32.toInt_inj] at *; omega)⟩ | exact own_out h (by simp only [Int32.lt_iff_toInt_lt, Int32.reduceToInt, ← Int32.toInt_inj] at *; omega)
def own_P2_100 (n : Int) : Prop := ((8204 ≤ n ∧ n ≤ 8204) ∨ (8205 ≤ n ∧ n ≤ 8205) ∨ (8304 ≤ n ∧ n ≤ 8591)) ∨ own_P2_128 n
theorem own_c2_100 (b : Int32) : ((own_f2_100 b).toInt = 1 ∧ own_P2_100 b.toInt) ∨ ((own_f2_100 b).toInt = 0 ∧ ¬ own_P2_100 b.toInt) := by
  have h := own_c2_128 b
  unfold own_P2_100
  simp only [own_f2_100, own_f2_191]
  generalize own_f2_128 b = r at *
  generalize own_P2_128 b.toInt = P at *
  repeat' split
  all_goals first | exact Or.inl ⟨rfl, Or.inl (by simp only [Int32.lt_iff_toInt_lt, Int32.reduceToInt, ← Int32.toInt_inj] at *; omega)⟩ | exact own_out h (by simp only [Int32.lt_iff_toInt_lt, Int32.reduceToInt, ← Int32.toInt_inj] at *; omega)
def own_P2_86 (n : Int) : Prop := ((895 ≤ n ∧ n ≤ 8191)) ∨ own_P2_100 n
theorem own_c2_86 (b : Int32) : ((own_f2_86 b).toInt = 1 ∧ own_P2_86 b.toInt) ∨ ((own_f2_86 b).toInt = 0 ∧ ¬ own_P2_86 b.toInt) := by
  have h := own_c2_100 b
  unfold own_P2_86
  simp only [own_f2_86, own_f2_191]
  generalize own_f2_100 b = r at *
  generalize own_P2_100 b.toInt = P at *
  repeat' split
  all_goals first | exact Or.inl ⟨rfl, Or.inl (by simp only [Int32.lt_iff_toInt_lt, Int32.reduceToInt, ← Int32.toInt_inj] at *; omega)⟩ | exact own_out h (by simp only [Int32.lt_iff_toInt_lt, Int32.reduceToInt, ← Int32.toInt_inj] at *; omega)
def own_P2_72 (n : Int) : Prop := ((880 ≤ n ∧ n ≤ 893)) ∨ own_P2_86 n
theorem own_c2_72 (b : Int32) : ((own_f2_72 b).toInt = 1 ∧ own_P2_72 b.toInt) ∨ ((own_f2_72 b).toInt = 0 ∧ ¬ own_P2_72 b.toInt) := by
  have h := own_c2_86 b
  unfold own_P2_72
  simp only [own_f2_72, own_f2_191]
  generalize own_f2_86 b = r at *
  generalize own_P2_86 b.toInt = P at *
  repeat' split
  all_goals first | exact Or.inl ⟨rfl, Or.inl (by simp only [Int32.lt_iff_toInt_lt, Int32.reduceToInt, ← Int32.toInt_inj] at *; omega)⟩ | exact own_out h (by simp only [Int32.lt_iff_toInt_lt, Int32.reduceToInt, ← Int32.toInt_inj] at *; omega)
def own_P2_58 (n : Int) : Prop := ((248 ≤ n ∧ n ≤ 767)) ∨ own_P2_72 n
theorem own_c2_58 (b : Int32) : ((own_f2_58 b).toInt = 1 ∧ own_P2_58 b.toInt) ∨ ((own_f2_58 b).toInt = 0 ∧ ¬ own_P2_58 b.toInt) := by
  have h := own_c2_72 b
  unfold own_P2_58
  simp only [own_f2_58, own_f2_191]
  generalize own_f2_72 b = r at *
  generalize own_P2_72 b.toInt = P at *
  repeat' split
  all_goals first | exact Or.inl ⟨rfl, Or.inl (by simp only [Int32.lt_iff_toInt_lt, Int32.reduceToInt, ← Int32.toInt_inj] at *; omega)⟩ | exact own_out h (by simp only [Int32.lt_iff_toInt_lt, Int32.reduceToInt, ← Int32.toInt_inj] at *; omega)
def own_P2_44 (n : Int) : Prop := ((216 ≤ n ∧ n ≤ 246)) ∨ own_P2_58 n
theorem own_c2_44 (b : Int32) : ((own_f2_44 b).toInt = 1 ∧ own_P2_44 b.toInt) ∨ ((own_f2_44 b).toInt = 0 ∧ ¬ own_P2_44 b.toInt) := by
  have h := own_c2_58 b
  unfold own_P2_44
  simp only [own_f2_44, own_f2_191]
  generalize own_f2_58 b = r at *
  generalize own_P2_58 b.toInt = P at *
  repeat' split
  all_goals first | exact Or.inl ⟨rfl, Or.inl (by simp only [Int32.lt_iff_toInt_lt, Int32.reduceToInt, ← Int32.toInt_inj] at *; omega)⟩ | exact own_out h (by simp only [Int32.lt_iff_toInt_lt, Int32.reduceToInt, ← Int32.toInt_inj] at *; omega)
def own_P2_30 (n : Int) : Prop := ((192 ≤ n ∧ n ≤ 214)) ∨ own_P2_44 n
theorem own_c2_30 (b : Int32) : ((own_f2_30 b).toInt = 1 ∧ own_P2_30 b.toInt) ∨ ((own_f2_30 b).toInt = 0 ∧ ¬ own_P2_30 b.toInt) := by
  have h := own_c2_44 b
  unfold own_P2_30
  simp only [own_f2_30, own_f2_191]
  generalize own_f2_44 b = r at *
  generalize own_P2_44 b.toInt = P at *
  repeat' split
  all_goals first | exact Or.inl ⟨rfl, Or.inl (by simp only [Int32.lt_iff_toInt_lt, Int32.reduceToInt, ← Int32.toInt_inj] at *; omega)⟩ | exact own_out h (by simp only [Int32.lt_iff_toInt_lt, Int32.reduceToInt, ← Int32.toInt_inj] at *; omega)
def own_P2_12 (n : Int) : Prop := ((95 ≤ n ∧ n ≤ 95) ∨ (97 ≤ n ∧ n ≤ 122)) ∨ own_P2_30 n
theorem own_c2_12 (b : Int32) : ((own_f2_12 b).toInt = 1 ∧ own_P2_12 b.toInt) ∨ ((own_f2_12 b).toInt = 0 ∧ ¬ own_P2_12 b.toInt) := by
  have h := own_c2_30 b
  unfold own_P2_12
  simp only [own_f2_12, own_f2_191]
  generalize own_f2_30 b = r at *
  generalize own_P2_30 b.toInt = P at *
  repeat' split
  all_goals first | exact Or.inl ⟨rfl, Or.inl (by simp only [Int32.lt_iff_toInt_lt, Int32.reduceToInt, ← Int32.toInt_inj] at *; omega)⟩ | exact own_out h (by simp only [Int32.lt_iff_toInt_lt, Int32.reduceToInt, ← Int32.toInt_inj] at *; omega)
def own_P2_0 (n : Int) : Prop := ((65 ≤ n ∧ n ≤ 90)) ∨ own_P2_12 n
theorem own_c2_0 (b : Int32) : ((own_f2 b).toInt = 1 ∧ own_P2_0 b.toInt) ∨ ((own_f2 b).toInt = 0 ∧ ¬ own_P2_0 b.toInt) := by
  have h := own_c2_12 b
  unfold own_P2_0
  simp only [own_f2, own_f2_191]
  generalize own_f2_12 b = r at *
  generalize own_P2_12 b.toInt = P at *
  repeat' split
  all_goals first | exact Or.inl ⟨rfl, Or.inl (by simp only [Int32.lt_iff_toInt_lt, Int32.reduceToInt, ← Int32.toInt_inj] at *; omega)⟩ | exact own_out h (by simp only [Int32.lt_iff_toInt_lt, Int32.reduceToInt, ← Int32.toInt_inj] at *; omega)
theorem own_not_both {n : Int} (h1 : own_P1_0 n) (h2 : own_P2_0 n) : False := by
  simp only [own_P1_198, own_P1_184, own_P1_170, own_P1_156, own_P1_140, own_P1_124, own_P1_108, own_P1_83, own_P1_51, own_P1_28, own_P1_0, or_false] at h1
  simp only [own_P2_195, own_P2_179, own_P2_167, own_P2_155, own_P2_142, own_P2_128, own_P2_100, own_P2_86, own_P2_72, own_P2_58, own_P2_44, own_P2_30, own_P2_12, own_P2_0, or_false] at h2
  omega
theorem own_one {n : Int} (h1 : ¬ own_P1_0 n) (h2 : ¬ own_P2_0 n) : False := by
  simp only [own_P1_198, own_P1_184, own_P1_170, own_P1_156, own_P1_140, own_P1_124, own_P1_108, own_P1_83, own_P1_51, own_P1_28, own_P1_0, not_or, not_and, or_false, not_false_eq_true, and_true] at h1
  simp only [own_P2_195, own_P2_179, own_P2_167, own_P2_155, own_P2_142, own_P2_128, own_P2_100, own_P2_86, own_P2_72, own_P2_58, own_P2_44, own_P2_30, own_P2_12, own_P2_0, not_or, not_and, or_false, not_false_eq_true, and_true] at h2
  omega
theorem own_plain (p0 : Int32) : own_f0 p0 = 1 := by
  have h1 := own_c1_0 p0
  have h2 := own_c2_0 p0
  have q1 := @own_not_both p0.toInt
  have q2 := @own_one p0.toInt
  simp only [own_f0, own_f0_12]
  generalize own_f1 p0 = r1 at *
  generalize own_f2 p0 = r2 at *
  generalize own_P1_0 p0.toInt = P1 at *
  generalize own_P2_0 p0.toInt = P2 at *
  have k : (r1.toInt = 1 ∧ r2.toInt = 0) ∨ (r1.toInt = 0 ∧ r2.toInt = 1) := by
    rcases h1 with ⟨a, b⟩ | ⟨a, b⟩ <;> rcases h2 with ⟨c, d⟩ | ⟨c, d⟩
    · exact absurd (q1 b d) id
    · exact Or.inl ⟨a, c⟩
    · exact Or.inr ⟨a, c⟩
    · exact absurd (q2 b d) id
  clear h1 h2 q1 q2
  repeat' split
  all_goals first | rfl | (exfalso; simp only [Int32.lt_iff_toInt_lt, Int32.reduceToInt, ← Int32.toInt_inj, true_and, and_true, false_and, and_false, true_or, or_true, false_or, or_false, not_true_eq_false, not_false_eq_true] at * <;> omega)
set_option maxRecDepth 65536 in
set_option maxHeartbeats 40000000 in
theorem comes_1 {Post : Tables → Env → Array Value → State → Outcome → State → Prop} (hpost : ∀ tb e args s v u, (limb_1_1.after args s (.returned v) u = true ∧ limb_1_2.after args s (.returned v) u = true ∧ True) → FrameEnd s (.returned v) u (Jvm.fieldLocs frame_1_writes args s ++ Jvm.arrayLocs frame_1_arrays args s ++ Jvm.staticLocs frame_1_statics s) 0 0 → Post tb e args s (.returned v) u) :
    ArmFor flags0 classFile x code maxLocals ret World_1 tables_1 room_1 Calls_1 rest_1 Pre_1 Post := by
  intro l hfl _ _ p e ha hc hk s m args below hf hA hF happ hP
  obtain ⟨hcalls, hrest, hpre⟩ := hP
  obtain ⟨-, -, -, hnamed, -, -, -, hat⟩ := (Spec.applies_iff hf).mp happ
  obtain ⟨hg, hn⟩ := and_e (Cond.before_iff.mp (show (Jvm.Cond.and given_1 narrow_1).before args s = true from hpre))
  obtain ⟨g0, k0⟩ := and_e hg
  obtain ⟨w0, rfl⟩ : ∃ w0 : Value, args = #[w0] := by
    have hs : args.size = 1 := by simpa [Cond.value, given_1] using g0
    obtain ⟨L⟩ := args
    match L, hs with
    | [w0], _ => exact ⟨w0, rfl⟩
  have hw := fun d (hd : d ∈ tables_1) => atoms_spec (ws := Jvm.Cond.code x code maxLocals ret :: tables_1) hat d (List.mem_cons_of_mem _ hd)
  have hfit : Fit s := fun {y c} hc i hi => by
    obtain ⟨ha, rfl⟩ := Array.getElem?_eq_some_iff.mp hc
    have q := List.all_eq_true.mp ((Array.all_eq_true_iff_forall_mem.mp hF) _ (Array.getElem_mem ha)) i (List.mem_range.mpr hi)
    simpa [Array.getElem?_eq_getElem hi] using q
  obtain ⟨i0, ei0⟩ := is_v k0
  obtain rfl : w0 = (.int i0) := Option.some.inj ei0
  obtain ⟨n, o, h1, h2, h3, _, L, rfl, ⟨rfl, rfl, -⟩, hq⟩ := rm_own_f0 l s _ hw i0 s.heap tables_1 p e ha hc hk s m _ below hf ((Spec.applies_iff_loose hf).mp happ).1 ⟨rfl, State.Warmed39.refl s, rfl⟩ trivial
  refine ⟨n, _, h1, h2, h3, hpost _ _ _ _ _ _ ⟨Cond.after_iff.mpr rfl, Cond.after_iff.mpr (eq_i res_at (Term.int_eval (1)) (congrArg Value.int (own_plain i0))), trivial⟩ ⟨hq.1, hq.2.1, (hq.2.2.sift fun y hy => Or.inr (nomatch hy)).mono (by decide) (by decide)⟩⟩
theorem main_1_1 : Claimed_1_1 := comes_1 fun _ _ _ _ _ _ h hF => ⟨h.1, hF⟩
theorem main_1_2 : Claimed_1_2 := comes_1 fun _ _ _ _ _ _ h hF => ⟨h.2.1, hF⟩
end Jvm.Pilot.@@N@@
namespace Jvm.Pilot.@@N@@
open Jvm Jvm.ClassFile Sem Op Lib Jvm.Free Jvm.Stand Jvm.Pilot.@@N@@.Jvm.D
/-! MADE BY PROGRAM (witnessworld.py) out of the Statement's table words and the real class files: 9 classes; the members and pool entries that the words name. The judged class is class 1, her method 2. -/
namespace start1
open Jvm.ClassFile
def u (s : String) : CpInfo := .utf8 (stringToUtf16 s)
/-- a pool by its gaps: so many unusable entries, then the entry; so many at the end -/
def gap : Nat → List CpInfo → List CpInfo
  | 0, r => r
  | n + 1, r => .unusable :: gap n r
def poolList (es : List (Nat × CpInfo)) (last : Nat) : List CpInfo := es.foldr (fun e r => gap e.1 (e.2 :: r)) (gap last [])
def pool (es : List (Nat × CpInfo)) (last : Nat) : Array CpInfo := ⟨poolList es last⟩
def fileOf (pool : Array CpInfo) (this : Nat) (attrs : Array Attribute := #[]) (ms : Array MethodInfo := #[]) (fl : Nat := 33) (sup : Nat := 0) (ifs : Array Nat := #[]) (fds : Array FieldInfo := #[]) : ClassFile where
  minorVersion := 0
  majorVersion := 65
  constantPool := pool
  accessFlags := fl
  thisClass := this
  superClass := sup
  interfaces := ifs
  fields := fds
  methods := ms
  attributes := attrs
def plain (name : String) (sup : Option ClassId) : Class where
  name := name
  kind := .ordinary
  loader := none
  accessFlags := 33
  super := sup
  interfaces := #[]
  cf := none
  fields := #[]
  methods := #[]
  instanceTypes := #[]
  staticTypes := #[]
  resolved := #[]
  callSites := []
  init := .initialized
  statics := none
  mirror := none

def pool0 : Array CpInfo := pool [(5, u "<init>"), (0, u "()V"), (1, .class_ 10), (1, u "java/lang/Object")] 113

def k0m0 : Method := { name := "<init>", desc := "()V", sig := { parameters := [], returnType := none }, accessFlags := 1, code := none }
/-- java/lang/Object -/
def k0 : Class := { plain "java/lang/Object" none with
  accessFlags := 33
  interfaces := #[]
  cf := some (fileOf pool0 8 #[] #[{ accessFlags := 1, nameIndex := 5, descriptorIndex := 6, attributes := #[] }] 33 0 #[] #[])
  fields := #[]
  methods := #[k0m0]
  instanceTypes := #[]
  staticTypes := #[]
  resolved := Array.replicate 124 none
  statics := none }

def pool1 : Array CpInfo := pool [(2, .class_ 4), (1, u "java/lang/Object"), (0, u "<init>"), (0, u "()V"), (0, .integer 983039), (0, .integer 55296), (0, .integer 63743), (0, .integer 64976), (0, .integer 65007), (0, .integer 65534), (0, .integer 65535), (0, .methodref 15 16), (0, .class_ 17), (0, .nameAndType 18 19), (0, u "com/example/hedge_index/hedgeindex/xml/XmlCharactersIsNameStartPinLaw"), (0, u "inGap"), (0, u "(I)Z"), (0, .methodref 21 22), (0, .class_ 23), (0, .nameAndType 24 19), (0, u "com/example/hedge_index/hedgeindex/xml/XmlCharacters"), (0, u "isNameStart"), (3, u "law")] 2

def k1m0 : Method := { name := "<init>", desc := "()V", sig := { parameters := [], returnType := none }, accessFlags := 2, code := none }
def k1c1 : Code := { maxStack := 2, maxLocals := 1, code := method_2_code, exceptionTable := #[], attributes := #[] }
def k1m1 : Method := { name := "inGap", desc := "(I)Z", sig := { parameters := [.int], returnType := some .boolean }, accessFlags := 10, code := some k1c1 }
def k1c2 : Code := { maxStack := 2, maxLocals := 2, code := code, exceptionTable := #[], attributes := #[] }
def k1m2 : Method := { name := "law", desc := "(I)Z", sig := { parameters := [.int], returnType := some .boolean }, accessFlags := 9, code := some k1c2 }
/-- com/example/hedge_index/hedgeindex/xml/XmlCharactersIsNameStartPinLaw -/
def k1 : Class := { plain "com/example/hedge_index/hedgeindex/xml/XmlCharactersIsNameStartPinLaw" (some 0) with
  accessFlags := 49
  interfaces := #[]
  cf := some (fileOf pool1 15 #[] #[{ accessFlags := 2, nameIndex := 5, descriptorIndex := 6, attributes := #[] }, { accessFlags := 10, nameIndex := 18, descriptorIndex := 19, attributes := #[] }, { accessFlags := 9, nameIndex := 28, descriptorIndex := 19, attributes := #[] }] 49 2 #[] #[])
  fields := #[]
  methods := #[k1m0, k1m1, k1m2]
  instanceTypes := #[]
  staticTypes := #[]
  resolved := Array.replicate 31 none
  statics := none }

def pool2 : Array CpInfo := pool [(2, .class_ 4), (1, u "java/lang/Object"), (0, u "<init>"), (0, u "()V"), (0, .integer 55295), (1, .integer 65533), (0, .integer 65536), (3, .integer 63744), (0, .integer 64975), (0, .integer 65008), (0, .integer 983039), (1, .class_ 21), (1, u "com/example/hedge_index/hedgeindex/xml/XmlCharacters"), (0, u "isNameStart"), (0, u "(I)Z")] 29

def k2m0 : Method := { name := "<init>", desc := "()V", sig := { parameters := [], returnType := none }, accessFlags := 2, code := none }
def k2c1 : Code := { maxStack := 2, maxLocals := 1, code := prog_120_method_3_code, exceptionTable := #[], attributes := #[] }
def k2m1 : Method := { name := "isNameStart", desc := "(I)Z", sig := { parameters := [.int], returnType := some .boolean }, accessFlags := 9, code := some k2c1 }
/-- com/example/hedge_index/hedgeindex/xml/XmlCharacters -/
def k2 : Class := { plain "com/example/hedge_index/hedgeindex/xml/XmlCharacters" (some 0) with
  accessFlags := 49
  interfaces := #[]
  cf := some (fileOf pool2 19 #[] #[{ accessFlags := 2, nameIndex := 5, descriptorIndex := 6, attributes := #[] }, { accessFlags := 9, nameIndex := 22, descriptorIndex := 23, attributes := #[] }] 49 2 #[] #[])
  fields := #[]
  methods := #[k2m0, k2m1]
  instanceTypes := #[]
  staticTypes := #[]
  resolved := Array.replicate 53 none
  statics := none }

def pool3 : Array CpInfo := pool [(1, u "java/lang/Cloneable"), (0, .class_ 1), (0, u "java/lang/Object"), (0, .class_ 3)] 3

/-- java/lang/Cloneable -/
def k3 : Class := { plain "java/lang/Cloneable" (some 0) with
  accessFlags := 1537
  interfaces := #[]
  cf := some (fileOf pool3 2 #[] #[] 1537 4 #[] #[])
  fields := #[]
  methods := #[]
  instanceTypes := #[]
  staticTypes := #[]
  resolved := Array.replicate 8 none
  statics := none }

def pool4 : Array CpInfo := pool [(1, u "java/io/Serializable"), (0, .class_ 1), (0, u "java/lang/Object"), (0, .class_ 3)] 3

/-- java/io/Serializable -/
def k4 : Class := { plain "java/io/Serializable" (some 0) with
  accessFlags := 1537
  interfaces := #[]
  cf := some (fileOf pool4 2 #[] #[] 1537 4 #[] #[])
  fields := #[]
  methods := #[]
  instanceTypes := #[]
  staticTypes := #[]
  resolved := Array.replicate 8 none
  statics := none }

/-- the primitive byte -/
def k5 : Class := { plain "byte" none with kind := .primitive 'B', accessFlags := 0x411 }
/-- [B -/
def k6 : Class := { plain "[B" (some 0) with kind := .array 5 .byte, interfaces := #[3, 4], accessFlags := 1041 }

/-- the primitive int -/
def k7 : Class := { plain "int" none with kind := .primitive 'I', accessFlags := 0x411 }
/-- [I -/
def k8 : Class := { plain "[I" (some 0) with kind := .array 7 .int, interfaces := #[3, 4], accessFlags := 1041 }

def heap : Heap := #[]
def classes : Array Class := #[k0, k1, k2, k3, k4, k5, k6, k7, k8]
def interned : List (Array UInt16 × Addr) := []
def slotsUsed : Nat := 0
def theMethod : MethodId := ⟨1, 2⟩
def args0 : Array Value := #[.int 5]
def aboutOver (below : List Frame) : State where
  vm := { classes := classes, interned := interned.toArray }
  heap := heap
  slotsUsed := slotsUsed
  threads := #[{ frames := .invoking theMethod args0 :: below }]
def below0 : List Frame := [.native { method := ⟨0, 0⟩, args := #[] }]
def about1 : State := aboutOver below0
def p0 : Program := .bare "" "" ""
def e0 : Env := launch0.env 0 0 0
theorem w_frames : about1.frames = Frame.invoking theMethod args0 :: below0 := rfl
set_option maxRecDepth 65536 in
theorem w_args : argsFit about1.vm theMethod args0 = true := by decide +kernel
set_option maxRecDepth 65536 in
theorem w_heap : heapFits about1 = true := by decide +kernel
set_option maxRecDepth 65536 in
theorem w_runnable : about1.curStatus? = some .runnable := by decide +kernel
set_option maxRecDepth 65536 in
theorem w_alone : about1.alone = true := by decide +kernel
set_option maxRecDepth 65536 in
theorem w_named : about1.methodNamed? x = some theMethod := by decide +kernel
set_option maxRecDepth 65536 in
theorem w_hears : about1.hears theMethod below0 = true := by decide +kernel
set_option maxRecDepth 65536 in
theorem w_ripe : about1.ripe theMethod args0 below0 = true := by decide +kernel
theorem w_running : about1.status = .running := rfl
set_option maxRecDepth 65536 in
theorem w_room : about1.hasRoom e0.platform room_1 = true :=
  launch0.hasRoom_least _ room_1 (by decide +kernel) (by decide +kernel) (by decide +kernel) (by decide +kernel) (by decide +kernel) (by decide +kernel)
theorem allAtoms_all (ts : List Jvm.Cond) (a : Array Jvm.Value) (st : Jvm.State) : (allAtoms ts).before a st = ts.all (fun c => c.before a st) := by
  induction ts with
  | nil => rfl
  | cons c t ih =>
    show (Jvm.Cond.and c (allAtoms t)).before a st = _
    rw [Jvm.Cond.before_and, ih, List.all_cons]
def words1 : List Jvm.Cond := Jvm.Cond.code x code maxLocals ret :: tables_1
/-- a 'code' word, met by the world's own term for the bytes: nothing is compared byte by byte -/
theorem code_word {y : MethodName} {bytes : ByteArray} {mx : Nat} {rt : Option FieldType} {a : Array Value} {s : State} {m : MethodId} {meth : Method} {c : Code} (h1 : s.methodNamed? y = some m) (h2 : s.vm.method? m = some meth) (h3 : meth.code = some c) (h4 : c.code = bytes)
    (h5 : (c.maxLocals == mx && c.exceptionTable.isEmpty && decide (c.maxStack ≤ mostOperands) && decide (meth.sig.returnType = rt) && !meth.locks && decide (parseMethodDescriptor y.desc = some meth.sig)) = true) : (Jvm.Cond.code y bytes mx rt).before a s = true := by
  simp only [Bool.and_eq_true, beq_iff_eq, Bool.not_eq_true', decide_eq_true_eq] at h5
  obtain ⟨⟨⟨⟨⟨g1, g2⟩, g3⟩, g4⟩, g5⟩, g6⟩ := h5
  simp [Cond.before, Cond.holds, Cond.value, h1, h2, h3, h4, g1, g2, g3, g4, g5, g6]
def isCode : Jvm.Cond → Bool
  | .code _ _ _ _ => true
  | _ => false
theorem all_split {L : List Jvm.Cond} {P : Jvm.Cond → Bool} (h1 : L.all (fun c => isCode c || P c) = true) (h2 : ∀ c ∈ L.filter isCode, P c = true) : L.all P = true := by
  refine List.all_eq_true.mpr fun c hc => ?_
  have h := List.all_eq_true.mp h1 c hc
  rcases Bool.eq_false_or_eq_true (isCode c) with hi | hi
  · exact h2 c (List.mem_filter.mpr ⟨hc, hi⟩)
  · simpa [hi] using h
set_option maxRecDepth 65536 in
theorem w_c0 : (Jvm.Cond.code x code maxLocals ret).before args0 about1 = true := code_word (m := ⟨1, 2⟩) (meth := k1m2) (c := k1c2) (by decide +kernel) rfl rfl rfl (by decide +kernel)
set_option maxRecDepth 65536 in
theorem w_c1 : (Jvm.Cond.code ({ cls := "com/example/hedge_index/hedgeindex/xml/XmlCharactersIsNameStartPinLaw", name := "inGap", desc := "(I)Z" } : Jvm.MethodName) method_2_code (1 : Nat) (Option.some Jvm.ClassFile.FieldType.boolean)).before args0 about1 = true := code_word (m := ⟨1, 1⟩) (meth := k1m1) (c := k1c1) (by decide +kernel) rfl rfl rfl (by decide +kernel)
set_option maxRecDepth 65536 in
theorem w_c2 : (Jvm.Cond.code ({ cls := "com/example/hedge_index/hedgeindex/xml/XmlCharacters", name := "isNameStart", desc := "(I)Z" } : Jvm.MethodName) prog_120_method_3_code (1 : Nat) (Option.some Jvm.ClassFile.FieldType.boolean)).before args0 about1 = true := code_word (m := ⟨2, 1⟩) (meth := k2m1) (c := k2c1) (by decide +kernel) rfl rfl rfl (by decide +kernel)
def codes1 : List Jvm.Cond := [Jvm.Cond.code x code maxLocals ret, Jvm.Cond.code ({ cls := "com/example/hedge_index/hedgeindex/xml/XmlCharactersIsNameStartPinLaw", name := "inGap", desc := "(I)Z" } : Jvm.MethodName) method_2_code (1 : Nat) (Option.some Jvm.ClassFile.FieldType.boolean), Jvm.Cond.code ({ cls := "com/example/hedge_index/hedgeindex/xml/XmlCharacters", name := "isNameStart", desc := "(I)Z" } : Jvm.MethodName) prog_120_method_3_code (1 : Nat) (Option.some Jvm.ClassFile.FieldType.boolean)]
set_option maxRecDepth 65536 in
theorem codes_eq : words1.filter isCode = codes1 := rfl
theorem w_codes : ∀ c ∈ words1.filter isCode, c.before args0 about1 = true := by
  rw [codes_eq]
  intro c hc
  simp only [codes1, List.mem_cons, List.not_mem_nil, or_false] at hc
  rcases hc with rfl | rfl | rfl
  · exact w_c0
  · exact w_c1
  · exact w_c2
set_option maxRecDepth 65536 in
theorem w_t1 : words1.all (fun c => isCode c || c.before args0 about1) = true := by decide +kernel
theorem w_tables : (allAtoms (Jvm.Cond.code x code maxLocals ret :: tables_1)).before args0 about1 = true := by
  rw [allAtoms_all]
  show words1.all (fun c => c.before args0 about1) = true
  refine all_split ?_ w_codes
  rw [w_t1]
set_option maxRecDepth 65536 in
theorem w_case : (Jvm.Cond.and given_1 narrow_1).before args0 about1 = true := by decide +kernel
theorem w_applies : (headSpec (Jvm.Cond.code x code maxLocals ret :: tables_1) room_1).applies x e0.platform about1 = true :=
  (Spec.applies_iff w_frames).mpr ⟨w_running, w_runnable, w_alone, w_named, w_hears, w_ripe, w_room, w_tables⟩
theorem atStart : AtStart classFile x code maxLocals ret World_1 tables_1 room_1 Calls_1 rest_1 Pre_1 launch0 p0 e0 about1 theMethod args0 below0 :=
  ⟨lists_1, trivial, launch0.admits_env _ _ _, launch0.least_env, fairChoices_fair.cas, fairChoices_fair.clock, w_frames, w_args, w_heap, w_applies, trivial, trivial, w_case⟩
end start1
theorem witness_1 : WitnessClaimed_1 := ⟨start1.p0, start1.e0, start1.about1, start1.theMethod, start1.args0, start1.below0, start1.atStart⟩
end Jvm.Pilot.@@N@@
