import JvmDerived
import JvmDerived.Pilot.@@N@@Statement
import JvmDerived.Pilot.@@N@@Code
set_option linter.unusedVariables false
set_option linter.unusedSimpArgs false
namespace Jvm.OwnGo
open Jvm Jvm.ClassFile Sem Op Lib Jvm.Free Jvm.Stand Jvm.LawKit Jvm.RoadKit
section Plain
variable {tb : Tables} [Ours tb] {e : Env} {below : List Frame} {Q : Outcome → State → Prop} {T : State} {m : MethodId} {c : Code} {bs : ByteArray} {ls l' : Array Slot} {st : List Value} {pc pn pt : Nat}
def Go (tb : Tables) (e : Env) (below : List Frame) (Q : Outcome → State → Prop) (T : State) : Prop := ∃ s₂ o, Steps tb e below T s₂ ∧ s₂.status = .running ∧ Ended s₂ below o ∧ Q o s₂
def Wk (tb : Tables) (T : State) (m : MethodId) (c : Code) (below : List Frame) (bs : ByteArray) : Prop := At T m c below ∧ tb.exec = Jvm.exec ∧ c.code = bs
theorem Go.step {tb : Tables} {T T' : State} (g : Go tb e below Q T') (h : ∀ t, Steps tb e below T' t → Steps tb e below T t) : Go tb e below Q T := by
  obtain ⟨s2, o, h1, r⟩ := g
  exact ⟨s2, o, h _ h1, r⟩
theorem Go.cast {tb : Tables} {g g' : JFrame} (q : g = g') (k : Go tb e below Q (T.setTop g')) : Go tb e below Q (T.setTop g) := q ▸ k
theorem iloadN (W : Wk tb T m c below bs) {k : Fin 4} {v : Int32} (hd : decode bs pc = .ok (.iload_n k, 1)) (hp : pc + 1 = pn) (hl : ls[k.val]? = some (.val (.int v))) (hr : Go tb e below Q (T.setTop (mkF m pn ls (.int v :: st)))) : Go tb e below Q (T.setTop (mkF m pc ls (st))) := by
  subst hp; exact hr.step fun t k => XS.iloadN W.1 W.2.1 rfl (hb W.2.2 hd) hl k
theorem iload (W : Wk tb T m c below bs) {k : Nat} {v : Int32} (hd : decode bs pc = .ok (.iload k, 2)) (hp : pc + 2 = pn) (hl : ls[k]? = some (.val (.int v))) (hr : Go tb e below Q (T.setTop (mkF m pn ls (.int v :: st)))) : Go tb e below Q (T.setTop (mkF m pc ls (st))) := by
  subst hp; exact hr.step fun t k => XS.iload W.1 W.2.1 rfl (hb W.2.2 hd) hl k
theorem lloadN (W : Wk tb T m c below bs) {k : Fin 4} {v : Int64} (hd : decode bs pc = .ok (.lload_n k, 1)) (hp : pc + 1 = pn) (hl : ls[k.val]? = some (.val (.long v))) (hr : Go tb e below Q (T.setTop (mkF m pn ls (.long v :: st)))) : Go tb e below Q (T.setTop (mkF m pc ls (st))) := by
  subst hp; exact hr.step fun t k => XT.lloadN W.1 W.2.1 rfl (hb W.2.2 hd) hl k
theorem lload (W : Wk tb T m c below bs) {k : Nat} {v : Int64} (hd : decode bs pc = .ok (.lload k, 2)) (hp : pc + 2 = pn) (hl : ls[k]? = some (.val (.long v))) (hr : Go tb e below Q (T.setTop (mkF m pn ls (.long v :: st)))) : Go tb e below Q (T.setTop (mkF m pc ls (st))) := by
  subst hp; exact hr.step fun t k => XT.lload W.1 W.2.1 rfl (hb W.2.2 hd) hl k
theorem aloadN (W : Wk tb T m c below bs) {k : Fin 4} {v : Value} (hd : decode bs pc = .ok (.aload_n k, 1)) (hp : pc + 1 = pn) (hl : ls[k.val]? = some (.val v)) (hv : v.isRef = true) (hr : Go tb e below Q (T.setTop (mkF m pn ls (v :: st)))) : Go tb e below Q (T.setTop (mkF m pc ls (st))) := by
  subst hp; exact hr.step fun t k => XS.aloadN W.1 W.2.1 rfl (hb W.2.2 hd) hl hv k
theorem aload (W : Wk tb T m c below bs) {k : Nat} {v : Value} (hd : decode bs pc = .ok (.aload k, 2)) (hp : pc + 2 = pn) (hl : ls[k]? = some (.val v)) (hv : v.isRef = true) (hr : Go tb e below Q (T.setTop (mkF m pn ls (v :: st)))) : Go tb e below Q (T.setTop (mkF m pc ls (st))) := by
  subst hp; exact hr.step fun t k => XS.aload W.1 W.2.1 rfl (hb W.2.2 hd) hl hv k
theorem istoreN (W : Wk tb T m c below bs) {k : Fin 4} {x : Int32} (hd : decode bs pc = .ok (.istore_n k, 1)) (hp : pc + 1 = pn) (hl : storeLocals ls k.val (.int x) = some l') (hr : Go tb e below Q (T.setTop (mkF m pn l' (st)))) : Go tb e below Q (T.setTop (mkF m pc ls (.int x :: st))) := by
  subst hp; exact hr.step fun t k => XS.istoreN W.1 W.2.1 rfl (hb W.2.2 hd) rfl hl k
theorem istore (W : Wk tb T m c below bs) {k : Nat} {x : Int32} (hd : decode bs pc = .ok (.istore k, 2)) (hp : pc + 2 = pn) (hl : storeLocals ls k (.int x) = some l') (hr : Go tb e below Q (T.setTop (mkF m pn l' (st)))) : Go tb e below Q (T.setTop (mkF m pc ls (.int x :: st))) := by
  subst hp; exact hr.step fun t k => XS.istore W.1 W.2.1 rfl (hb W.2.2 hd) rfl hl k
theorem lstoreN (W : Wk tb T m c below bs) {k : Fin 4} {x : Int64} (hd : decode bs pc = .ok (.lstore_n k, 1)) (hp : pc + 1 = pn) (hl : storeLocals ls k.val (.long x) = some l') (hr : Go tb e below Q (T.setTop (mkF m pn l' (st)))) : Go tb e below Q (T.setTop (mkF m pc ls (.long x :: st))) := by
  subst hp; exact hr.step fun t k => XT.lstoreN W.1 W.2.1 rfl (hb W.2.2 hd) rfl hl k
theorem lstore (W : Wk tb T m c below bs) {k : Nat} {x : Int64} (hd : decode bs pc = .ok (.lstore k, 2)) (hp : pc + 2 = pn) (hl : storeLocals ls k (.long x) = some l') (hr : Go tb e below Q (T.setTop (mkF m pn l' (st)))) : Go tb e below Q (T.setTop (mkF m pc ls (.long x :: st))) := by
  subst hp; exact hr.step fun t k => XT.lstore W.1 W.2.1 rfl (hb W.2.2 hd) rfl hl k
theorem astoreN (W : Wk tb T m c below bs) {k : Fin 4} {x : Value} (hd : decode bs pc = .ok (.astore_n k, 1)) (hp : pc + 1 = pn) (hv : x.isRef = true) (hl : storeLocals ls k.val x = some l') (hr : Go tb e below Q (T.setTop (mkF m pn l' (st)))) : Go tb e below Q (T.setTop (mkF m pc ls (x :: st))) := by
  subst hp; exact hr.step fun t k => XS.astoreN W.1 W.2.1 rfl (hb W.2.2 hd) rfl hv hl k
theorem astore (W : Wk tb T m c below bs) {k : Nat} {x : Value} (hd : decode bs pc = .ok (.astore k, 2)) (hp : pc + 2 = pn) (hv : x.isRef = true) (hl : storeLocals ls k x = some l') (hr : Go tb e below Q (T.setTop (mkF m pn l' (st)))) : Go tb e below Q (T.setTop (mkF m pc ls (x :: st))) := by
  subst hp; exact hr.step fun t k => XS.astore W.1 W.2.1 rfl (hb W.2.2 hd) rfl hv hl k
theorem iadd (W : Wk tb T m c below bs) {x y : Int32} (hd : decode bs pc = .ok (.iadd, 1)) (hp : pc + 1 = pn)  (hr : Go tb e below Q (T.setTop (mkF m pn ls (.int (x + y) :: st)))) : Go tb e below Q (T.setTop (mkF m pc ls (.int y :: .int x :: st))) := by
  subst hp; exact hr.step fun t k => XS.iadd W.1 W.2.1 rfl (hb W.2.2 hd) rfl k
theorem isub (W : Wk tb T m c below bs) {x y : Int32} (hd : decode bs pc = .ok (.isub, 1)) (hp : pc + 1 = pn)  (hr : Go tb e below Q (T.setTop (mkF m pn ls (.int (x - y) :: st)))) : Go tb e below Q (T.setTop (mkF m pc ls (.int y :: .int x :: st))) := by
  subst hp; exact hr.step fun t k => XS.isub W.1 W.2.1 rfl (hb W.2.2 hd) rfl k
theorem imul (W : Wk tb T m c below bs) {x y : Int32} (hd : decode bs pc = .ok (.imul, 1)) (hp : pc + 1 = pn)  (hr : Go tb e below Q (T.setTop (mkF m pn ls (.int (x * y) :: st)))) : Go tb e below Q (T.setTop (mkF m pc ls (.int y :: .int x :: st))) := by
  subst hp; exact hr.step fun t k => XS.imul W.1 W.2.1 rfl (hb W.2.2 hd) rfl k
theorem iand (W : Wk tb T m c below bs) {x y : Int32} (hd : decode bs pc = .ok (.iand, 1)) (hp : pc + 1 = pn)  (hr : Go tb e below Q (T.setTop (mkF m pn ls (.int (x &&& y) :: st)))) : Go tb e below Q (T.setTop (mkF m pc ls (.int y :: .int x :: st))) := by
  subst hp; exact hr.step fun t k => XS.iand W.1 W.2.1 rfl (hb W.2.2 hd) rfl k
theorem ior (W : Wk tb T m c below bs) {x y : Int32} (hd : decode bs pc = .ok (.ior, 1)) (hp : pc + 1 = pn)  (hr : Go tb e below Q (T.setTop (mkF m pn ls (.int (x ||| y) :: st)))) : Go tb e below Q (T.setTop (mkF m pc ls (.int y :: .int x :: st))) := by
  subst hp; exact hr.step fun t k => XT.ior W.1 W.2.1 rfl (hb W.2.2 hd) rfl k
theorem ixor (W : Wk tb T m c below bs) {x y : Int32} (hd : decode bs pc = .ok (.ixor, 1)) (hp : pc + 1 = pn)  (hr : Go tb e below Q (T.setTop (mkF m pn ls (.int (x ^^^ y) :: st)))) : Go tb e below Q (T.setTop (mkF m pc ls (.int y :: .int x :: st))) := by
  subst hp; exact hr.step fun t k => XT.ixor W.1 W.2.1 rfl (hb W.2.2 hd) rfl k
theorem ishl (W : Wk tb T m c below bs) {x y : Int32} (hd : decode bs pc = .ok (.ishl, 1)) (hp : pc + 1 = pn)  (hr : Go tb e below Q (T.setTop (mkF m pn ls (.int (x <<< (y &&& 31)) :: st)))) : Go tb e below Q (T.setTop (mkF m pc ls (.int y :: .int x :: st))) := by
  subst hp; exact hr.step fun t k => XT.ishl W.1 W.2.1 rfl (hb W.2.2 hd) rfl k
theorem ishr (W : Wk tb T m c below bs) {x y : Int32} (hd : decode bs pc = .ok (.ishr, 1)) (hp : pc + 1 = pn)  (hr : Go tb e below Q (T.setTop (mkF m pn ls (.int (x >>> (y &&& 31)) :: st)))) : Go tb e below Q (T.setTop (mkF m pc ls (.int y :: .int x :: st))) := by
  subst hp; exact hr.step fun t k => XT.ishr W.1 W.2.1 rfl (hb W.2.2 hd) rfl k
theorem iushr (W : Wk tb T m c below bs) {x y : Int32} (hd : decode bs pc = .ok (.iushr, 1)) (hp : pc + 1 = pn)  (hr : Go tb e below Q (T.setTop (mkF m pn ls (.int (XT.ushr x y) :: st)))) : Go tb e below Q (T.setTop (mkF m pc ls (.int y :: .int x :: st))) := by
  subst hp; exact hr.step fun t k => XT.iushr W.1 W.2.1 rfl (hb W.2.2 hd) rfl k
theorem ladd (W : Wk tb T m c below bs) {x y : Int64} (hd : decode bs pc = .ok (.ladd, 1)) (hp : pc + 1 = pn)  (hr : Go tb e below Q (T.setTop (mkF m pn ls (.long (x + y) :: st)))) : Go tb e below Q (T.setTop (mkF m pc ls (.long y :: .long x :: st))) := by
  subst hp; exact hr.step fun t k => XT.ladd W.1 W.2.1 rfl (hb W.2.2 hd) rfl k
theorem lsub (W : Wk tb T m c below bs) {x y : Int64} (hd : decode bs pc = .ok (.lsub, 1)) (hp : pc + 1 = pn)  (hr : Go tb e below Q (T.setTop (mkF m pn ls (.long (x - y) :: st)))) : Go tb e below Q (T.setTop (mkF m pc ls (.long y :: .long x :: st))) := by
  subst hp; exact hr.step fun t k => XT.lsub W.1 W.2.1 rfl (hb W.2.2 hd) rfl k
theorem lmul (W : Wk tb T m c below bs) {x y : Int64} (hd : decode bs pc = .ok (.lmul, 1)) (hp : pc + 1 = pn)  (hr : Go tb e below Q (T.setTop (mkF m pn ls (.long (x * y) :: st)))) : Go tb e below Q (T.setTop (mkF m pc ls (.long y :: .long x :: st))) := by
  subst hp; exact hr.step fun t k => XT.lmul W.1 W.2.1 rfl (hb W.2.2 hd) rfl k
theorem land (W : Wk tb T m c below bs) {x y : Int64} (hd : decode bs pc = .ok (.land, 1)) (hp : pc + 1 = pn)  (hr : Go tb e below Q (T.setTop (mkF m pn ls (.long (x &&& y) :: st)))) : Go tb e below Q (T.setTop (mkF m pc ls (.long y :: .long x :: st))) := by
  subst hp; exact hr.step fun t k => XT.land W.1 W.2.1 rfl (hb W.2.2 hd) rfl k
theorem lor (W : Wk tb T m c below bs) {x y : Int64} (hd : decode bs pc = .ok (.lor, 1)) (hp : pc + 1 = pn)  (hr : Go tb e below Q (T.setTop (mkF m pn ls (.long (x ||| y) :: st)))) : Go tb e below Q (T.setTop (mkF m pc ls (.long y :: .long x :: st))) := by
  subst hp; exact hr.step fun t k => XT.lor W.1 W.2.1 rfl (hb W.2.2 hd) rfl k
theorem lxor (W : Wk tb T m c below bs) {x y : Int64} (hd : decode bs pc = .ok (.lxor, 1)) (hp : pc + 1 = pn)  (hr : Go tb e below Q (T.setTop (mkF m pn ls (.long (x ^^^ y) :: st)))) : Go tb e below Q (T.setTop (mkF m pc ls (.long y :: .long x :: st))) := by
  subst hp; exact hr.step fun t k => XT.lxor W.1 W.2.1 rfl (hb W.2.2 hd) rfl k
theorem lshl (W : Wk tb T m c below bs) {x : Int64} {y : Int32} (hd : decode bs pc = .ok (.lshl, 1)) (hp : pc + 1 = pn)  (hr : Go tb e below Q (T.setTop (mkF m pn ls (.long (x <<< (y.toInt64 &&& 63)) :: st)))) : Go tb e below Q (T.setTop (mkF m pc ls (.int y :: .long x :: st))) := by
  subst hp; exact hr.step fun t k => XT.lshl W.1 W.2.1 rfl (hb W.2.2 hd) rfl k
theorem lshr (W : Wk tb T m c below bs) {x : Int64} {y : Int32} (hd : decode bs pc = .ok (.lshr, 1)) (hp : pc + 1 = pn)  (hr : Go tb e below Q (T.setTop (mkF m pn ls (.long (x >>> (y.toInt64 &&& 63)) :: st)))) : Go tb e below Q (T.setTop (mkF m pc ls (.int y :: .long x :: st))) := by
  subst hp; exact hr.step fun t k => XT.lshr W.1 W.2.1 rfl (hb W.2.2 hd) rfl k
theorem lushr (W : Wk tb T m c below bs) {x : Int64} {y : Int32} (hd : decode bs pc = .ok (.lushr, 1)) (hp : pc + 1 = pn)  (hr : Go tb e below Q (T.setTop (mkF m pn ls (.long (XT.ushrL x y) :: st)))) : Go tb e below Q (T.setTop (mkF m pc ls (.int y :: .long x :: st))) := by
  subst hp; exact hr.step fun t k => XT.lushr W.1 W.2.1 rfl (hb W.2.2 hd) rfl k
theorem i2l (W : Wk tb T m c below bs) {x : Int32} (hd : decode bs pc = .ok (.i2l, 1)) (hp : pc + 1 = pn)  (hr : Go tb e below Q (T.setTop (mkF m pn ls (.long (x.toInt64) :: st)))) : Go tb e below Q (T.setTop (mkF m pc ls (.int x :: st))) := by
  subst hp; exact hr.step fun t k => XT.i2l W.1 W.2.1 rfl (hb W.2.2 hd) rfl k
theorem l2i (W : Wk tb T m c below bs) {x : Int64} (hd : decode bs pc = .ok (.l2i, 1)) (hp : pc + 1 = pn)  (hr : Go tb e below Q (T.setTop (mkF m pn ls (.int (x.toInt32) :: st)))) : Go tb e below Q (T.setTop (mkF m pc ls (.long x :: st))) := by
  subst hp; exact hr.step fun t k => XT.l2i W.1 W.2.1 rfl (hb W.2.2 hd) rfl k
theorem i2b (W : Wk tb T m c below bs) {x : Int32} (hd : decode bs pc = .ok (.i2b, 1)) (hp : pc + 1 = pn)  (hr : Go tb e below Q (T.setTop (mkF m pn ls (.int (x.toInt8.toInt32) :: st)))) : Go tb e below Q (T.setTop (mkF m pc ls (.int x :: st))) := by
  subst hp; exact hr.step fun t k => XT.i2b W.1 W.2.1 rfl (hb W.2.2 hd) rfl k
theorem i2c (W : Wk tb T m c below bs) {x : Int32} (hd : decode bs pc = .ok (.i2c, 1)) (hp : pc + 1 = pn)  (hr : Go tb e below Q (T.setTop (mkF m pn ls (.int (x.toUInt32.toUInt16.toUInt32.toInt32) :: st)))) : Go tb e below Q (T.setTop (mkF m pc ls (.int x :: st))) := by
  subst hp; exact hr.step fun t k => XT.i2c W.1 W.2.1 rfl (hb W.2.2 hd) rfl k
theorem i2s (W : Wk tb T m c below bs) {x : Int32} (hd : decode bs pc = .ok (.i2s, 1)) (hp : pc + 1 = pn)  (hr : Go tb e below Q (T.setTop (mkF m pn ls (.int (x.toInt16.toInt32) :: st)))) : Go tb e below Q (T.setTop (mkF m pc ls (.int x :: st))) := by
  subst hp; exact hr.step fun t k => XT.i2s W.1 W.2.1 rfl (hb W.2.2 hd) rfl k
theorem ineg (W : Wk tb T m c below bs) {x : Int32} (hd : decode bs pc = .ok (.ineg, 1)) (hp : pc + 1 = pn)  (hr : Go tb e below Q (T.setTop (mkF m pn ls (.int (-x) :: st)))) : Go tb e below Q (T.setTop (mkF m pc ls (.int x :: st))) := by
  subst hp; exact hr.step fun t k => XS.ineg W.1 W.2.1 rfl (hb W.2.2 hd) rfl k
theorem lneg (W : Wk tb T m c below bs) {x : Int64} (hd : decode bs pc = .ok (.lneg, 1)) (hp : pc + 1 = pn)  (hr : Go tb e below Q (T.setTop (mkF m pn ls (.long (-x) :: st)))) : Go tb e below Q (T.setTop (mkF m pc ls (.long x :: st))) := by
  subst hp; exact hr.step fun t k => XT.lneg W.1 W.2.1 rfl (hb W.2.2 hd) rfl k
theorem idiv (W : Wk tb T m c below bs) {x y : Int32} (hd : decode bs pc = .ok (.idiv, 1)) (hp : pc + 1 = pn) (hy : y ≠ 0) (hr : Go tb e below Q (T.setTop (mkF m pn ls (.int (x / y) :: st)))) : Go tb e below Q (T.setTop (mkF m pc ls (.int y :: .int x :: st))) := by
  subst hp; exact hr.step fun t k => XS.idiv W.1 W.2.1 rfl (hb W.2.2 hd) rfl hy k
theorem irem (W : Wk tb T m c below bs) {x y : Int32} (hd : decode bs pc = .ok (.irem, 1)) (hp : pc + 1 = pn) (hy : y ≠ 0) (hr : Go tb e below Q (T.setTop (mkF m pn ls (.int (x - (x / y) * y) :: st)))) : Go tb e below Q (T.setTop (mkF m pc ls (.int y :: .int x :: st))) := by
  subst hp; exact hr.step fun t k => XS.irem W.1 W.2.1 rfl (hb W.2.2 hd) rfl hy k
theorem ldiv (W : Wk tb T m c below bs) {x y : Int64} (hd : decode bs pc = .ok (.ldiv, 1)) (hp : pc + 1 = pn) (hy : y ≠ 0) (hr : Go tb e below Q (T.setTop (mkF m pn ls (.long (x / y) :: st)))) : Go tb e below Q (T.setTop (mkF m pc ls (.long y :: .long x :: st))) := by
  subst hp; exact hr.step fun t k => XT.ldiv W.1 W.2.1 rfl (hb W.2.2 hd) rfl hy k
theorem lrem (W : Wk tb T m c below bs) {x y : Int64} (hd : decode bs pc = .ok (.lrem, 1)) (hp : pc + 1 = pn) (hy : y ≠ 0) (hr : Go tb e below Q (T.setTop (mkF m pn ls (.long (x - (x / y) * y) :: st)))) : Go tb e below Q (T.setTop (mkF m pc ls (.long y :: .long x :: st))) := by
  subst hp; exact hr.step fun t k => XT.lrem W.1 W.2.1 rfl (hb W.2.2 hd) rfl hy k
theorem lcmp (W : Wk tb T m c below bs) {x y : Int64} (hd : decode bs pc = .ok (.lcmp, 1)) (hp : pc + 1 = pn)  (hr : Go tb e below Q (T.setTop (mkF m pn ls (.int (XT.cmpL x y) :: st)))) : Go tb e below Q (T.setTop (mkF m pc ls (.long y :: .long x :: st))) := by
  subst hp; exact hr.step fun t k => XT.lcmp W.1 W.2.1 rfl (hb W.2.2 hd) rfl k
theorem dup (W : Wk tb T m c below bs) {x : Value} (hd : decode bs pc = .ok (.dup, 1)) (hp : pc + 1 = pn) (hc : x.category = 1) (hr : Go tb e below Q (T.setTop (mkF m pn ls (x :: x :: st)))) : Go tb e below Q (T.setTop (mkF m pc ls (x :: st))) := by
  subst hp; exact hr.step fun t k => XS.dup W.1 W.2.1 rfl (hb W.2.2 hd) rfl hc k
theorem dup2 (W : Wk tb T m c below bs) {x y : Value} (hd : decode bs pc = .ok (.dup2, 1)) (hp : pc + 1 = pn) (hc : x.category = 1) (hc' : y.category = 1) (hr : Go tb e below Q (T.setTop (mkF m pn ls (x :: y :: x :: y :: st)))) : Go tb e below Q (T.setTop (mkF m pc ls (x :: y :: st))) := by
  subst hp; exact hr.step fun t k => XT.dup2 W.1 W.2.1 rfl (hb W.2.2 hd) rfl hc hc' k
theorem pop (W : Wk tb T m c below bs) {x : Value} (hd : decode bs pc = .ok (.pop, 1)) (hp : pc + 1 = pn) (hc : x.category = 1) (hr : Go tb e below Q (T.setTop (mkF m pn ls (st)))) : Go tb e below Q (T.setTop (mkF m pc ls (x :: st))) := by
  subst hp; exact hr.step fun t k => XT.pop W.1 W.2.1 rfl (hb W.2.2 hd) rfl hc k
theorem aconstNull (W : Wk tb T m c below bs)  (hd : decode bs pc = .ok (.aconst_null, 1)) (hp : pc + 1 = pn)  (hr : Go tb e below Q (T.setTop (mkF m pn ls (.null :: st)))) : Go tb e below Q (T.setTop (mkF m pc ls (st))) := by
  subst hp; exact hr.step fun t k => XS.aconstNull W.1 W.2.1 rfl (hb W.2.2 hd)  k
theorem iconst (W : Wk tb T m c below bs) {i : Int} {v : Int32} (hd : decode bs pc = .ok (.iconst i, 1)) (hp : pc + 1 = pn) (hv : Int32.ofInt i = v) (hr : Go tb e below Q (T.setTop (mkF m pn ls (.int v :: st)))) : Go tb e below Q (T.setTop (mkF m pc ls st)) := by
  subst hp; exact hr.step fun t k => XT.iconstV W.1 W.2.1 rfl _ (hb W.2.2 hd) hv k
theorem bipush (W : Wk tb T m c below bs) {i : Int} {v : Int32} (hd : decode bs pc = .ok (.bipush i, 2)) (hp : pc + 2 = pn) (hv : (Int8.ofInt i).toInt32 = v) (hr : Go tb e below Q (T.setTop (mkF m pn ls (.int v :: st)))) : Go tb e below Q (T.setTop (mkF m pc ls st)) := by
  subst hp; exact hr.step fun t k => XT.bipushV W.1 W.2.1 rfl _ (hb W.2.2 hd) hv k
theorem sipush (W : Wk tb T m c below bs) {i : Int} {v : Int32} (hd : decode bs pc = .ok (.sipush i, 3)) (hp : pc + 3 = pn) (hv : (Int16.ofInt i).toInt32 = v) (hr : Go tb e below Q (T.setTop (mkF m pn ls (.int v :: st)))) : Go tb e below Q (T.setTop (mkF m pc ls st)) := by
  subst hp; exact hr.step fun t k => XT.sipushV W.1 W.2.1 rfl _ (hb W.2.2 hd) hv k
theorem lconst (W : Wk tb T m c below bs) {i : Fin 2} {v : Int64} (hd : decode bs pc = .ok (.lconst i, 1)) (hp : pc + 1 = pn) (hv : Int64.ofNat i = v) (hr : Go tb e below Q (T.setTop (mkF m pn ls (.long v :: st)))) : Go tb e below Q (T.setTop (mkF m pc ls st)) := by
  subst hp; exact hr.step fun t k => XT.lconstV W.1 W.2.1 rfl _ (hb W.2.2 hd) hv k
theorem iinc (W : Wk tb T m c below bs) {k : Nat} {cst : Int} {x v : Int32} (hd : decode bs pc = .ok (.iinc k cst, 3)) (hp : pc + 3 = pn) (hv : Int32.ofInt cst = v) (hl : ls[k]? = some (.val (.int x))) (hl' : storeLocals ls k (.int (x + v)) = some l') (hr : Go tb e below Q (T.setTop (mkF m pn l' st))) : Go tb e below Q (T.setTop (mkF m pc ls st)) := by
  subst hp; exact hr.step fun t k => XT.iincV W.1 W.2.1 rfl _ (hb W.2.2 hd) hv hl hl' k
theorem goto (W : Wk tb T m c below bs) {o : Int} (hd : decode bs pc = .ok (.goto o, 3)) (ho : 0 ≤ (pc : Int) + o) (ht : ((pc : Int) + o).toNat = pt) (hr : Go tb e below Q (T.setTop (mkF m pt ls st))) : Go tb e below Q (T.setTop (mkF m pc ls st)) := by
  exact hr.step fun t k => XS.goto W.1 W.2.1 rfl (pc0 := pc) (pc' := pt) rfl (hb W.2.2 hd) ho ht k
theorem icmp_eq (W : Wk tb T m c below bs) {x y : Int32} {o : Int} (hd : decode bs pc = .ok (.if_icmp .eq o, 3)) (hp : pc + 3 = pn) (ho : 0 ≤ (pc : Int) + o) (ht : ((pc : Int) + o).toNat = pt) (h1 : x = y → Go tb e below Q (T.setTop (mkF m pt ls st))) (h2 : ¬ (x = y) → Go tb e below Q (T.setTop (mkF m pn ls st))) : Go tb e below Q (T.setTop (mkF m pc ls (.int y :: .int x :: st))) := by
  subst hp
  by_cases h : x = y
  · exact (h1 h).step fun t k => XS.icmpYes W.1 W.2.1 rfl (pc0 := pc) (pc' := pt) rfl (hb W.2.2 hd) rfl (XT.ii_eq_t h) ho ht k
  · exact (h2 h).step fun t k => XS.icmpNo W.1 W.2.1 rfl (hb W.2.2 hd) rfl (XT.ii_eq_f h) k
theorem if_eq (W : Wk tb T m c below bs) {x : Int32} {o : Int} (hd : decode bs pc = .ok (.ifCond .eq o, 3)) (hp : pc + 3 = pn) (ho : 0 ≤ (pc : Int) + o) (ht : ((pc : Int) + o).toNat = pt) (h1 : x = 0 → Go tb e below Q (T.setTop (mkF m pt ls st))) (h2 : ¬ (x = 0) → Go tb e below Q (T.setTop (mkF m pn ls st))) : Go tb e below Q (T.setTop (mkF m pc ls (.int x :: st))) := by
  subst hp
  by_cases h : x = 0
  · exact (h1 h).step fun t k => XS.ifYes W.1 W.2.1 rfl (pc0 := pc) (pc' := pt) rfl (hb W.2.2 hd) rfl (XT.i0_eq_t h) ho ht k
  · exact (h2 h).step fun t k => XS.ifNo W.1 W.2.1 rfl (hb W.2.2 hd) rfl (XT.i0_eq_f h) k
theorem lif_eq (W : Wk tb T m c below bs) {x y : Int64} {o : Int} (hd : decode bs pc = .ok (.ifCond .eq o, 3)) (hp : pc + 3 = pn) (ho : 0 ≤ (pc : Int) + o) (ht : ((pc : Int) + o).toNat = pt) (h1 : x = y → Go tb e below Q (T.setTop (mkF m pt ls st))) (h2 : ¬ (x = y) → Go tb e below Q (T.setTop (mkF m pn ls st))) : Go tb e below Q (T.setTop (mkF m pc ls (.int (XT.cmpL x y) :: st))) := by
  subst hp
  by_cases h : x = y
  · exact (h1 h).step fun t k => XS.ifYes W.1 W.2.1 rfl (pc0 := pc) (pc' := pt) rfl (hb W.2.2 hd) rfl (XT.ll_eq_t h) ho ht k
  · exact (h2 h).step fun t k => XS.ifNo W.1 W.2.1 rfl (hb W.2.2 hd) rfl (XT.ll_eq_f h) k
theorem icmp_ne (W : Wk tb T m c below bs) {x y : Int32} {o : Int} (hd : decode bs pc = .ok (.if_icmp .ne o, 3)) (hp : pc + 3 = pn) (ho : 0 ≤ (pc : Int) + o) (ht : ((pc : Int) + o).toNat = pt) (h1 : x = y → Go tb e below Q (T.setTop (mkF m pn ls st))) (h2 : ¬ (x = y) → Go tb e below Q (T.setTop (mkF m pt ls st))) : Go tb e below Q (T.setTop (mkF m pc ls (.int y :: .int x :: st))) := by
  subst hp
  by_cases h : x = y
  · exact (h1 h).step fun t k => XS.icmpNo W.1 W.2.1 rfl (hb W.2.2 hd) rfl (XT.ii_ne_f h) k
  · exact (h2 h).step fun t k => XS.icmpYes W.1 W.2.1 rfl (pc0 := pc) (pc' := pt) rfl (hb W.2.2 hd) rfl (XT.ii_ne_t h) ho ht k
theorem if_ne (W : Wk tb T m c below bs) {x : Int32} {o : Int} (hd : decode bs pc = .ok (.ifCond .ne o, 3)) (hp : pc + 3 = pn) (ho : 0 ≤ (pc : Int) + o) (ht : ((pc : Int) + o).toNat = pt) (h1 : x = 0 → Go tb e below Q (T.setTop (mkF m pn ls st))) (h2 : ¬ (x = 0) → Go tb e below Q (T.setTop (mkF m pt ls st))) : Go tb e below Q (T.setTop (mkF m pc ls (.int x :: st))) := by
  subst hp
  by_cases h : x = 0
  · exact (h1 h).step fun t k => XS.ifNo W.1 W.2.1 rfl (hb W.2.2 hd) rfl (XT.i0_ne_f h) k
  · exact (h2 h).step fun t k => XS.ifYes W.1 W.2.1 rfl (pc0 := pc) (pc' := pt) rfl (hb W.2.2 hd) rfl (XT.i0_ne_t h) ho ht k
theorem lif_ne (W : Wk tb T m c below bs) {x y : Int64} {o : Int} (hd : decode bs pc = .ok (.ifCond .ne o, 3)) (hp : pc + 3 = pn) (ho : 0 ≤ (pc : Int) + o) (ht : ((pc : Int) + o).toNat = pt) (h1 : x = y → Go tb e below Q (T.setTop (mkF m pn ls st))) (h2 : ¬ (x = y) → Go tb e below Q (T.setTop (mkF m pt ls st))) : Go tb e below Q (T.setTop (mkF m pc ls (.int (XT.cmpL x y) :: st))) := by
  subst hp
  by_cases h : x = y
  · exact (h1 h).step fun t k => XS.ifNo W.1 W.2.1 rfl (hb W.2.2 hd) rfl (XT.ll_ne_f h) k
  · exact (h2 h).step fun t k => XS.ifYes W.1 W.2.1 rfl (pc0 := pc) (pc' := pt) rfl (hb W.2.2 hd) rfl (XT.ll_ne_t h) ho ht k
theorem icmp_lt (W : Wk tb T m c below bs) {x y : Int32} {o : Int} (hd : decode bs pc = .ok (.if_icmp .lt o, 3)) (hp : pc + 3 = pn) (ho : 0 ≤ (pc : Int) + o) (ht : ((pc : Int) + o).toNat = pt) (h1 : x < y → Go tb e below Q (T.setTop (mkF m pt ls st))) (h2 : ¬ (x < y) → Go tb e below Q (T.setTop (mkF m pn ls st))) : Go tb e below Q (T.setTop (mkF m pc ls (.int y :: .int x :: st))) := by
  subst hp
  by_cases h : x < y
  · exact (h1 h).step fun t k => XS.icmpYes W.1 W.2.1 rfl (pc0 := pc) (pc' := pt) rfl (hb W.2.2 hd) rfl (XT.ii_lt_t h) ho ht k
  · exact (h2 h).step fun t k => XS.icmpNo W.1 W.2.1 rfl (hb W.2.2 hd) rfl (XT.ii_lt_f h) k
theorem if_lt (W : Wk tb T m c below bs) {x : Int32} {o : Int} (hd : decode bs pc = .ok (.ifCond .lt o, 3)) (hp : pc + 3 = pn) (ho : 0 ≤ (pc : Int) + o) (ht : ((pc : Int) + o).toNat = pt) (h1 : x < 0 → Go tb e below Q (T.setTop (mkF m pt ls st))) (h2 : ¬ (x < 0) → Go tb e below Q (T.setTop (mkF m pn ls st))) : Go tb e below Q (T.setTop (mkF m pc ls (.int x :: st))) := by
  subst hp
  by_cases h : x < 0
  · exact (h1 h).step fun t k => XS.ifYes W.1 W.2.1 rfl (pc0 := pc) (pc' := pt) rfl (hb W.2.2 hd) rfl (XT.i0_lt_t h) ho ht k
  · exact (h2 h).step fun t k => XS.ifNo W.1 W.2.1 rfl (hb W.2.2 hd) rfl (XT.i0_lt_f h) k
theorem lif_lt (W : Wk tb T m c below bs) {x y : Int64} {o : Int} (hd : decode bs pc = .ok (.ifCond .lt o, 3)) (hp : pc + 3 = pn) (ho : 0 ≤ (pc : Int) + o) (ht : ((pc : Int) + o).toNat = pt) (h1 : x < y → Go tb e below Q (T.setTop (mkF m pt ls st))) (h2 : ¬ (x < y) → Go tb e below Q (T.setTop (mkF m pn ls st))) : Go tb e below Q (T.setTop (mkF m pc ls (.int (XT.cmpL x y) :: st))) := by
  subst hp
  by_cases h : x < y
  · exact (h1 h).step fun t k => XS.ifYes W.1 W.2.1 rfl (pc0 := pc) (pc' := pt) rfl (hb W.2.2 hd) rfl (XT.ll_lt_t h) ho ht k
  · exact (h2 h).step fun t k => XS.ifNo W.1 W.2.1 rfl (hb W.2.2 hd) rfl (XT.ll_lt_f h) k
theorem icmp_ge (W : Wk tb T m c below bs) {x y : Int32} {o : Int} (hd : decode bs pc = .ok (.if_icmp .ge o, 3)) (hp : pc + 3 = pn) (ho : 0 ≤ (pc : Int) + o) (ht : ((pc : Int) + o).toNat = pt) (h1 : x < y → Go tb e below Q (T.setTop (mkF m pn ls st))) (h2 : ¬ (x < y) → Go tb e below Q (T.setTop (mkF m pt ls st))) : Go tb e below Q (T.setTop (mkF m pc ls (.int y :: .int x :: st))) := by
  subst hp
  by_cases h : x < y
  · exact (h1 h).step fun t k => XS.icmpNo W.1 W.2.1 rfl (hb W.2.2 hd) rfl (XT.ii_ge_f h) k
  · exact (h2 h).step fun t k => XS.icmpYes W.1 W.2.1 rfl (pc0 := pc) (pc' := pt) rfl (hb W.2.2 hd) rfl (XT.ii_ge_t h) ho ht k
theorem if_ge (W : Wk tb T m c below bs) {x : Int32} {o : Int} (hd : decode bs pc = .ok (.ifCond .ge o, 3)) (hp : pc + 3 = pn) (ho : 0 ≤ (pc : Int) + o) (ht : ((pc : Int) + o).toNat = pt) (h1 : x < 0 → Go tb e below Q (T.setTop (mkF m pn ls st))) (h2 : ¬ (x < 0) → Go tb e below Q (T.setTop (mkF m pt ls st))) : Go tb e below Q (T.setTop (mkF m pc ls (.int x :: st))) := by
  subst hp
  by_cases h : x < 0
  · exact (h1 h).step fun t k => XS.ifNo W.1 W.2.1 rfl (hb W.2.2 hd) rfl (XT.i0_ge_f h) k
  · exact (h2 h).step fun t k => XS.ifYes W.1 W.2.1 rfl (pc0 := pc) (pc' := pt) rfl (hb W.2.2 hd) rfl (XT.i0_ge_t h) ho ht k
theorem lif_ge (W : Wk tb T m c below bs) {x y : Int64} {o : Int} (hd : decode bs pc = .ok (.ifCond .ge o, 3)) (hp : pc + 3 = pn) (ho : 0 ≤ (pc : Int) + o) (ht : ((pc : Int) + o).toNat = pt) (h1 : x < y → Go tb e below Q (T.setTop (mkF m pn ls st))) (h2 : ¬ (x < y) → Go tb e below Q (T.setTop (mkF m pt ls st))) : Go tb e below Q (T.setTop (mkF m pc ls (.int (XT.cmpL x y) :: st))) := by
  subst hp
  by_cases h : x < y
  · exact (h1 h).step fun t k => XS.ifNo W.1 W.2.1 rfl (hb W.2.2 hd) rfl (XT.ll_ge_f h) k
  · exact (h2 h).step fun t k => XS.ifYes W.1 W.2.1 rfl (pc0 := pc) (pc' := pt) rfl (hb W.2.2 hd) rfl (XT.ll_ge_t h) ho ht k
theorem icmp_gt (W : Wk tb T m c below bs) {x y : Int32} {o : Int} (hd : decode bs pc = .ok (.if_icmp .gt o, 3)) (hp : pc + 3 = pn) (ho : 0 ≤ (pc : Int) + o) (ht : ((pc : Int) + o).toNat = pt) (h1 : y < x → Go tb e below Q (T.setTop (mkF m pt ls st))) (h2 : ¬ (y < x) → Go tb e below Q (T.setTop (mkF m pn ls st))) : Go tb e below Q (T.setTop (mkF m pc ls (.int y :: .int x :: st))) := by
  subst hp
  by_cases h : y < x
  · exact (h1 h).step fun t k => XS.icmpYes W.1 W.2.1 rfl (pc0 := pc) (pc' := pt) rfl (hb W.2.2 hd) rfl (XT.ii_gt_t h) ho ht k
  · exact (h2 h).step fun t k => XS.icmpNo W.1 W.2.1 rfl (hb W.2.2 hd) rfl (XT.ii_gt_f h) k
theorem if_gt (W : Wk tb T m c below bs) {x : Int32} {o : Int} (hd : decode bs pc = .ok (.ifCond .gt o, 3)) (hp : pc + 3 = pn) (ho : 0 ≤ (pc : Int) + o) (ht : ((pc : Int) + o).toNat = pt) (h1 : 0 < x → Go tb e below Q (T.setTop (mkF m pt ls st))) (h2 : ¬ (0 < x) → Go tb e below Q (T.setTop (mkF m pn ls st))) : Go tb e below Q (T.setTop (mkF m pc ls (.int x :: st))) := by
  subst hp
  by_cases h : 0 < x
  · exact (h1 h).step fun t k => XS.ifYes W.1 W.2.1 rfl (pc0 := pc) (pc' := pt) rfl (hb W.2.2 hd) rfl (XT.i0_gt_t h) ho ht k
  · exact (h2 h).step fun t k => XS.ifNo W.1 W.2.1 rfl (hb W.2.2 hd) rfl (XT.i0_gt_f h) k
theorem lif_gt (W : Wk tb T m c below bs) {x y : Int64} {o : Int} (hd : decode bs pc = .ok (.ifCond .gt o, 3)) (hp : pc + 3 = pn) (ho : 0 ≤ (pc : Int) + o) (ht : ((pc : Int) + o).toNat = pt) (h1 : y < x → Go tb e below Q (T.setTop (mkF m pt ls st))) (h2 : ¬ (y < x) → Go tb e below Q (T.setTop (mkF m pn ls st))) : Go tb e below Q (T.setTop (mkF m pc ls (.int (XT.cmpL x y) :: st))) := by
  subst hp
  by_cases h : y < x
  · exact (h1 h).step fun t k => XS.ifYes W.1 W.2.1 rfl (pc0 := pc) (pc' := pt) rfl (hb W.2.2 hd) rfl (XT.ll_gt_t h) ho ht k
  · exact (h2 h).step fun t k => XS.ifNo W.1 W.2.1 rfl (hb W.2.2 hd) rfl (XT.ll_gt_f h) k
theorem icmp_le (W : Wk tb T m c below bs) {x y : Int32} {o : Int} (hd : decode bs pc = .ok (.if_icmp .le o, 3)) (hp : pc + 3 = pn) (ho : 0 ≤ (pc : Int) + o) (ht : ((pc : Int) + o).toNat = pt) (h1 : y < x → Go tb e below Q (T.setTop (mkF m pn ls st))) (h2 : ¬ (y < x) → Go tb e below Q (T.setTop (mkF m pt ls st))) : Go tb e below Q (T.setTop (mkF m pc ls (.int y :: .int x :: st))) := by
  subst hp
  by_cases h : y < x
  · exact (h1 h).step fun t k => XS.icmpNo W.1 W.2.1 rfl (hb W.2.2 hd) rfl (XT.ii_le_f h) k
  · exact (h2 h).step fun t k => XS.icmpYes W.1 W.2.1 rfl (pc0 := pc) (pc' := pt) rfl (hb W.2.2 hd) rfl (XT.ii_le_t h) ho ht k
theorem if_le (W : Wk tb T m c below bs) {x : Int32} {o : Int} (hd : decode bs pc = .ok (.ifCond .le o, 3)) (hp : pc + 3 = pn) (ho : 0 ≤ (pc : Int) + o) (ht : ((pc : Int) + o).toNat = pt) (h1 : 0 < x → Go tb e below Q (T.setTop (mkF m pn ls st))) (h2 : ¬ (0 < x) → Go tb e below Q (T.setTop (mkF m pt ls st))) : Go tb e below Q (T.setTop (mkF m pc ls (.int x :: st))) := by
  subst hp
  by_cases h : 0 < x
  · exact (h1 h).step fun t k => XS.ifNo W.1 W.2.1 rfl (hb W.2.2 hd) rfl (XT.i0_le_f h) k
  · exact (h2 h).step fun t k => XS.ifYes W.1 W.2.1 rfl (pc0 := pc) (pc' := pt) rfl (hb W.2.2 hd) rfl (XT.i0_le_t h) ho ht k
theorem lif_le (W : Wk tb T m c below bs) {x y : Int64} {o : Int} (hd : decode bs pc = .ok (.ifCond .le o, 3)) (hp : pc + 3 = pn) (ho : 0 ≤ (pc : Int) + o) (ht : ((pc : Int) + o).toNat = pt) (h1 : y < x → Go tb e below Q (T.setTop (mkF m pn ls st))) (h2 : ¬ (y < x) → Go tb e below Q (T.setTop (mkF m pt ls st))) : Go tb e below Q (T.setTop (mkF m pc ls (.int (XT.cmpL x y) :: st))) := by
  subst hp
  by_cases h : y < x
  · exact (h1 h).step fun t k => XS.ifNo W.1 W.2.1 rfl (hb W.2.2 hd) rfl (XT.ll_le_f h) k
  · exact (h2 h).step fun t k => XS.ifYes W.1 W.2.1 rfl (pc0 := pc) (pc' := pt) rfl (hb W.2.2 hd) rfl (XT.ll_le_t h) ho ht k
theorem ifnullY (W : Wk tb T m c below bs) {o : Int} (hd : decode bs pc = .ok (.ifnull o, 3)) (ho : 0 ≤ (pc : Int) + o) (ht : ((pc : Int) + o).toNat = pt) (hr : Go tb e below Q (T.setTop (mkF m pt ls st))) : Go tb e below Q (T.setTop (mkF m pc ls (.null :: st))) := by
  exact hr.step fun t k => XS.ifnullYes W.1 W.2.1 rfl (pc0 := pc) (pc' := pt) rfl (hb W.2.2 hd) rfl ho ht k
theorem ifnonnullY (W : Wk tb T m c below bs) {b : Addr} {o : Int} (hd : decode bs pc = .ok (.ifnonnull o, 3)) (ho : 0 ≤ (pc : Int) + o) (ht : ((pc : Int) + o).toNat = pt) (hr : Go tb e below Q (T.setTop (mkF m pt ls st))) : Go tb e below Q (T.setTop (mkF m pc ls (.ref b :: st))) := by
  exact hr.step fun t k => XT.ifnonnullYes W.1 W.2.1 rfl (pc0 := pc) (pc' := pt) rfl (hb W.2.2 hd) rfl ho ht k
theorem ifnullN (W : Wk tb T m c below bs) {b : Addr} {o : Int} (hd : decode bs pc = .ok (.ifnull o, 3)) (hp : pc + 3 = pn) (hr : Go tb e below Q (T.setTop (mkF m pn ls st))) : Go tb e below Q (T.setTop (mkF m pc ls (.ref b :: st))) := by
  subst hp; exact hr.step fun t k => XS.ifnullNo W.1 W.2.1 rfl (hb W.2.2 hd) rfl k
theorem ifnonnullN (W : Wk tb T m c below bs) {o : Int} (hd : decode bs pc = .ok (.ifnonnull o, 3)) (hp : pc + 3 = pn) (hr : Go tb e below Q (T.setTop (mkF m pn ls st))) : Go tb e below Q (T.setTop (mkF m pc ls (.null :: st))) := by
  subst hp; exact hr.step fun t k => XT.ifnonnullNo W.1 W.2.1 rfl (hb W.2.2 hd) rfl k
end Plain
section Stands
variable {p : Program} {l : Launch} {e : Env} {R : Room} {s : State} {m : MethodId} {args : Array Value} {below : List Frame} {meth : Method} {c : Code} {T : State} {locs : List Loc} {cells slots : Nat} {Z : State} {a0 : Array Value} {h0 : Heap} {bs : ByteArray} {ls : Array Slot} {st : List Value} {pc pn : Nat} {Q : Outcome → State → Prop}
/-- the end of a body that returned -/
def Qe (s : State) (rm : Room) (QX : Option Value → Heap → List Loc → Prop) (o : Outcome) (U' : State) : Prop := ∃ v L, o = .returned v ∧ QX v U'.heap L ∧ FrameEnd s o U' L rm.cells rm.slots
/-- a body's contract: called with these arguments over this heap it returns as QX says -/
def Con (l : Launch) (y : MethodName) (bs : ByteArray) (maxL : Nat) (ret : Option FieldType) (rm : Room) (Z : State) (as' : Array Value) (h0 : Heap) (QX : Option Value → Heap → List Loc → Prop) : Prop :=
  ∀ ws : List Jvm.Cond, MetFree l y (head1 (Jvm.Cond.code y bs maxL ret :: ws) rm) (fun a U => a = as' ∧ Z.Warmed39 U.vm ∧ U.heap = h0) (fun _ _ _ _ _ => True) (fun _ U o U' => ∃ v L, o = .returned v ∧ QX v U'.heap L ∧ FrameEnd U o U' L rm.cells rm.slots)
theorem Con.intro {y : MethodName} {maxL : Nat} {ret : Option FieldType} {rm : Room} {as' : Array Value} {QX : Option Value → Heap → List Loc → Prop} (hpn : plainFor y = true)
    (body : ∀ (p : Program) (e : Env) (s : State) (m : MethodId) (below : List Frame) (meth : Method) (c : Code) (T : State), Stand p l e rm s m as' below meth c T [] 0 0 → p.tables.exec = Jvm.exec → c.code = bs → c.maxLocals = maxL → Z.Warmed39 s.vm → s.vm.findClass y.cls = some m.cls → meth.name = y.name → meth.sig.returnType = ret → meth.locks = false → T.heap = h0 →
      Go p.tables e below (Qe s rm QX) (T.setTop (entryFrame m as' maxL))) : Con l y bs maxL ret rm Z as' h0 QX := by
  intro ws
  refine MetFree.of_bodySF hpn hisR ?_
  intro p e s m args below meth c s₁ Bd hml0 hP hK
  obtain ⟨rfl, hZ, hh⟩ := hP
  obtain ⟨s2, o, h1, h2, h3, h4⟩ := body p e s m below meth c s₁ (Stand.of_body Bd) Bd.exec Bd.bytes hml0 hZ (findClass_of_methodNamed Bd.named) (name_of_methodNamed Bd.named Bd.method).1 Bd.returns Bd.notSynchronized (by rw [← hh, Bd.state]; rfl)
  exact ⟨s2, o, h1, h2, h3, h4⟩
/-- a body that only reckons: it returns V, writes and makes nothing -/
def PureQ (V : Value) (h0 : Heap) (v : Option Value) (h : Heap) (L : List Loc) : Prop := v = some V ∧ L = [] ∧ h = h0
theorem fin_of {QX : Option Value → Heap → List Loc → Prop} {z r : Int32} {h h' : Heap} {L : List Loc} (hr : z = r) (e : h = h') (hf : QX (some (.int r)) h' L) : QX (some (.int z)) h L := by subst hr e; exact hf
theorem fin_ofL {QX : Option Value → Heap → List Loc → Prop} {z r : Int64} {h h' : Heap} {L : List Loc} (hr : z = r) (e : h = h') (hf : QX (some (.long r)) h' L) : QX (some (.long z)) h L := by subst hr e; exact hf
def rmP (fr lo : Nat) : Room := { frames := fr, cells := 0, slots := 0, locals := lo }
theorem Go.leave {rm : Room} {QX : Option Value → Heap → List Loc → Prop} (X : Stand p l e R s m args below meth c T locs cells slots) {v : Option Value} {g : JFrame} (hv : meth.sig.returnType = none → v = none) (hlk : meth.locks = false) (hq : QX v T.heap locs) (hc : cells ≤ rm.cells) (hs : slots ≤ rm.slots)
    (hst : ∀ fs, (∀ (f : JFrame) (acts : List Action), f.method = m → f.locked = none → f.entered = [] → (doReturn e (T.setTop f) acts v).1 = T.setFrames fs) → Steps p.tables e below (T.setTop g) (T.setFrames fs)) : Go p.tables e below (Qe s rm QX) (T.setTop g) := by
  obtain ⟨fs, hr, hrun, hended, hW, hsame⟩ := X.leave (v := v) hv hlk
  exact ⟨_, _, hst fs hr, hrun, hended, _, _, rfl, hq, ⟨_, rfl⟩, hW, hsame.mono hc hs⟩
theorem ireturn {rm : Room} {QX : Option Value → Heap → List Loc → Prop} (X : Stand p l e R s m args below meth c T locs cells slots) (hx : p.tables.exec = Jvm.exec) (hby : c.code = bs) {w : Int32} {t : FieldType} (hret : meth.sig.returnType = some t) (hlk : meth.locks = false) (hn : narrow t (.int w) = .int w) (hti : t = .int ∨ t = .boolean ∨ t = .byte ∨ t = .char ∨ t = .short)
    (hd : decode bs pc = .ok (.ireturn, 1)) (hq : QX (some (.int w)) T.heap locs) (hc : cells ≤ rm.cells) (hs : slots ≤ rm.slots) : Go p.tables e below (Qe s rm QX) (T.setTop (mkF m pc ls [.int w])) :=
  Go.leave X (fun h => by rw [hret] at h; cases h) hlk hq hc hs fun fs hr => X.ireturnOut hx hret hn hti (hb hby hd) hr
theorem lreturn {rm : Room} {QX : Option Value → Heap → List Loc → Prop} (X : Stand p l e R s m args below meth c T locs cells slots) (hx : p.tables.exec = Jvm.exec) (hby : c.code = bs) {w : Int64} (hret : meth.sig.returnType = some .long) (hlk : meth.locks = false)
    (hd : decode bs pc = .ok (.lreturn, 1)) (hq : QX (some (.long w)) T.heap locs) (hc : cells ≤ rm.cells) (hs : slots ≤ rm.slots) : Go p.tables e below (Qe s rm QX) (T.setTop (mkF m pc ls [.long w])) :=
  Go.leave X (fun h => by rw [hret] at h; cases h) hlk hq hc hs fun fs hr => X.lreturnOut hx hret (hb hby hd) hr
theorem areturn {rm : Room} {QX : Option Value → Heap → List Loc → Prop} (X : Stand p l e R s m args below meth c T locs cells slots) (hx : p.tables.exec = Jvm.exec) (hby : c.code = bs) {w : Value} {t : FieldType} (hret : meth.sig.returnType = some t) (hlk : meth.locks = false) (hw : w.isRef = true) (ht : t.isReference = true)
    (hd : decode bs pc = .ok (.areturn, 1)) (hq : QX (some w) T.heap locs) (hc : cells ≤ rm.cells) (hs : slots ≤ rm.slots) : Go p.tables e below (Qe s rm QX) (T.setTop (mkF m pc ls [w])) :=
  Go.leave X (fun h => by rw [hret] at h; cases h) hlk hq hc hs fun fs hr => X.areturnOut hx hw hret ht (hb hby hd) hr
theorem returnV {rm : Room} {QX : Option Value → Heap → List Loc → Prop} (X : Stand p l e R s m args below meth c T locs cells slots) (hx : p.tables.exec = Jvm.exec) (hby : c.code = bs) (hret : meth.sig.returnType = none) (hlk : meth.locks = false)
    (hd : decode bs pc = .ok (.return_, 1)) (hq : QX none T.heap locs) (hc : cells ≤ rm.cells) (hs : slots ≤ rm.slots) : Go p.tables e below (Qe s rm QX) (T.setTop (mkF m pc ls [])) :=
  Go.leave X (fun _ => rfl) hlk hq hc hs fun fs hr => X.returnOut hx hret (hb hby hd) hr
theorem ldcI (X : Stand p l e R s m args below meth c T locs cells slots) (hx : p.tables.exec = Jvm.exec) (hby : c.code = bs) (hZ : Z.Warmed39 s.vm) {own : String} {index : Nat} {v : Int32} (hown : s.vm.findClass own = some m.cls) (w : (Jvm.Cond.constant own index v).before a0 Z = true) (hd : decode bs pc = .ok (.ldc index, 2)) (hp : pc + 2 = pn)
    (hr : Go p.tables e below Q (T.setTop (mkF m pn ls (.int v :: st)))) : Go p.tables e below Q (T.setTop (mkF m pc ls st)) := by
  subst hp; exact hr.step fun t k => X.ldcI hx hown (mvT hZ w) rfl (hb hby hd) k
theorem ldc2J (X : Stand p l e R s m args below meth c T locs cells slots) (hx : p.tables.exec = Jvm.exec) (hby : c.code = bs) (hZ : Z.Warmed39 s.vm) {own : String} {index : Nat} {v : Int64} (hown : s.vm.findClass own = some m.cls) (w : (Jvm.Cond.constantLong own index v).before a0 Z = true) (hd : decode bs pc = .ok (.ldc2_w index, 3)) (hp : pc + 3 = pn)
    (hr : Go p.tables e below Q (T.setTop (mkF m pn ls (.long v :: st)))) : Go p.tables e below Q (T.setTop (mkF m pc ls st)) := by
  subst hp; exact hr.step fun t k => X.ldc2J hx hown (mvT hZ w) rfl (hb hby hd) k
/-- a static call by its contract -/
theorem callS (X : Stand p l e R s m args below meth c T locs cells slots) (hx : p.tables.exec = Jvm.exec) (hby : c.code = bs) (hZ : Z.Warmed39 s.vm) {own : String} (hown : s.vm.findClass own = some m.cls) {index : Nat} {y : MethodName} {ybs : ByteArray} {yl : Nat} {yret : Option FieldType} {rm : Room} {argsL rest : List Value} {QX : Option Value → Heap → List Loc → Prop}
    (w1 : (Jvm.Cond.methodLink own index y).before a0 Z = true) (w2 : (Jvm.Cond.static y).before a0 Z = true) (w3 : (Jvm.Cond.initialized y.cls).before a0 Z = true) (w4 : (Jvm.Cond.code y ybs yl yret).before a0 Z = true) (hy : y.cls ≠ "java/lang/invoke/MethodHandle" ∧ y.cls ≠ "java/lang/invoke/VarHandle")
    (K : Con l y ybs yl yret rm Z argsL.toArray T.heap QX) (hf : rm.frames + 1 ≤ R.frames) (hl : (rest.map fun v => v.category).sum + (yl + 11) + rm.locals ≤ R.locals) (hcl : cells + rm.cells ≤ R.cells) (hsl : slots + rm.slots ≤ R.slots)
    (hlen : ∀ sig, parseMethodDescriptor y.desc = some sig → argsL.length = sig.parameters.length) (hsize : ls.size = c.maxLocals) (hst : st = argsL.reverse ++ rest) (hd : decode bs pc = .ok (.invokestatic index, 3)) (hp : pc + 3 = pn)
    (hr : ∀ (v : Option Value) (T' : State) (L : List Loc), QX v T'.heap L → Stand p l e R s m args below meth c T' (locs ++ L) (cells + rm.cells) (slots + rm.slots) → Go p.tables e below Q (T'.setTop (mkF m pn ls (v.toList ++ rest)))) : Go p.tables e below Q (T.setTop (mkF m pc ls st)) := by
  subst hp
  obtain ⟨v, _, ⟨T2, L2, k2, n2⟩, -, X2, ⟨Lc2, hQ2, l2, y2, z2⟩, st2⟩ := Jvm.LawKit.callS X hx (y := y) hown (mvT hZ w1) (mvT hZ w2) (mvT hZ w3) (mvT hZ w4) hy (backOf (W := (rest.map fun v => v.category).sum) (K []) hZ w4 w3 hf hl) (g := mkF m pc ls st) rfl hsize (argsL := argsL) (rest := rest) hlen hst (by show 2 * 0 + _ ≤ _; omega) (hb hby hd) (fun _ _ => ⟨rfl, rfl, hcl, hsl⟩)
  dsimp only [Pt.U, Pt.locs, Pt.cells, Pt.slots] at X2 l2 y2 z2 st2 hQ2
  subst l2 y2 z2
  exact (hr v T2 Lc2 hQ2 X2).step fun t k => st2 t k
/-- a static call of a body that only reckons -/
theorem callP (X : Stand p l e R s m args below meth c T locs cells slots) (hx : p.tables.exec = Jvm.exec) (hby : c.code = bs) (hZ : Z.Warmed39 s.vm) {own : String} (hown : s.vm.findClass own = some m.cls) {index : Nat} {y : MethodName} {ybs : ByteArray} {yl fr lo : Nat} {yret : Option FieldType} {argsL rest : List Value} {V : Value}
    (w1 : (Jvm.Cond.methodLink own index y).before a0 Z = true) (w2 : (Jvm.Cond.static y).before a0 Z = true) (w3 : (Jvm.Cond.initialized y.cls).before a0 Z = true) (w4 : (Jvm.Cond.code y ybs yl yret).before a0 Z = true) (hy : y.cls ≠ "java/lang/invoke/MethodHandle" ∧ y.cls ≠ "java/lang/invoke/VarHandle")
    (K : Con l y ybs yl yret (rmP fr lo) Z argsL.toArray T.heap (PureQ V T.heap)) (hf : fr + 1 ≤ R.frames) (hl : (rest.map fun v => v.category).sum + (yl + 11) + lo ≤ R.locals) (hcl : cells ≤ R.cells) (hsl : slots ≤ R.slots)
    (hlen : ∀ sig, parseMethodDescriptor y.desc = some sig → argsL.length = sig.parameters.length) (hsize : ls.size = c.maxLocals) (hst : st = argsL.reverse ++ rest) (hd : decode bs pc = .ok (.invokestatic index, 3)) (hp : pc + 3 = pn)
    (hr : ∀ (T' : State), Stand p l e R s m args below meth c T' locs cells slots → T'.heap = T.heap → Go p.tables e below Q (T'.setTop (mkF m pn ls (V :: rest)))) : Go p.tables e below Q (T.setTop (mkF m pc ls st)) := by
  refine callS X hx hby hZ hown w1 w2 w3 w4 hy K hf hl hcl hsl hlen hsize hst hd hp ?_
  intro v T' L hQ X'
  obtain ⟨rfl, rfl, eh⟩ := hQ
  exact hr T' (by simpa [rmP] using X') eh
end Stands
end Jvm.OwnGo
namespace Jvm.OwnGo
open Jvm Jvm.ClassFile Sem Op Lib Jvm.Free Jvm.Stand Jvm.LawKit Jvm.RoadKit
section Arrays
variable {p : Program} {l : Launch} {e : Env} {R : Room} {s : State} {m : MethodId} {args : Array Value} {below : List Frame} {meth : Method} {c : Code} {T : State} {locs : List Loc} {cells slots : Nat} {Z : State} {a0 : Array Value} {h h' : Heap} {bs : ByteArray} {ls : Array Slot} {st : List Value} {pc pn : Nat} {Q : Outcome → State → Prop} {a b : Addr} {ty : FieldType} {xs : List Int32} {ws : List Addr}
def Ia (Z : State) (h : Heap) (a : Addr) (ty : FieldType) (xs : List Int32) : Prop := ∃ cl : Cell, Arr Z h a cl ty ∧ cl.slots.toList = xs.map Value.int
theorem Ia.lt (F : Ia Z h a ty xs) : a < h.size := by obtain ⟨cl, A, -⟩ := F; exact A.lt
theorem Ia.ext (F : Ia Z h a ty xs) (E : Ext h h') : Ia Z h' a ty xs := by obtain ⟨cl, A, r⟩ := F; exact ⟨cl, A.ext E, r⟩
theorem Ia.other {sl : Nat} {v : Value} (F : Ia Z h b ty xs) (W : Wr h h' a sl v) (q : b ≠ a) : Ia Z h' b ty xs := by obtain ⟨cl, A, r⟩ := F; exact ⟨cl, A.other W q, r⟩
theorem Ia.keep (F : Ia Z h a ty xs) (K : Keep h h' ws) (q : a ∉ ws) : Ia Z h' a ty xs := by obtain ⟨cl, A, r⟩ := F; exact ⟨cl, ⟨K.2.1 a cl A.1 q, A.2⟩, r⟩
theorem Ia.size {cl : Cell} (r : cl.slots.toList = xs.map Value.int) : cl.slots.size = xs.length := by
  have := congrArg List.length r
  simpa using this
theorem Ia.get {cl : Cell} (r : cl.slots.toList = xs.map Value.int) (k : Nat) : cl.slots[k]? = (xs[k]?).map Value.int := by
  rw [← Array.getElem?_toList, r, List.getElem?_map]
theorem getD_of {k : Nat} (h : k < xs.length) : xs[k]? = some (xs.getD k 0) := by
  simp [List.getD, List.getElem?_eq_getElem h]
theorem getD_set {k j : Nat} {v : Int32} (h : j < xs.length) : (xs.set j v).getD k 0 = if k = j then v else xs.getD k 0 := by
  simp only [List.getD, List.getElem?_set]
  by_cases q : j = k
  · subst q; simp [h]
  · simp [q, Ne.symm q]
theorem getD_rep {k n : Nat} : (List.replicate n (0 : Int32)).getD k 0 = 0 := by
  simp only [List.getD, List.getElem?_replicate]
  split <;> rfl
theorem Ia.set {sl : Nat} {v : Int32} (F : Ia Z h a ty xs) (W : Wr h h' a sl (.int v)) : Ia Z h' a ty (xs.set sl v) := by
  obtain ⟨cl, A, r⟩ := F
  refine ⟨_, A.same W, ?_⟩
  show (cl.slots.setIfInBounds sl (.int v)).toList = _
  rw [Array.toList_setIfInBounds, r, List.map_set]
theorem Ia.new {k : ClassId} {z : Int32} (A : Arr Z h a (newA k ty z) ty) (hd : defaultValue ty = .int 0) : Ia Z h a ty (List.replicate z.toNatClampNeg 0) := by
  refine ⟨_, A, ?_⟩
  simp [newA, hd]
theorem Ia.inb {cl : Cell} {j : Int32} {v : Int32} (r : cl.slots.toList = xs.map Value.int) (hj : ¬ j < 0) (hv : xs[j.toNatClampNeg]? = some v) : ¬ (j < 0 ∨ cl.slots.size ≤ j.toNatClampNeg) := by
  rintro (q | q)
  · exact hj q
  · rw [Ia.size r] at q
    have := (List.getElem?_eq_some_iff.mp hv).1
    omega
theorem Ia.inbL {cl : Cell} {j : Int32} (r : cl.slots.toList = xs.map Value.int) (hj : ¬ j < 0) (hv : j.toNatClampNeg < xs.length) : ¬ (j < 0 ∨ cl.slots.size ≤ j.toNatClampNeg) := by
  rintro (q | q)
  · exact hj q
  · rw [Ia.size r] at q; omega
theorem iaload (X : Stand p l e R s m args below meth c T locs cells slots) (hx : p.tables.exec = Jvm.exec) (hby : c.code = bs) (hZ : Z.Warmed39 s.vm) (A : Ia Z T.heap a .int xs) {j v : Int32} (hj : ¬ j < 0) (hv : xs[j.toNatClampNeg]? = some v) (hd : decode bs pc = .ok (.iaload, 1)) (hp : pc + 1 = pn)
    (hr : Go p.tables e below Q (T.setTop (mkF m pn ls (.int v :: st)))) : Go p.tables e below Q (T.setTop (mkF m pc ls (.int j :: .ref a :: st))) := by
  subst hp
  obtain ⟨cl, Ar, r⟩ := A
  exact hr.step fun t k => X.iaload hx (j := j) (v := .int v) Ar.1 (State.isArrayOf_alike hZ.alike Ar.2.1) Ar.2.2 (Ia.inb r hj hv) (by rw [Ia.get r, hv]; rfl) (g := mkF m pc ls (.int j :: .ref a :: st)) rfl rfl (hb hby hd) t k
theorem baloadB (X : Stand p l e R s m args below meth c T locs cells slots) (hx : p.tables.exec = Jvm.exec) (hby : c.code = bs) (hZ : Z.Warmed39 s.vm) (A : Ia Z T.heap a .byte xs) {j v : Int32} (hj : ¬ j < 0) (hv : xs[j.toNatClampNeg]? = some v) (hd : decode bs pc = .ok (.baload, 1)) (hp : pc + 1 = pn)
    (hr : Go p.tables e below Q (T.setTop (mkF m pn ls (.int v :: st)))) : Go p.tables e below Q (T.setTop (mkF m pc ls (.int j :: .ref a :: st))) := by
  subst hp
  obtain ⟨cl, Ar, r⟩ := A
  exact hr.step fun t k => X.baloadBytes hx (j := j) (v := .int v) Ar.1 (State.isArrayOf_alike hZ.alike Ar.2.1) Ar.2.2 (Ia.inb r hj hv) (by rw [Ia.get r, hv]; rfl) (g := mkF m pc ls (.int j :: .ref a :: st)) rfl rfl (hb hby hd) t k
theorem baloadZ (X : Stand p l e R s m args below meth c T locs cells slots) (hx : p.tables.exec = Jvm.exec) (hby : c.code = bs) (hZ : Z.Warmed39 s.vm) (A : Ia Z T.heap a .boolean xs) {j v : Int32} (hj : ¬ j < 0) (hv : xs[j.toNatClampNeg]? = some v) (hd : decode bs pc = .ok (.baload, 1)) (hp : pc + 1 = pn)
    (hr : Go p.tables e below Q (T.setTop (mkF m pn ls (.int v :: st)))) : Go p.tables e below Q (T.setTop (mkF m pc ls (.int j :: .ref a :: st))) := by
  subst hp
  obtain ⟨cl, Ar, r⟩ := A
  exact hr.step fun t k => X.baloadBooleans hx (j := j) (v := .int v) Ar.1 (State.isArrayOf_alike hZ.alike Ar.2.1) Ar.2.2 (Ia.inb r hj hv) (by rw [Ia.get r, hv]; rfl) (g := mkF m pc ls (.int j :: .ref a :: st)) rfl rfl (hb hby hd) t k
theorem caload (X : Stand p l e R s m args below meth c T locs cells slots) (hx : p.tables.exec = Jvm.exec) (hby : c.code = bs) (hZ : Z.Warmed39 s.vm) (A : Ia Z T.heap a .char xs) {j v : Int32} (hj : ¬ j < 0) (hv : xs[j.toNatClampNeg]? = some v) (hd : decode bs pc = .ok (.caload, 1)) (hp : pc + 1 = pn)
    (hr : Go p.tables e below Q (T.setTop (mkF m pn ls (.int v :: st)))) : Go p.tables e below Q (T.setTop (mkF m pc ls (.int j :: .ref a :: st))) := by
  subst hp
  obtain ⟨cl, Ar, r⟩ := A
  exact hr.step fun t k => X.caload hx (j := j) (v := .int v) Ar.1 (State.isArrayOf_alike hZ.alike Ar.2.1) Ar.2.2 (Ia.inb r hj hv) (by rw [Ia.get r, hv]; rfl) (g := mkF m pc ls (.int j :: .ref a :: st)) rfl rfl (hb hby hd) t k
theorem iastore (X : Stand p l e R s m args below meth c T locs cells slots) (hx : p.tables.exec = Jvm.exec) (hby : c.code = bs) (hZ : Z.Warmed39 s.vm) (A : Ia Z T.heap a .int xs) {j x : Int32} (hj : ¬ j < 0) (hlt : j.toNatClampNeg < xs.length) {n0 : Nat} (hn : n0 ≤ a) (N : Fr n0 locs) (hd : decode bs pc = .ok (.iastore, 1)) (hp : pc + 1 = pn)
    (hr : ∀ (T' : State) (locs' : List Loc), Stand p l e R s m args below meth c T' locs' cells slots → Fr n0 locs' → Ia Z T'.heap a .int (xs.set j.toNatClampNeg (x)) → Wr T.heap T'.heap a j.toNatClampNeg (.int (x)) → Go p.tables e below Q (T'.setTop (mkF m pn ls st))) : Go p.tables e below Q (T.setTop (mkF m pc ls (.int x :: .int j :: .ref a :: st))) := by
  subst hp
  have A' := A
  obtain ⟨cl, Ar, r⟩ := A
  obtain ⟨T', h', X', e', W', st'⟩ := stI X hx hZ rfl Ar (j := j) (x := x) (Ia.inbL r hj hlt) (g := mkF m pc ls (.int x :: .int j :: .ref a :: st)) rfl rfl (hb hby hd)
  subst e'
  exact (hr T' _ X' (Fr.snoc X' N hn) (A'.set W') W').step fun t k => st' t k
theorem bastoreB (X : Stand p l e R s m args below meth c T locs cells slots) (hx : p.tables.exec = Jvm.exec) (hby : c.code = bs) (hZ : Z.Warmed39 s.vm) (A : Ia Z T.heap a .byte xs) {j x : Int32} (hj : ¬ j < 0) (hlt : j.toNatClampNeg < xs.length) {n0 : Nat} (hn : n0 ≤ a) (N : Fr n0 locs) (hd : decode bs pc = .ok (.bastore, 1)) (hp : pc + 1 = pn)
    (hr : ∀ (T' : State) (locs' : List Loc), Stand p l e R s m args below meth c T' locs' cells slots → Fr n0 locs' → Ia Z T'.heap a .byte (xs.set j.toNatClampNeg (nar .byte x)) → Wr T.heap T'.heap a j.toNatClampNeg (.int (nar .byte x)) → Go p.tables e below Q (T'.setTop (mkF m pn ls st))) : Go p.tables e below Q (T.setTop (mkF m pc ls (.int x :: .int j :: .ref a :: st))) := by
  subst hp
  have A' := A
  obtain ⟨cl, Ar, r⟩ := A
  obtain ⟨T', h', X', e', W', st'⟩ := stB X hx hZ rfl Ar (j := j) (x := x) (Ia.inbL r hj hlt) (g := mkF m pc ls (.int x :: .int j :: .ref a :: st)) rfl rfl (hb hby hd)
  subst e'
  exact (hr T' _ X' (Fr.snoc X' N hn) (A'.set W') W').step fun t k => st' t k
theorem castore (X : Stand p l e R s m args below meth c T locs cells slots) (hx : p.tables.exec = Jvm.exec) (hby : c.code = bs) (hZ : Z.Warmed39 s.vm) (A : Ia Z T.heap a .char xs) {j x : Int32} (hj : ¬ j < 0) (hlt : j.toNatClampNeg < xs.length) {n0 : Nat} (hn : n0 ≤ a) (N : Fr n0 locs) (hd : decode bs pc = .ok (.castore, 1)) (hp : pc + 1 = pn)
    (hr : ∀ (T' : State) (locs' : List Loc), Stand p l e R s m args below meth c T' locs' cells slots → Fr n0 locs' → Ia Z T'.heap a .char (xs.set j.toNatClampNeg (nar .char x)) → Wr T.heap T'.heap a j.toNatClampNeg (.int (nar .char x)) → Go p.tables e below Q (T'.setTop (mkF m pn ls st))) : Go p.tables e below Q (T.setTop (mkF m pc ls (.int x :: .int j :: .ref a :: st))) := by
  subst hp
  have A' := A
  obtain ⟨cl, Ar, r⟩ := A
  obtain ⟨T', h', X', e', W', st'⟩ := stC X hx hZ rfl Ar (j := j) (x := x) (Ia.inbL r hj hlt) (g := mkF m pc ls (.int x :: .int j :: .ref a :: st)) rfl rfl (hb hby hd)
  subst e'
  exact (hr T' _ X' (Fr.snoc X' N hn) (A'.set W') W').step fun t k => st' t k
theorem newarr (X : Stand p l e R s m args below meth c T locs cells slots) (hx : p.tables.exec = Jvm.exec) (hby : c.code = bs) (hZ : Z.Warmed39 s.vm) {aty : ArrayType} (w : (Jvm.Cond.arrayClass (newarray.typeOf aty)).before a0 Z = true) (hdv : defaultValue (newarray.typeOf aty) = .int 0) {n : Int32} (hn : ¬ n < 0) (cap : Nat) (hcap : n.toNatClampNeg ≤ cap) (hcb : cap * 8 ≤ 536870912) (hc : cells + 1 ≤ R.cells) (hl : slots + cap ≤ R.slots) (hd : decode bs pc = .ok (.newarray aty, 2)) (hp : pc + 2 = pn)
    (hr : ∀ (T' : State), Stand p l e R s m args below meth c T' locs (cells + 1) (slots + cap) → Ext T.heap T'.heap → Ia Z T'.heap T.heap.size (newarray.typeOf aty) (List.replicate n.toNatClampNeg 0) → Go p.tables e below Q (T'.setTop (mkF m pn ls (.ref T.heap.size :: st)))) : Go p.tables e below Q (T.setTop (mkF m pc ls (.int n :: st))) := by
  subst hp
  obtain ⟨T', h', cA, X', e', E', A', st'⟩ := newP X hx hZ w rfl (g := mkF m pc ls (.int n :: st)) rfl (hb hby hd) rfl hn hcap hcb hc hl
  subst e'
  exact (hr T' X' E' (Ia.new A' hdv)).step fun t k => st' t k
theorem arrlen (X : Stand p l e R s m args below meth c T locs cells slots) (hx : p.tables.exec = Jvm.exec) (hby : c.code = bs) (hZ : Z.Warmed39 s.vm) (A : Ia Z T.heap a ty xs) {v : Int32} (hv : xs.length.toInt32 = v) (hd : decode bs pc = .ok (.arraylength, 1)) (hp : pc + 1 = pn)
    (hr : Go p.tables e below Q (T.setTop (mkF m pn ls (.int v :: st)))) : Go p.tables e below Q (T.setTop (mkF m pc ls (.ref a :: st))) := by
  subst hp
  obtain ⟨cl, Ar, r⟩ := A
  subst hv
  rw [← Ia.size r] at hr
  exact hr.step fun t k => X.arraylength hx Ar.1 (State.isArrayOf_alike hZ.alike Ar.2.1) (g := mkF m pc ls (.ref a :: st)) rfl rfl (hb hby hd) t k
theorem getst (X : Stand p l e R s m args below meth c T locs cells slots) (hx : p.tables.exec = Jvm.exec) (hby : c.code = bs) (hZ : Z.Warmed39 s.vm) {own C n d : String} {index : Nat} {v : Value} (hown : s.vm.findClass own = some m.cls) (w : (Jvm.Cond.fieldLink own index C n d).before a0 Z = true) (F : Sta Z T.heap C n d v) (hd : decode bs pc = .ok (.getstatic index, 3)) (hp : pc + 3 = pn)
    (hr : ∀ (T' : State), Stand p l e R s m args below meth c T' locs cells slots → T'.heap = T.heap → Go p.tables e below Q (T'.setTop (mkF m pn ls (v :: st)))) : Go p.tables e below Q (T.setTop (mkF m pc ls st)) := by
  subst hp
  obtain ⟨T', X', e', st'⟩ := getS X hx hZ hown (host := "") w Via.refl rfl F (g := mkF m pc ls st) rfl (hb hby hd)
  exact (hr T' X' e').step fun t k => st' t k
end Arrays
end Jvm.OwnGo
namespace Jvm.OwnGo
open Jvm Jvm.ClassFile Sem Op Lib Jvm.Free Jvm.Stand Jvm.LawKit Jvm.RoadKit
section Tables
variable {s : State} {args : Array Value} {t : Term} {a : Addr} {cl : Cell} {ty : FieldType} {k : Nat} {x : Int32}
theorem nat32 (h : k < 2 ^ 31) : k.toInt32.toNatClampNeg = k ∧ ¬ k.toInt32 < 0 := by
  have e := len_toInt h
  constructor
  · simp only [Int32.toNatClampNeg, e]; rfl
  · simp only [Int32.lt_iff_toInt_lt, e, Int32.reduceToInt]; omega
theorem len_eq {n : Int32} (ev : t.eval args s none [] s = some (.ref a)) (hA : s.arrayAt? a = some cl) (h : (Jvm.Cond.eq (.length t) (.int n)).value args s none s [] = some true) : cl.slots.size < 2 ^ 31 ∧ cl.slots.size.toInt32 = n := by
  by_cases q : cl.slots.size < 2 ^ 31
  · refine ⟨q, ?_⟩
    simpa [Cond.value, Term.eval, ev, hA, q] using h
  · simp [Cond.value, Term.eval, ev, hA, q] at h
theorem Ia.start (hf : Fit s) (A : Arr s s.heap a cl ty) (ht : ty = .int ∨ ty = .boolean ∨ ty = .byte ∨ ty = .char ∨ ty = .short) (q : cl.slots.size < 2 ^ 31) : ∃ xs : List Int32, Ia s s.heap a ty xs ∧ xs.length = cl.slots.size ∧ ∀ k : Nat, cl.slots[k]? = (xs[k]?).map Value.int := by
  have key : ∀ k : Nat, k < cl.slots.size → ∃ x, cl.slots[k]? = some (.int x) := fun k hk => by
    have e := nat32 (show k < 2 ^ 31 by omega)
    obtain ⟨v, h1, h2⟩ := elem_fit hf A (j := k.toInt32) (by rw [e.1]; exact fun u => u.elim e.2 (fun u => by omega))
    obtain ⟨x, rfl⟩ := fit_I h2 ht
    rw [e.1] at h1
    exact ⟨x, h1⟩
  have r : cl.slots.toList = (cl.slots.toList.map fun v => match v with | .int x => x | _ => (0 : Int32)).map Value.int := by
    apply List.ext_getElem?
    intro k
    rw [List.getElem?_map, List.getElem?_map, Array.getElem?_toList]
    by_cases hk : k < cl.slots.size
    · obtain ⟨x, hx⟩ := key k hk
      rw [hx]; rfl
    · rw [Array.getElem?_eq_none (by omega)]; rfl
  exact ⟨_, ⟨cl, A, r⟩, by simp, fun k => Ia.get r k⟩
theorem tab_up (ev : ∀ idx, t.eval args s none idx s = some (.ref a)) (hA : s.arrayAt? a = some cl) (q : cl.slots.size < 2 ^ 31) (hk : k < cl.slots.size) (hx : cl.slots[k]? = some (.int x)) {lo v : Int32}
    (h : (Jvm.Cond.all t (.or (.le (.int lo) (.index 0)) (.eq (.elem t (.index 0)) (.int v)))).value args s none s [] = some true) : lo.toInt ≤ k ∨ x = v := by
  have h2 := Cond.all_elim (ev []) hA h k hk
  have e := nat32 (show k < 2 ^ 31 by omega)
  have i1 : (Term.index 0).eval args s none [k] s = some (.int k.toInt32) := Term.index_eval _
  have e1 : (Term.elem t (.index 0)).eval args s none [k] s = some (.int x) := by rw [elem_f (ev _) i1 hA e.2, e.1, hx]
  by_cases c : lo ≤ k.toInt32
  · left; rw [Int32.le_iff_toInt_le, len_toInt (by omega)] at c; exact c
  · right; simpa [Cond.value, i1, e1, c, Term.int_eval] using h2
theorem tab_in (ev : ∀ idx, t.eval args s none idx s = some (.ref a)) (hA : s.arrayAt? a = some cl) (q : cl.slots.size < 2 ^ 31) (hk : k < cl.slots.size) (hx : cl.slots[k]? = some (.int x)) {lo hi v : Int32}
    (h : (Jvm.Cond.all t (.or (.lt (.index 0) (.int lo)) (.or (.le (.int hi) (.index 0)) (.eq (.elem t (.index 0)) (.int v))))).value args s none s [] = some true) : (k : Int) < lo.toInt ∨ hi.toInt ≤ k ∨ x = v := by
  have h2 := Cond.all_elim (ev []) hA h k hk
  have e := nat32 (show k < 2 ^ 31 by omega)
  have i1 : (Term.index 0).eval args s none [k] s = some (.int k.toInt32) := Term.index_eval _
  have e1 : (Term.elem t (.index 0)).eval args s none [k] s = some (.int x) := by rw [elem_f (ev _) i1 hA e.2, e.1, hx]
  by_cases c1 : k.toInt32 < lo
  · left; rw [Int32.lt_iff_toInt_lt, len_toInt (by omega)] at c1; exact c1
  · right
    by_cases c : hi ≤ k.toInt32
    · left; rw [Int32.le_iff_toInt_le, len_toInt (by omega)] at c; exact c
    · right; simpa [Cond.value, i1, e1, c, c1, Term.int_eval] using h2
theorem tab_fr (ev : ∀ idx, t.eval args s none idx s = some (.ref a)) (hA : s.arrayAt? a = some cl) (q : cl.slots.size < 2 ^ 31) (hk : k < cl.slots.size) (hx : cl.slots[k]? = some (.int x)) {lo v : Int32}
    (h : (Jvm.Cond.all t (.or (.lt (.index 0) (.int lo)) (.eq (.elem t (.index 0)) (.int v)))).value args s none s [] = some true) : (k : Int) < lo.toInt ∨ x = v := by
  have h2 := Cond.all_elim (ev []) hA h k hk
  have e := nat32 (show k < 2 ^ 31 by omega)
  have i1 : (Term.index 0).eval args s none [k] s = some (.int k.toInt32) := Term.index_eval _
  have e1 : (Term.elem t (.index 0)).eval args s none [k] s = some (.int x) := by rw [elem_f (ev _) i1 hA e.2, e.1, hx]
  by_cases c1 : k.toInt32 < lo
  · left; rw [Int32.lt_iff_toInt_lt, len_toInt (by omega)] at c1; exact c1
  · right; simpa [Cond.value, i1, e1, c1, Term.int_eval] using h2
theorem tab_at (ev : ∀ idx, t.eval args s none idx s = some (.ref a)) (hA : s.arrayAt? a = some cl) {j v : Int32} (hj : ¬ j < 0) (hx : cl.slots[j.toNatClampNeg]? = some (.int x))
    (h : (Jvm.Cond.eq (.elem t (.int j)) (.int v)).value args s none s [] = some true) : x = v := by
  have e1 : (Term.elem t (.int j)).eval args s none [] s = some (.int x) := by rw [elem_f (ev _) (Term.int_eval j) hA hj, hx]
  simpa [Cond.value, e1, Term.int_eval] using h
end Tables
end Jvm.OwnGo
namespace Jvm.Pilot.@@N@@
open Jvm Jvm.ClassFile Sem Op Lib Jvm.Free Jvm.Stand Jvm.LawKit Jvm.RoadKit Bundle Jvm.Pilot.@@N@@.Jvm.D
theorem pd_0 : parseMethodDescriptor "(I[BI)I" = some ⟨[.int, (.array .byte), .int], some .int⟩ := by decide +kernel
theorem pd_1 : parseMethodDescriptor "(B)I" = some ⟨[.byte], some .int⟩ := by decide +kernel
theorem pd_2 : parseMethodDescriptor "([BIII)Z" = some ⟨[(.array .byte), .int, .int, .int], some .boolean⟩ := by decide +kernel
theorem pd_3 : parseMethodDescriptor "([BIIIB)Z" = some ⟨[(.array .byte), .int, .int, .int, .byte], some .boolean⟩ := by decide +kernel
theorem pd_4 : parseMethodDescriptor "([BI)I" = some ⟨[(.array .byte), .int], some .int⟩ := by decide +kernel
theorem pd_5 : parseMethodDescriptor "(IIII)Z" = some ⟨[.int, .int, .int, .int], some .boolean⟩ := by decide +kernel
theorem own_iy (p c : Int32) (d : Int) (hc : c.toInt = d) (hp : 0 ≤ p.toInt + d) (h7 : p.toInt + d ≤ 7) : ¬ (p + c) < 0 ∧ (p + c).toNatClampNeg < 8 ∧ ((p + c).toNatClampNeg : Int) = p.toInt + d := by
  have k := c_iadd p c
  have k1 := (p + c).toInt_lt
  have k2 := (p + c).le_toInt
  have e : (p + c).toInt = p.toInt + d := by omega
  have n : (p + c).toNatClampNeg = (p + c).toInt.toNat := rfl
  refine ⟨?_, by omega, by omega⟩
  rw [Int32.lt_iff_toInt_lt, e]; simp only [Int32.reduceToInt]; omega
theorem own_i0 (p : Int32) (hp : 0 ≤ p.toInt) (h7 : p.toInt ≤ 7) : ¬ p < 0 ∧ p.toNatClampNeg < 8 ∧ (p.toNatClampNeg : Int) = p.toInt := by
  have n : p.toNatClampNeg = p.toInt.toNat := rfl
  refine ⟨?_, by omega, by omega⟩
  rw [Int32.lt_iff_toInt_lt]; simp only [Int32.reduceToInt]; omega
theorem own_m8 (p : Int32) : ¬ (p &&& 255) < 0 ∧ (p &&& 255).toNatClampNeg < 256 ∧ ((p &&& 255).toNatClampNeg : Int) = p.toInt % 256 := by
  have h : (p &&& 255).toInt = p.toInt % (2 ^ 8 : Nat) := c_mask p 255 8 (by decide) (by decide)
  have n : (p &&& 255).toNatClampNeg = (p &&& 255).toInt.toNat := rfl
  refine ⟨?_, by omega, by omega⟩
  rw [Int32.lt_iff_toInt_lt]; simp only [Int32.reduceToInt]; omega
def own_seq (ys : List Int32) (p0 : Int32) : Int32 := (ys.getD ((p0 &&& (255 : Int32))).toNatClampNeg 0)
theorem d2_0 : decode prog_114_method_2_code 0 = .ok (.getstatic 7, 3) := by decide +kernel
theorem d2_3 : decode prog_114_method_2_code 3 = .ok (.iload_n 0, 1) := by decide +kernel
theorem d2_4 : decode prog_114_method_2_code 4 = .ok (.sipush 255, 3) := by decide +kernel
theorem d2_7 : decode prog_114_method_2_code 7 = .ok (.iand, 1) := by decide +kernel
theorem d2_8 : decode prog_114_method_2_code 8 = .ok (.baload, 1) := by decide +kernel
theorem d2_9 : decode prog_114_method_2_code 9 = .ok (.ireturn, 1) := by decide +kernel
theorem pn_0 : plainName "com/example/hedge_index/hedgeindex/xml/Utf8" = true := by first | (simp [plainName, overriddenIn]; done) | decide +kernel
theorem ef_2 (m : MethodId) (p0 : Int32) : entryFrame m #[(.int p0)] 1 = mkF m 0 #[.val (.int p0)] [] := by first | (simp [entryFrame, mkF, argsToLocals, Value.category]; done) | rfl
set_option maxRecDepth 65536 in
set_option maxHeartbeats 40000000 in
theorem rm_own_seq (l : Launch) (Z : State) (a0 : Array Value) (hw : ∀ d ∈ tables_1, d.before a0 Z = true) (p0 : Int32) (ys : List Int32) (h0 : Heap) (w : Addr) (S : Sta Z h0 "com/example/hedge_index/hedgeindex/xml/Utf8" "LENGTHS" "[B" (.ref w)) (AL : OwnGo.Ia Z h0 w .byte ys) (hlY : ys.length = 256) :
    OwnGo.Con l (⟨"com/example/hedge_index/hedgeindex/xml/Utf8", "sequenceLength", "(B)I"⟩ : MethodName) prog_114_method_2_code 1 (some .int) (OwnGo.rmP 0 0) Z #[(.int p0)] h0 (OwnGo.PureQ (.int (own_seq ys p0)) h0) := by
  refine OwnGo.Con.intro (plainFor_of_name pn_0) ?_
  intro p e s m below meth c T0 X0 hx hby hml hZ hown hnm hret hlk e0
  refine OwnGo.Go.cast (ef_2 m p0) ?_
  obtain ⟨r, hr⟩ : ∃ r, own_seq ys p0 = r := ⟨_, rfl⟩
  rw [hr]
  have hfin : OwnGo.PureQ (.int r) h0 (some (.int r)) h0 [] := ⟨rfl, rfl, rfl⟩
  unfold own_seq at hr
  have W0 : OwnGo.Wk p.tables T0 m c below prog_114_method_2_code := ⟨X0.here, hx, hby⟩
  refine OwnGo.getst X0 hx hby hZ hown (pn := 3) (hw _ (List.mem_of_getElem? (i := 9) rfl)) (v := .ref w) (by rw [e0]; exact S) d2_0 rfl (fun T1 X1 f1 => ?_)
  have e1 := f1.trans e0
  have W1 : OwnGo.Wk p.tables T1 m c below prog_114_method_2_code := ⟨X1.here, hx, hby⟩
  refine OwnGo.iloadN W1 (pn := 4) d2_3 rfl rfl ?_
  refine OwnGo.sipush (v := (255 : Int32)) W1 (pn := 7) d2_4 rfl rfl ?_
  refine OwnGo.iand W1 (pn := 8) d2_7 rfl ?_
  refine OwnGo.baloadB X1 hx hby hZ (pn := 9) (by rw [e1]; exact AL : OwnGo.Ia Z _ w .byte ys) (own_m8 p0).1 (OwnGo.getD_of (by rw [hlY]; exact (own_m8 p0).2.1)) d2_8 rfl ?_
  exact OwnGo.ireturn X1 hx hby hret hlk rfl (by simp) d2_9 (OwnGo.fin_of hr e1 hfin) (by decide) (by decide)
def own_cont_20 : Int32 := (1 : Int32)
def own_cont (xs : List Int32) (p1 : Int32) (p2 : Int32) (p3 : Int32) : Int32 := (if p2 < p3 then (if ((xs.getD ((p1 + p2)).toNatClampNeg 0) &&& (192 : Int32)) = (128 : Int32) then (own_cont_20) else (0 : Int32)) else (own_cont_20))
theorem d3_0 : decode method_3_code 0 = .ok (.iload_n 2, 1) := by decide +kernel
theorem d3_1 : decode method_3_code 1 = .ok (.iload_n 3, 1) := by decide +kernel
theorem d3_2 : decode method_3_code 2 = .ok (.if_icmp .ge 18, 3) := by decide +kernel
theorem d3_5 : decode method_3_code 5 = .ok (.aload_n 0, 1) := by decide +kernel
theorem d3_6 : decode method_3_code 6 = .ok (.iload_n 1, 1) := by decide +kernel
theorem d3_7 : decode method_3_code 7 = .ok (.iload_n 2, 1) := by decide +kernel
theorem d3_8 : decode method_3_code 8 = .ok (.iadd, 1) := by decide +kernel
theorem d3_9 : decode method_3_code 9 = .ok (.baload, 1) := by decide +kernel
theorem d3_10 : decode method_3_code 10 = .ok (.sipush 192, 3) := by decide +kernel
theorem d3_13 : decode method_3_code 13 = .ok (.iand, 1) := by decide +kernel
theorem d3_14 : decode method_3_code 14 = .ok (.sipush 128, 3) := by decide +kernel
theorem d3_17 : decode method_3_code 17 = .ok (.if_icmp .ne 7, 3) := by decide +kernel
theorem d3_20 : decode method_3_code 20 = .ok (.iconst 1, 1) := by decide +kernel
theorem d3_21 : decode method_3_code 21 = .ok (.goto 4, 3) := by decide +kernel
theorem d3_24 : decode method_3_code 24 = .ok (.iconst 0, 1) := by decide +kernel
theorem d3_25 : decode method_3_code 25 = .ok (.ireturn, 1) := by decide +kernel
theorem pn_1 : plainName "com/example/hedge_index/hedgeindex/xml/Utf8EncodePinLaw" = true := by first | (simp [plainName, overriddenIn]; done) | decide +kernel
theorem ef_3 (m : MethodId) (a : Addr) (p1 : Int32) (p2 : Int32) (p3 : Int32) : entryFrame m #[(.ref a), (.int p1), (.int p2), (.int p3)] 4 = mkF m 0 #[.val (.ref a), .val (.int p1), .val (.int p2), .val (.int p3)] [] := by first | (simp [entryFrame, mkF, argsToLocals, Value.category]; done) | rfl
set_option maxRecDepth 65536 in
set_option maxHeartbeats 40000000 in
theorem rm_own_cont (l : Launch) (Z : State) (a0 : Array Value) (hw : ∀ d ∈ tables_1, d.before a0 Z = true) (a : Addr) (p1 : Int32) (p2 : Int32) (p3 : Int32) (xs : List Int32) (h0 : Heap) (A : OwnGo.Ia Z h0 a .byte xs) (hlen : xs.length = 8) (g1 : 0 ≤ p1.toInt) (g2 : p1.toInt ≤ 3) (g3 : 0 ≤ p2.toInt) (g4 : p2.toInt ≤ 3) :
    OwnGo.Con l (⟨"com/example/hedge_index/hedgeindex/xml/Utf8EncodePinLaw", "cont", "([BIII)Z"⟩ : MethodName) method_3_code 4 (some .boolean) (OwnGo.rmP 0 0) Z #[(.ref a), (.int p1), (.int p2), (.int p3)] h0 (OwnGo.PureQ (.int (own_cont xs p1 p2 p3)) h0) := by
  refine OwnGo.Con.intro (plainFor_of_name pn_1) ?_
  intro p e s m below meth c T0 X0 hx hby hml hZ hown hnm hret hlk e0
  refine OwnGo.Go.cast (ef_3 m a p1 p2 p3) ?_
  obtain ⟨r, hr⟩ : ∃ r, own_cont xs p1 p2 p3 = r := ⟨_, rfl⟩
  rw [hr]
  have hfin : OwnGo.PureQ (.int r) h0 (some (.int r)) h0 [] := ⟨rfl, rfl, rfl⟩
  have B20 : ∀ (T0 : State) (X0 : Stand p l e (OwnGo.rmP 0 0) s m #[(.ref a), (.int p1), (.int p2), (.int p3)] below meth c T0 [] 0 0) (e0 : T0.heap = h0), own_cont_20 = r → OwnGo.Go p.tables e below (OwnGo.Qe s (OwnGo.rmP 0 0) (OwnGo.PureQ (.int r) h0)) (T0.setTop (mkF m 20 #[.val (.ref a), .val (.int p1), .val (.int p2), .val (.int p3)] [])) := by
    intro T0 X0 e0 hr
    unfold own_cont_20 at hr
    have W0 : OwnGo.Wk p.tables T0 m c below method_3_code := ⟨X0.here, hx, hby⟩
    refine OwnGo.iconst (v := (1 : Int32)) W0 (pn := 21) d3_20 rfl rfl ?_
    refine OwnGo.goto W0 (pt := 25) d3_21 (by decide) (by decide) ?_
    exact OwnGo.ireturn X0 hx hby hret hlk rfl (by simp) d3_25 (OwnGo.fin_of hr e0 hfin) (by decide) (by decide)
  unfold own_cont at hr
  have W0 : OwnGo.Wk p.tables T0 m c below method_3_code := ⟨X0.here, hx, hby⟩
  refine OwnGo.iloadN W0 (pn := 1) d3_0 rfl rfl ?_
  refine OwnGo.iloadN W0 (pn := 2) d3_1 rfl rfl ?_
  refine OwnGo.icmp_ge W0 (pn := 5) (pt := 20) d3_2 rfl (by decide) (by decide) (fun h2 => ?_) (fun h2 => ?_)
  · rw [if_pos h2] at hr
    refine OwnGo.aloadN W0 (pn := 6) d3_5 rfl rfl rfl ?_
    refine OwnGo.iloadN W0 (pn := 7) d3_6 rfl rfl ?_
    refine OwnGo.iloadN W0 (pn := 8) d3_7 rfl rfl ?_
    refine OwnGo.iadd W0 (pn := 9) d3_8 rfl ?_
    refine OwnGo.baloadB X0 hx hby hZ (pn := 10) (by rw [e0]; exact A : OwnGo.Ia Z _ a .byte xs) (own_iy p1 p2 _ rfl (by omega) (by omega)).1 (OwnGo.getD_of (by rw [hlen]; exact (own_iy p1 p2 _ rfl (by omega) (by omega)).2.1)) d3_9 rfl ?_
    refine OwnGo.sipush (v := (192 : Int32)) W0 (pn := 13) d3_10 rfl rfl ?_
    refine OwnGo.iand W0 (pn := 14) d3_13 rfl ?_
    refine OwnGo.sipush (v := (128 : Int32)) W0 (pn := 17) d3_14 rfl rfl ?_
    refine OwnGo.icmp_ne W0 (pn := 20) (pt := 24) d3_17 rfl (by decide) (by decide) (fun h17 => ?_) (fun h17 => ?_)
    · rw [if_pos h17] at hr
      exact B20 _ X0 e0 hr
    · rw [if_neg h17] at hr
      refine OwnGo.iconst (v := (0 : Int32)) W0 (pn := 25) d3_24 rfl rfl ?_
      exact OwnGo.ireturn X0 hx hby hret hlk rfl (by simp) d3_25 (OwnGo.fin_of hr e0 hfin) (by decide) (by decide)
  · rw [if_neg h2] at hr
    exact B20 _ X0 e0 hr
def own_unt_20 : Int32 := (1 : Int32)
def own_unt_12 (xs : List Int32) (p1 : Int32) (p4 : Int32) : Int32 := (if (xs.getD (p1).toNatClampNeg 0) = p4 then (own_unt_20) else (0 : Int32))
def own_unt (xs : List Int32) (p1 : Int32) (p2 : Int32) (p3 : Int32) (p4 : Int32) : Int32 := (if p1 < p2 then (own_unt_12 xs p1 p4) else (if p1 < (p2 + p3) then (own_unt_20) else (own_unt_12 xs p1 p4)))
theorem d4_0 : decode method_2_code 0 = .ok (.iload_n 1, 1) := by decide +kernel
theorem d4_1 : decode method_2_code 1 = .ok (.iload_n 2, 1) := by decide +kernel
theorem d4_2 : decode method_2_code 2 = .ok (.if_icmp .lt 10, 3) := by decide +kernel
theorem d4_5 : decode method_2_code 5 = .ok (.iload_n 1, 1) := by decide +kernel
theorem d4_6 : decode method_2_code 6 = .ok (.iload_n 2, 1) := by decide +kernel
theorem d4_7 : decode method_2_code 7 = .ok (.iload_n 3, 1) := by decide +kernel
theorem d4_8 : decode method_2_code 8 = .ok (.iadd, 1) := by decide +kernel
theorem d4_9 : decode method_2_code 9 = .ok (.if_icmp .lt 11, 3) := by decide +kernel
theorem d4_12 : decode method_2_code 12 = .ok (.aload_n 0, 1) := by decide +kernel
theorem d4_13 : decode method_2_code 13 = .ok (.iload_n 1, 1) := by decide +kernel
theorem d4_14 : decode method_2_code 14 = .ok (.baload, 1) := by decide +kernel
theorem d4_15 : decode method_2_code 15 = .ok (.iload 4, 2) := by decide +kernel
theorem d4_17 : decode method_2_code 17 = .ok (.if_icmp .ne 7, 3) := by decide +kernel
theorem d4_20 : decode method_2_code 20 = .ok (.iconst 1, 1) := by decide +kernel
theorem d4_21 : decode method_2_code 21 = .ok (.goto 4, 3) := by decide +kernel
theorem d4_24 : decode method_2_code 24 = .ok (.iconst 0, 1) := by decide +kernel
theorem d4_25 : decode method_2_code 25 = .ok (.ireturn, 1) := by decide +kernel
theorem ef_4 (m : MethodId) (a : Addr) (p1 : Int32) (p2 : Int32) (p3 : Int32) (p4 : Int32) : entryFrame m #[(.ref a), (.int p1), (.int p2), (.int p3), (.int p4)] 5 = mkF m 0 #[.val (.ref a), .val (.int p1), .val (.int p2), .val (.int p3), .val (.int p4)] [] := by first | (simp [entryFrame, mkF, argsToLocals, Value.category]; done) | rfl
set_option maxRecDepth 65536 in
set_option maxHeartbeats 40000000 in
theorem rm_own_unt (l : Launch) (Z : State) (a0 : Array Value) (hw : ∀ d ∈ tables_1, d.before a0 Z = true) (a : Addr) (p1 : Int32) (p2 : Int32) (p3 : Int32) (p4 : Int32) (xs : List Int32) (h0 : Heap) (A : OwnGo.Ia Z h0 a .byte xs) (hlen : xs.length = 8) (g3 : 0 ≤ p1.toInt) (g4 : p1.toInt ≤ 7) :
    OwnGo.Con l (⟨"com/example/hedge_index/hedgeindex/xml/Utf8EncodePinLaw", "untouched", "([BIIIB)Z"⟩ : MethodName) method_2_code 5 (some .boolean) (OwnGo.rmP 0 0) Z #[(.ref a), (.int p1), (.int p2), (.int p3), (.int p4)] h0 (OwnGo.PureQ (.int (own_unt xs p1 p2 p3 p4)) h0) := by
  refine OwnGo.Con.intro (plainFor_of_name pn_1) ?_
  intro p e s m below meth c T0 X0 hx hby hml hZ hown hnm hret hlk e0
  refine OwnGo.Go.cast (ef_4 m a p1 p2 p3 p4) ?_
  obtain ⟨r, hr⟩ : ∃ r, own_unt xs p1 p2 p3 p4 = r := ⟨_, rfl⟩
  rw [hr]
  have hfin : OwnGo.PureQ (.int r) h0 (some (.int r)) h0 [] := ⟨rfl, rfl, rfl⟩
  have B20 : ∀ (T0 : State) (X0 : Stand p l e (OwnGo.rmP 0 0) s m #[(.ref a), (.int p1), (.int p2), (.int p3), (.int p4)] below meth c T0 [] 0 0) (e0 : T0.heap = h0), own_unt_20 = r → OwnGo.Go p.tables e below (OwnGo.Qe s (OwnGo.rmP 0 0) (OwnGo.PureQ (.int r) h0)) (T0.setTop (mkF m 20 #[.val (.ref a), .val (.int p1), .val (.int p2), .val (.int p3), .val (.int p4)] [])) := by
    intro T0 X0 e0 hr
    unfold own_unt_20 at hr
    have W0 : OwnGo.Wk p.tables T0 m c below method_2_code := ⟨X0.here, hx, hby⟩
    refine OwnGo.iconst (v := (1 : Int32)) W0 (pn := 21) d4_20 rfl rfl ?_
    refine OwnGo.goto W0 (pt := 25) d4_21 (by decide) (by decide) ?_
    exact OwnGo.ireturn X0 hx hby hret hlk rfl (by simp) d4_25 (OwnGo.fin_of hr e0 hfin) (by decide) (by decide)
  have B12 : ∀ (T0 : State) (X0 : Stand p l e (OwnGo.rmP 0 0) s m #[(.ref a), (.int p1), (.int p2), (.int p3), (.int p4)] below meth c T0 [] 0 0) (e0 : T0.heap = h0) (hi : True), own_unt_12 xs p1 p4 = r → OwnGo.Go p.tables e below (OwnGo.Qe s (OwnGo.rmP 0 0) (OwnGo.PureQ (.int r) h0)) (T0.setTop (mkF m 12 #[.val (.ref a), .val (.int p1), .val (.int p2), .val (.int p3), .val (.int p4)] [])) := by
    intro T0 X0 e0 hi hr
    unfold own_unt_12 at hr
    have W0 : OwnGo.Wk p.tables T0 m c below method_2_code := ⟨X0.here, hx, hby⟩
    refine OwnGo.aloadN W0 (pn := 13) d4_12 rfl rfl rfl ?_
    refine OwnGo.iloadN W0 (pn := 14) d4_13 rfl rfl ?_
    refine OwnGo.baloadB X0 hx hby hZ (pn := 15) (by rw [e0]; exact A : OwnGo.Ia Z _ a .byte xs) (own_i0 p1 (by omega) (by omega)).1 (OwnGo.getD_of (by rw [hlen]; exact (own_i0 p1 (by omega) (by omega)).2.1)) d4_14 rfl ?_
    refine OwnGo.iload W0 (pn := 17) d4_15 rfl rfl ?_
    refine OwnGo.icmp_ne W0 (pn := 20) (pt := 24) d4_17 rfl (by decide) (by decide) (fun h17 => ?_) (fun h17 => ?_)
    · rw [if_pos h17] at hr
      exact B20 _ X0 e0 hr
    · rw [if_neg h17] at hr
      refine OwnGo.iconst (v := (0 : Int32)) W0 (pn := 25) d4_24 rfl rfl ?_
      exact OwnGo.ireturn X0 hx hby hret hlk rfl (by simp) d4_25 (OwnGo.fin_of hr e0 hfin) (by decide) (by decide)
  unfold own_unt at hr
  have W0 : OwnGo.Wk p.tables T0 m c below method_2_code := ⟨X0.here, hx, hby⟩
  refine OwnGo.iloadN W0 (pn := 1) d4_0 rfl rfl ?_
  refine OwnGo.iloadN W0 (pn := 2) d4_1 rfl rfl ?_
  refine OwnGo.icmp_lt W0 (pn := 5) (pt := 12) d4_2 rfl (by decide) (by decide) (fun h2 => ?_) (fun h2 => ?_)
  · rw [if_pos h2] at hr
    exact B12 _ X0 e0 (trivial) hr
  · rw [if_neg h2] at hr
    refine OwnGo.iloadN W0 (pn := 6) d4_5 rfl rfl ?_
    refine OwnGo.iloadN W0 (pn := 7) d4_6 rfl rfl ?_
    refine OwnGo.iloadN W0 (pn := 8) d4_7 rfl rfl ?_
    refine OwnGo.iadd W0 (pn := 9) d4_8 rfl ?_
    refine OwnGo.icmp_lt W0 (pn := 12) (pt := 20) d4_9 rfl (by decide) (by decide) (fun h9 => ?_) (fun h9 => ?_)
    · rw [if_pos h9] at hr
      exact B20 _ X0 e0 hr
    · rw [if_neg h9] at hr
      exact B12 _ X0 e0 (trivial) hr
theorem d5_0 : decode prog_114_method_3_code 0 = .ok (.aload_n 0, 1) := by decide +kernel
theorem d5_1 : decode prog_114_method_3_code 1 = .ok (.iload_n 1, 1) := by decide +kernel
theorem d5_2 : decode prog_114_method_3_code 2 = .ok (.baload, 1) := by decide +kernel
theorem d5_3 : decode prog_114_method_3_code 3 = .ok (.istore_n 2, 1) := by decide +kernel
theorem d5_4 : decode prog_114_method_3_code 4 = .ok (.iload_n 2, 1) := by decide +kernel
theorem d5_5 : decode prog_114_method_3_code 5 = .ok (.istore_n 3, 1) := by decide +kernel
theorem d5_6 : decode prog_114_method_3_code 6 = .ok (.iload_n 2, 1) := by decide +kernel
theorem d5_7 : decode prog_114_method_3_code 7 = .ok (.ifCond .ge 53, 3) := by decide +kernel
theorem d5_10 : decode prog_114_method_3_code 10 = .ok (.getstatic 7, 3) := by decide +kernel
theorem d5_13 : decode prog_114_method_3_code 13 = .ok (.iload_n 2, 1) := by decide +kernel
theorem d5_14 : decode prog_114_method_3_code 14 = .ok (.sipush 255, 3) := by decide +kernel
theorem d5_17 : decode prog_114_method_3_code 17 = .ok (.iand, 1) := by decide +kernel
theorem d5_18 : decode prog_114_method_3_code 18 = .ok (.baload, 1) := by decide +kernel
theorem d5_19 : decode prog_114_method_3_code 19 = .ok (.istore 4, 2) := by decide +kernel
theorem d5_21 : decode prog_114_method_3_code 21 = .ok (.iload_n 2, 1) := by decide +kernel
theorem d5_22 : decode prog_114_method_3_code 22 = .ok (.bipush 127, 2) := by decide +kernel
theorem d5_24 : decode prog_114_method_3_code 24 = .ok (.iload 4, 2) := by decide +kernel
theorem d5_26 : decode prog_114_method_3_code 26 = .ok (.ishr, 1) := by decide +kernel
theorem d5_27 : decode prog_114_method_3_code 27 = .ok (.iand, 1) := by decide +kernel
theorem d5_28 : decode prog_114_method_3_code 28 = .ok (.istore_n 3, 1) := by decide +kernel
theorem d5_29 : decode prog_114_method_3_code 29 = .ok (.iconst 1, 1) := by decide +kernel
theorem d5_30 : decode prog_114_method_3_code 30 = .ok (.istore 5, 2) := by decide +kernel
theorem d5_32 : decode prog_114_method_3_code 32 = .ok (.iload 5, 2) := by decide +kernel
theorem d5_34 : decode prog_114_method_3_code 34 = .ok (.iload 4, 2) := by decide +kernel
theorem d5_36 : decode prog_114_method_3_code 36 = .ok (.if_icmp .ge 24, 3) := by decide +kernel
theorem d5_39 : decode prog_114_method_3_code 39 = .ok (.iload_n 3, 1) := by decide +kernel
theorem d5_40 : decode prog_114_method_3_code 40 = .ok (.bipush 6, 2) := by decide +kernel
theorem d5_42 : decode prog_114_method_3_code 42 = .ok (.ishl, 1) := by decide +kernel
theorem d5_43 : decode prog_114_method_3_code 43 = .ok (.aload_n 0, 1) := by decide +kernel
theorem d5_44 : decode prog_114_method_3_code 44 = .ok (.iload_n 1, 1) := by decide +kernel
theorem d5_45 : decode prog_114_method_3_code 45 = .ok (.iload 5, 2) := by decide +kernel
theorem d5_47 : decode prog_114_method_3_code 47 = .ok (.iadd, 1) := by decide +kernel
theorem d5_48 : decode prog_114_method_3_code 48 = .ok (.baload, 1) := by decide +kernel
theorem d5_49 : decode prog_114_method_3_code 49 = .ok (.bipush 63, 2) := by decide +kernel
theorem d5_51 : decode prog_114_method_3_code 51 = .ok (.iand, 1) := by decide +kernel
theorem d5_52 : decode prog_114_method_3_code 52 = .ok (.ior, 1) := by decide +kernel
theorem d5_53 : decode prog_114_method_3_code 53 = .ok (.istore_n 3, 1) := by decide +kernel
theorem d5_54 : decode prog_114_method_3_code 54 = .ok (.iinc 5 1, 3) := by decide +kernel
theorem d5_57 : decode prog_114_method_3_code 57 = .ok (.goto (-25), 3) := by decide +kernel
theorem d5_60 : decode prog_114_method_3_code 60 = .ok (.iload_n 3, 1) := by decide +kernel
theorem d5_61 : decode prog_114_method_3_code 61 = .ok (.ireturn, 1) := by decide +kernel
def own_cl (xs : List Int32) (p1 v4 : Int32) : Nat → Int32 → Int32 → Int32
  | 0, c, _ => c
  | n + 1, c, i => if i < v4 then own_cl xs p1 v4 n ((c <<< ((6 : Int32) &&& 31)) ||| ((xs.getD (p1 + i).toNatClampNeg 0) &&& (63 : Int32))) (i + (1 : Int32)) else c
theorem own_clS (xs : List Int32) (p1 v4 : Int32) (n : Nat) (c i : Int32) : own_cl xs p1 v4 (n + 1) c i = if i < v4 then own_cl xs p1 v4 n ((c <<< ((6 : Int32) &&& 31)) ||| ((xs.getD (p1 + i).toNatClampNeg 0) &&& (63 : Int32))) (i + (1 : Int32)) else c := rfl
def own_cpa (ys xs : List Int32) (p1 : Int32) : Int32 := if xs.getD p1.toNatClampNeg 0 < (0 : Int32) then own_cl xs p1 (ys.getD (xs.getD p1.toNatClampNeg 0 &&& (255 : Int32)).toNatClampNeg 0) 3 (xs.getD p1.toNatClampNeg 0 &&& ((127 : Int32) >>> (ys.getD (xs.getD p1.toNatClampNeg 0 &&& (255 : Int32)).toNatClampNeg 0 &&& 31))) (1 : Int32) else xs.getD p1.toNatClampNeg 0
theorem ef_5 (m : MethodId) (a : Addr) (p1 : Int32) : entryFrame m #[(.ref a), (.int p1)] 6 = mkF m 0 #[.val (.ref a), .val (.int p1), .unset, .unset, .unset, .unset] [] := by first | (simp [entryFrame, mkF, argsToLocals, Value.category]; done) | rfl
set_option maxRecDepth 65536 in
set_option maxHeartbeats 40000000 in
theorem rm_own_cpa (l : Launch) (Z : State) (a0 : Array Value) (hw : ∀ d ∈ tables_1, d.before a0 Z = true) (a : Addr) (p1 : Int32) (ys xs : List Int32) (h0 : Heap) (w : Addr) (S : Sta Z h0 "com/example/hedge_index/hedgeindex/xml/Utf8" "LENGTHS" "[B" (.ref w)) (AL : OwnGo.Ia Z h0 w .byte ys) (hlY : ys.length = 256) (hys : ∀ k : Nat, k < 256 → 1 ≤ (ys.getD k 0).toInt ∧ (ys.getD k 0).toInt ≤ 4) (A : OwnGo.Ia Z h0 a .byte xs) (hlen : xs.length = 8) (g1 : 0 ≤ p1.toInt) (g2 : p1.toInt ≤ 3) :
    OwnGo.Con l (⟨"com/example/hedge_index/hedgeindex/xml/Utf8", "codePointAt", "([BI)I"⟩ : MethodName) prog_114_method_3_code 6 (some .int) (OwnGo.rmP 0 0) Z #[(.ref a), (.int p1)] h0 (OwnGo.PureQ (.int (own_cpa ys xs p1)) h0) := by
  refine OwnGo.Con.intro (plainFor_of_name pn_0) ?_
  intro p e s m below meth c T0 X0 hx hby hml hZ hown hnm hret hlk e0
  refine OwnGo.Go.cast (ef_5 m a p1) ?_
  obtain ⟨r, hr⟩ : ∃ r, own_cpa ys xs p1 = r := ⟨_, rfl⟩
  rw [hr]
  have hfin : OwnGo.PureQ (.int r) h0 (some (.int r)) h0 [] := ⟨rfl, rfl, rfl⟩
  have EX : ∀ (T0 : State) (X0 : Stand p l e (OwnGo.rmP 0 0) s m #[(.ref a), (.int p1)] below meth c T0 [] 0 0) (e0 : T0.heap = h0) (b cc : Int32) (o4 o5 : Slot), cc = r → OwnGo.Go p.tables e below (OwnGo.Qe s (OwnGo.rmP 0 0) (OwnGo.PureQ (.int r) h0)) (T0.setTop (mkF m 60 #[.val (.ref a), .val (.int p1), .val (.int b), .val (.int cc), o4, o5] [])) := by
    intro T0 X0 e0 b cc o4 o5 hr
    have W0 : OwnGo.Wk p.tables T0 m c below prog_114_method_3_code := ⟨X0.here, hx, hby⟩
    refine OwnGo.iloadN W0 (pn := 61) d5_60 rfl rfl ?_
    exact OwnGo.ireturn X0 hx hby hret hlk rfl (by simp) d5_61 (OwnGo.fin_of hr e0 hfin) (by decide) (by decide)
  have LP : ∀ (n : Nat) (T0 : State) (X0 : Stand p l e (OwnGo.rmP 0 0) s m #[(.ref a), (.int p1)] below meth c T0 [] 0 0) (e0 : T0.heap = h0) (b cc v4 i : Int32) (h4 : v4.toInt ≤ 4) (h1 : 1 ≤ i.toInt) (hi : i.toInt ≤ 4) (hn : v4.toInt ≤ i.toInt + n), own_cl xs p1 v4 n cc i = r → OwnGo.Go p.tables e below (OwnGo.Qe s (OwnGo.rmP 0 0) (OwnGo.PureQ (.int r) h0)) (T0.setTop (mkF m 32 #[.val (.ref a), .val (.int p1), .val (.int b), .val (.int cc), .val (.int v4), .val (.int i)] [])) := by
    intro n
    induction n with
    | zero =>
      intro T0 X0 e0 b cc v4 i h4 h1 hi hn hr
      have W0 : OwnGo.Wk p.tables T0 m c below prog_114_method_3_code := ⟨X0.here, hx, hby⟩
      refine OwnGo.iload W0 (pn := 34) d5_32 rfl rfl ?_
      refine OwnGo.iload W0 (pn := 36) d5_34 rfl rfl ?_
      refine OwnGo.icmp_ge W0 (pn := 39) (pt := 60) d5_36 rfl (by decide) (by decide) (fun h36 => ?_) (fun h36 => ?_)
      · skip
        exact absurd h36 (by rw [Int32.lt_iff_toInt_lt]; omega)
      · skip
        exact EX _ X0 e0 _ _ _ _ hr
    | succ n ih =>
      intro T0 X0 e0 b cc v4 i h4 h1 hi hn hr
      rw [own_clS] at hr
      have Aa_0 : OwnGo.Ia Z T0.heap a .byte xs := by rw [e0]; exact A
      have W0 : OwnGo.Wk p.tables T0 m c below prog_114_method_3_code := ⟨X0.here, hx, hby⟩
      refine OwnGo.iload W0 (pn := 34) d5_32 rfl rfl ?_
      refine OwnGo.iload W0 (pn := 36) d5_34 rfl rfl ?_
      refine OwnGo.icmp_ge W0 (pn := 39) (pt := 60) d5_36 rfl (by decide) (by decide) (fun h36 => ?_) (fun h36 => ?_)
      · skip
        rw [if_pos h36] at hr
        rw [Int32.lt_iff_toInt_lt] at h36
        obtain ⟨j1, j2, j3⟩ := own_iy p1 i _ rfl (by omega) (by omega)
        have ni : (i + (1 : Int32)).toInt = i.toInt + 1 := by have k := c_iadd i 1; have k1 := (i + 1).toInt_lt; have k2 := (i + 1).le_toInt; simp only [Int32.reduceToInt] at k; omega
        refine OwnGo.iloadN W0 (pn := 40) d5_39 rfl rfl ?_
        refine OwnGo.bipush (v := (6 : Int32)) W0 (pn := 42) d5_40 rfl rfl ?_
        refine OwnGo.ishl W0 (pn := 43) d5_42 rfl ?_
        refine OwnGo.aloadN W0 (pn := 44) d5_43 rfl rfl rfl ?_
        refine OwnGo.iloadN W0 (pn := 45) d5_44 rfl rfl ?_
        refine OwnGo.iload W0 (pn := 47) d5_45 rfl rfl ?_
        refine OwnGo.iadd W0 (pn := 48) d5_47 rfl ?_
        refine OwnGo.baloadB X0 hx hby hZ (pn := 49) Aa_0 j1 (OwnGo.getD_of (by rw [hlen]; exact j2)) d5_48 rfl ?_
        refine OwnGo.bipush (v := (63 : Int32)) W0 (pn := 51) d5_49 rfl rfl ?_
        refine OwnGo.iand W0 (pn := 52) d5_51 rfl ?_
        refine OwnGo.ior W0 (pn := 53) d5_52 rfl ?_
        refine OwnGo.istoreN W0 (pn := 54) (l' := #[.val (.ref a), .val (.int p1), .val (.int b), .val (.int ((cc <<< ((6 : Int32) &&& 31)) ||| (((xs).getD ((p1 + i)).toNatClampNeg 0) &&& (63 : Int32)))), .val (.int v4), .val (.int i)]) d5_53 rfl rfl ?_
        refine OwnGo.iinc W0 (pn := 57) (l' := #[.val (.ref a), .val (.int p1), .val (.int b), .val (.int ((cc <<< ((6 : Int32) &&& 31)) ||| (((xs).getD ((p1 + i)).toNatClampNeg 0) &&& (63 : Int32)))), .val (.int v4), .val (.int (i + (1 : Int32)))]) (v := (1 : Int32)) d5_54 rfl rfl rfl rfl ?_
        refine OwnGo.goto W0 (pt := 32) d5_57 (by decide) (by decide) ?_
        exact ih _ X0 e0 _ _ _ _ h4 (by omega) (by omega) (by omega) hr
      · skip
        rw [if_neg h36] at hr
        exact EX _ X0 e0 _ _ _ _ hr
  have Aa_0 : OwnGo.Ia Z T0.heap a .byte xs := by rw [e0]; exact A
  obtain ⟨j1, j2, j3⟩ := own_i0 p1 (by omega) (by omega)
  unfold own_cpa at hr
  have W0 : OwnGo.Wk p.tables T0 m c below prog_114_method_3_code := ⟨X0.here, hx, hby⟩
  refine OwnGo.aloadN W0 (pn := 1) d5_0 rfl rfl rfl ?_
  refine OwnGo.iloadN W0 (pn := 2) d5_1 rfl rfl ?_
  refine OwnGo.baloadB X0 hx hby hZ (pn := 3) Aa_0 j1 (OwnGo.getD_of (by rw [hlen]; exact j2)) d5_2 rfl ?_
  obtain ⟨b, e_b⟩ : ∃ z, z = xs.getD p1.toNatClampNeg 0 := ⟨_, rfl⟩
  rw [← e_b] at hr ⊢
  refine OwnGo.istoreN W0 (pn := 4) (l' := #[.val (.ref a), .val (.int p1), .val (.int b), .unset, .unset, .unset]) d5_3 rfl rfl ?_
  refine OwnGo.iloadN W0 (pn := 5) d5_4 rfl rfl ?_
  refine OwnGo.istoreN W0 (pn := 6) (l' := #[.val (.ref a), .val (.int p1), .val (.int b), .val (.int b), .unset, .unset]) d5_5 rfl rfl ?_
  refine OwnGo.iloadN W0 (pn := 7) d5_6 rfl rfl ?_
  refine OwnGo.if_ge W0 (pn := 10) (pt := 60) d5_7 rfl (by decide) (by decide) (fun h7 => ?_) (fun h7 => ?_)
  · skip
    rw [if_pos h7] at hr
    refine OwnGo.getst X0 hx hby hZ hown (pn := 13) (hw _ (List.mem_of_getElem? (i := 9) rfl)) (v := .ref w) (by rw [e0]; exact S) d5_10 rfl (fun T1 X1 f1 => ?_)
    have e1 := f1.trans e0
    have Aw_1 : OwnGo.Ia Z T1.heap w .byte ys := by rw [e1]; exact AL
    have W1 : OwnGo.Wk p.tables T1 m c below prog_114_method_3_code := ⟨X1.here, hx, hby⟩
    refine OwnGo.iloadN W1 (pn := 14) d5_13 rfl rfl ?_
    refine OwnGo.sipush (v := (255 : Int32)) W1 (pn := 17) d5_14 rfl rfl ?_
    refine OwnGo.iand W1 (pn := 18) d5_17 rfl ?_
    refine OwnGo.baloadB X1 hx hby hZ (pn := 19) Aw_1 (own_m8 b).1 (OwnGo.getD_of (by rw [hlY]; exact (own_m8 b).2.1)) d5_18 rfl ?_
    have hy := hys _ (own_m8 b).2.1
    obtain ⟨v4, e_v4⟩ : ∃ z, z = ys.getD (b &&& (255 : Int32)).toNatClampNeg 0 := ⟨_, rfl⟩
    rw [← e_v4] at hr hy ⊢
    refine OwnGo.istore W1 (pn := 21) (l' := #[.val (.ref a), .val (.int p1), .val (.int b), .val (.int b), .val (.int v4), .unset]) d5_19 rfl rfl ?_
    refine OwnGo.iloadN W1 (pn := 22) d5_21 rfl rfl ?_
    refine OwnGo.bipush (v := (127 : Int32)) W1 (pn := 24) d5_22 rfl rfl ?_
    refine OwnGo.iload W1 (pn := 26) d5_24 rfl rfl ?_
    refine OwnGo.ishr W1 (pn := 27) d5_26 rfl ?_
    refine OwnGo.iand W1 (pn := 28) d5_27 rfl ?_
    refine OwnGo.istoreN W1 (pn := 29) (l' := #[.val (.ref a), .val (.int p1), .val (.int b), .val (.int (b &&& ((127 : Int32) >>> (v4 &&& 31)))), .val (.int v4), .unset]) d5_28 rfl rfl ?_
    refine OwnGo.iconst (v := (1 : Int32)) W1 (pn := 30) d5_29 rfl rfl ?_
    refine OwnGo.istore W1 (pn := 32) (l' := #[.val (.ref a), .val (.int p1), .val (.int b), .val (.int (b &&& ((127 : Int32) >>> (v4 &&& 31)))), .val (.int v4), .val (.int (1 : Int32))]) d5_30 rfl rfl ?_
    exact LP 3 _ X1 e1 _ _ _ _ hy.2 (by decide) (by decide) (by simp only [Int32.reduceToInt]; omega) hr
  · skip
    rw [if_neg h7] at hr
    exact EX _ X0 e0 _ _ _ _ hr
theorem d1_0 : decode prog_114_method_6_code 0 = .ok (.iload_n 0, 1) := by decide +kernel
theorem d1_1 : decode prog_114_method_6_code 1 = .ok (.sipush 128, 3) := by decide +kernel
theorem d1_4 : decode prog_114_method_6_code 4 = .ok (.if_icmp .ge 13, 3) := by decide +kernel
theorem d1_7 : decode prog_114_method_6_code 7 = .ok (.aload_n 1, 1) := by decide +kernel
theorem d1_8 : decode prog_114_method_6_code 8 = .ok (.iload_n 2, 1) := by decide +kernel
theorem d1_9 : decode prog_114_method_6_code 9 = .ok (.iload_n 0, 1) := by decide +kernel
theorem d1_10 : decode prog_114_method_6_code 10 = .ok (.i2b, 1) := by decide +kernel
theorem d1_11 : decode prog_114_method_6_code 11 = .ok (.bastore, 1) := by decide +kernel
theorem d1_12 : decode prog_114_method_6_code 12 = .ok (.iconst 1, 1) := by decide +kernel
theorem d1_13 : decode prog_114_method_6_code 13 = .ok (.istore_n 3, 1) := by decide +kernel
theorem d1_14 : decode prog_114_method_6_code 14 = .ok (.goto 157, 3) := by decide +kernel
theorem d1_17 : decode prog_114_method_6_code 17 = .ok (.iload_n 0, 1) := by decide +kernel
theorem d1_18 : decode prog_114_method_6_code 18 = .ok (.sipush 2048, 3) := by decide +kernel
theorem d1_21 : decode prog_114_method_6_code 21 = .ok (.if_icmp .ge 34, 3) := by decide +kernel
theorem d1_24 : decode prog_114_method_6_code 24 = .ok (.aload_n 1, 1) := by decide +kernel
theorem d1_25 : decode prog_114_method_6_code 25 = .ok (.iload_n 2, 1) := by decide +kernel
theorem d1_26 : decode prog_114_method_6_code 26 = .ok (.sipush 192, 3) := by decide +kernel
theorem d1_29 : decode prog_114_method_6_code 29 = .ok (.iload_n 0, 1) := by decide +kernel
theorem d1_30 : decode prog_114_method_6_code 30 = .ok (.bipush 6, 2) := by decide +kernel
theorem d1_32 : decode prog_114_method_6_code 32 = .ok (.iushr, 1) := by decide +kernel
theorem d1_33 : decode prog_114_method_6_code 33 = .ok (.ior, 1) := by decide +kernel
theorem d1_34 : decode prog_114_method_6_code 34 = .ok (.i2b, 1) := by decide +kernel
theorem d1_35 : decode prog_114_method_6_code 35 = .ok (.bastore, 1) := by decide +kernel
theorem d1_36 : decode prog_114_method_6_code 36 = .ok (.aload_n 1, 1) := by decide +kernel
theorem d1_37 : decode prog_114_method_6_code 37 = .ok (.iload_n 2, 1) := by decide +kernel
theorem d1_38 : decode prog_114_method_6_code 38 = .ok (.iconst 1, 1) := by decide +kernel
theorem d1_39 : decode prog_114_method_6_code 39 = .ok (.iadd, 1) := by decide +kernel
theorem d1_40 : decode prog_114_method_6_code 40 = .ok (.sipush 128, 3) := by decide +kernel
theorem d1_43 : decode prog_114_method_6_code 43 = .ok (.iload_n 0, 1) := by decide +kernel
theorem d1_44 : decode prog_114_method_6_code 44 = .ok (.bipush 63, 2) := by decide +kernel
theorem d1_46 : decode prog_114_method_6_code 46 = .ok (.iand, 1) := by decide +kernel
theorem d1_47 : decode prog_114_method_6_code 47 = .ok (.ior, 1) := by decide +kernel
theorem d1_48 : decode prog_114_method_6_code 48 = .ok (.i2b, 1) := by decide +kernel
theorem d1_49 : decode prog_114_method_6_code 49 = .ok (.bastore, 1) := by decide +kernel
theorem d1_50 : decode prog_114_method_6_code 50 = .ok (.iconst 2, 1) := by decide +kernel
theorem d1_51 : decode prog_114_method_6_code 51 = .ok (.istore_n 3, 1) := by decide +kernel
theorem d1_52 : decode prog_114_method_6_code 52 = .ok (.goto 119, 3) := by decide +kernel
theorem d1_55 : decode prog_114_method_6_code 55 = .ok (.iload_n 0, 1) := by decide +kernel
theorem d1_56 : decode prog_114_method_6_code 56 = .ok (.ldc 27, 2) := by decide +kernel
theorem d1_58 : decode prog_114_method_6_code 58 = .ok (.if_icmp .ge 51, 3) := by decide +kernel
theorem d1_61 : decode prog_114_method_6_code 61 = .ok (.aload_n 1, 1) := by decide +kernel
theorem d1_62 : decode prog_114_method_6_code 62 = .ok (.iload_n 2, 1) := by decide +kernel
theorem d1_63 : decode prog_114_method_6_code 63 = .ok (.sipush 224, 3) := by decide +kernel
theorem d1_66 : decode prog_114_method_6_code 66 = .ok (.iload_n 0, 1) := by decide +kernel
theorem d1_67 : decode prog_114_method_6_code 67 = .ok (.bipush 12, 2) := by decide +kernel
theorem d1_69 : decode prog_114_method_6_code 69 = .ok (.iushr, 1) := by decide +kernel
theorem d1_70 : decode prog_114_method_6_code 70 = .ok (.ior, 1) := by decide +kernel
theorem d1_71 : decode prog_114_method_6_code 71 = .ok (.i2b, 1) := by decide +kernel
theorem d1_72 : decode prog_114_method_6_code 72 = .ok (.bastore, 1) := by decide +kernel
theorem d1_73 : decode prog_114_method_6_code 73 = .ok (.aload_n 1, 1) := by decide +kernel
theorem d1_74 : decode prog_114_method_6_code 74 = .ok (.iload_n 2, 1) := by decide +kernel
theorem d1_75 : decode prog_114_method_6_code 75 = .ok (.iconst 1, 1) := by decide +kernel
theorem d1_76 : decode prog_114_method_6_code 76 = .ok (.iadd, 1) := by decide +kernel
theorem d1_77 : decode prog_114_method_6_code 77 = .ok (.sipush 128, 3) := by decide +kernel
theorem d1_80 : decode prog_114_method_6_code 80 = .ok (.iload_n 0, 1) := by decide +kernel
theorem d1_81 : decode prog_114_method_6_code 81 = .ok (.bipush 6, 2) := by decide +kernel
theorem d1_83 : decode prog_114_method_6_code 83 = .ok (.iushr, 1) := by decide +kernel
theorem d1_84 : decode prog_114_method_6_code 84 = .ok (.bipush 63, 2) := by decide +kernel
theorem d1_86 : decode prog_114_method_6_code 86 = .ok (.iand, 1) := by decide +kernel
theorem d1_87 : decode prog_114_method_6_code 87 = .ok (.ior, 1) := by decide +kernel
theorem d1_88 : decode prog_114_method_6_code 88 = .ok (.i2b, 1) := by decide +kernel
theorem d1_89 : decode prog_114_method_6_code 89 = .ok (.bastore, 1) := by decide +kernel
theorem d1_90 : decode prog_114_method_6_code 90 = .ok (.aload_n 1, 1) := by decide +kernel
theorem d1_91 : decode prog_114_method_6_code 91 = .ok (.iload_n 2, 1) := by decide +kernel
theorem d1_92 : decode prog_114_method_6_code 92 = .ok (.iconst 2, 1) := by decide +kernel
theorem d1_93 : decode prog_114_method_6_code 93 = .ok (.iadd, 1) := by decide +kernel
theorem d1_94 : decode prog_114_method_6_code 94 = .ok (.sipush 128, 3) := by decide +kernel
theorem d1_97 : decode prog_114_method_6_code 97 = .ok (.iload_n 0, 1) := by decide +kernel
theorem d1_98 : decode prog_114_method_6_code 98 = .ok (.bipush 63, 2) := by decide +kernel
theorem d1_100 : decode prog_114_method_6_code 100 = .ok (.iand, 1) := by decide +kernel
theorem d1_101 : decode prog_114_method_6_code 101 = .ok (.ior, 1) := by decide +kernel
theorem d1_102 : decode prog_114_method_6_code 102 = .ok (.i2b, 1) := by decide +kernel
theorem d1_103 : decode prog_114_method_6_code 103 = .ok (.bastore, 1) := by decide +kernel
theorem d1_104 : decode prog_114_method_6_code 104 = .ok (.iconst 3, 1) := by decide +kernel
theorem d1_105 : decode prog_114_method_6_code 105 = .ok (.istore_n 3, 1) := by decide +kernel
theorem d1_106 : decode prog_114_method_6_code 106 = .ok (.goto 65, 3) := by decide +kernel
theorem d1_109 : decode prog_114_method_6_code 109 = .ok (.aload_n 1, 1) := by decide +kernel
theorem d1_110 : decode prog_114_method_6_code 110 = .ok (.iload_n 2, 1) := by decide +kernel
theorem d1_111 : decode prog_114_method_6_code 111 = .ok (.sipush 240, 3) := by decide +kernel
theorem d1_114 : decode prog_114_method_6_code 114 = .ok (.iload_n 0, 1) := by decide +kernel
theorem d1_115 : decode prog_114_method_6_code 115 = .ok (.bipush 18, 2) := by decide +kernel
theorem d1_117 : decode prog_114_method_6_code 117 = .ok (.iushr, 1) := by decide +kernel
theorem d1_118 : decode prog_114_method_6_code 118 = .ok (.ior, 1) := by decide +kernel
theorem d1_119 : decode prog_114_method_6_code 119 = .ok (.i2b, 1) := by decide +kernel
theorem d1_120 : decode prog_114_method_6_code 120 = .ok (.bastore, 1) := by decide +kernel
theorem d1_121 : decode prog_114_method_6_code 121 = .ok (.aload_n 1, 1) := by decide +kernel
theorem d1_122 : decode prog_114_method_6_code 122 = .ok (.iload_n 2, 1) := by decide +kernel
theorem d1_123 : decode prog_114_method_6_code 123 = .ok (.iconst 1, 1) := by decide +kernel
theorem d1_124 : decode prog_114_method_6_code 124 = .ok (.iadd, 1) := by decide +kernel
theorem d1_125 : decode prog_114_method_6_code 125 = .ok (.sipush 128, 3) := by decide +kernel
theorem d1_128 : decode prog_114_method_6_code 128 = .ok (.iload_n 0, 1) := by decide +kernel
theorem d1_129 : decode prog_114_method_6_code 129 = .ok (.bipush 12, 2) := by decide +kernel
theorem d1_131 : decode prog_114_method_6_code 131 = .ok (.iushr, 1) := by decide +kernel
theorem d1_132 : decode prog_114_method_6_code 132 = .ok (.bipush 63, 2) := by decide +kernel
theorem d1_134 : decode prog_114_method_6_code 134 = .ok (.iand, 1) := by decide +kernel
theorem d1_135 : decode prog_114_method_6_code 135 = .ok (.ior, 1) := by decide +kernel
theorem d1_136 : decode prog_114_method_6_code 136 = .ok (.i2b, 1) := by decide +kernel
theorem d1_137 : decode prog_114_method_6_code 137 = .ok (.bastore, 1) := by decide +kernel
theorem d1_138 : decode prog_114_method_6_code 138 = .ok (.aload_n 1, 1) := by decide +kernel
theorem d1_139 : decode prog_114_method_6_code 139 = .ok (.iload_n 2, 1) := by decide +kernel
theorem d1_140 : decode prog_114_method_6_code 140 = .ok (.iconst 2, 1) := by decide +kernel
theorem d1_141 : decode prog_114_method_6_code 141 = .ok (.iadd, 1) := by decide +kernel
theorem d1_142 : decode prog_114_method_6_code 142 = .ok (.sipush 128, 3) := by decide +kernel
theorem d1_145 : decode prog_114_method_6_code 145 = .ok (.iload_n 0, 1) := by decide +kernel
theorem d1_146 : decode prog_114_method_6_code 146 = .ok (.bipush 6, 2) := by decide +kernel
theorem d1_148 : decode prog_114_method_6_code 148 = .ok (.iushr, 1) := by decide +kernel
theorem d1_149 : decode prog_114_method_6_code 149 = .ok (.bipush 63, 2) := by decide +kernel
theorem d1_151 : decode prog_114_method_6_code 151 = .ok (.iand, 1) := by decide +kernel
theorem d1_152 : decode prog_114_method_6_code 152 = .ok (.ior, 1) := by decide +kernel
theorem d1_153 : decode prog_114_method_6_code 153 = .ok (.i2b, 1) := by decide +kernel
theorem d1_154 : decode prog_114_method_6_code 154 = .ok (.bastore, 1) := by decide +kernel
theorem d1_155 : decode prog_114_method_6_code 155 = .ok (.aload_n 1, 1) := by decide +kernel
theorem d1_156 : decode prog_114_method_6_code 156 = .ok (.iload_n 2, 1) := by decide +kernel
theorem d1_157 : decode prog_114_method_6_code 157 = .ok (.iconst 3, 1) := by decide +kernel
theorem d1_158 : decode prog_114_method_6_code 158 = .ok (.iadd, 1) := by decide +kernel
theorem d1_159 : decode prog_114_method_6_code 159 = .ok (.sipush 128, 3) := by decide +kernel
theorem d1_162 : decode prog_114_method_6_code 162 = .ok (.iload_n 0, 1) := by decide +kernel
theorem d1_163 : decode prog_114_method_6_code 163 = .ok (.bipush 63, 2) := by decide +kernel
theorem d1_165 : decode prog_114_method_6_code 165 = .ok (.iand, 1) := by decide +kernel
theorem d1_166 : decode prog_114_method_6_code 166 = .ok (.ior, 1) := by decide +kernel
theorem d1_167 : decode prog_114_method_6_code 167 = .ok (.i2b, 1) := by decide +kernel
theorem d1_168 : decode prog_114_method_6_code 168 = .ok (.bastore, 1) := by decide +kernel
theorem d1_169 : decode prog_114_method_6_code 169 = .ok (.iconst 4, 1) := by decide +kernel
theorem d1_170 : decode prog_114_method_6_code 170 = .ok (.istore_n 3, 1) := by decide +kernel
theorem d1_171 : decode prog_114_method_6_code 171 = .ok (.iload_n 3, 1) := by decide +kernel
theorem d1_172 : decode prog_114_method_6_code 172 = .ok (.ireturn, 1) := by decide +kernel
def own_el (p0 : Int32) : Int32 := if p0 < (128 : Int32) then (1 : Int32) else if p0 < (2048 : Int32) then (2 : Int32) else if p0 < (65536 : Int32) then (3 : Int32) else (4 : Int32)
def own_enc (xs : List Int32) (p0 p2 : Int32) : List Int32 := if p0 < (128 : Int32) then ((xs).set (p2).toNatClampNeg (nar .byte (p0.toInt8.toInt32))) else if p0 < (2048 : Int32) then ((((xs).set (p2).toNatClampNeg (nar .byte (((192 : Int32) ||| (XT.ushr p0 (6 : Int32))).toInt8.toInt32)))).set ((p2 + (1 : Int32))).toNatClampNeg (nar .byte (((128 : Int32) ||| (p0 &&& (63 : Int32))).toInt8.toInt32))) else if p0 < (65536 : Int32) then ((((((xs).set (p2).toNatClampNeg (nar .byte (((224 : Int32) ||| (XT.ushr p0 (12 : Int32))).toInt8.toInt32)))).set ((p2 + (1 : Int32))).toNatClampNeg (nar .byte (((128 : Int32) ||| ((XT.ushr p0 (6 : Int32)) &&& (63 : Int32))).toInt8.toInt32)))).set ((p2 + (2 : Int32))).toNatClampNeg (nar .byte (((128 : Int32) ||| (p0 &&& (63 : Int32))).toInt8.toInt32))) else ((((((((xs).set (p2).toNatClampNeg (nar .byte (((240 : Int32) ||| (XT.ushr p0 (18 : Int32))).toInt8.toInt32)))).set ((p2 + (1 : Int32))).toNatClampNeg (nar .byte (((128 : Int32) ||| ((XT.ushr p0 (12 : Int32)) &&& (63 : Int32))).toInt8.toInt32)))).set ((p2 + (2 : Int32))).toNatClampNeg (nar .byte (((128 : Int32) ||| ((XT.ushr p0 (6 : Int32)) &&& (63 : Int32))).toInt8.toInt32)))).set ((p2 + (3 : Int32))).toNatClampNeg (nar .byte (((128 : Int32) ||| (p0 &&& (63 : Int32))).toInt8.toInt32)))
theorem ef_1 (m : MethodId) (p0 : Int32) (a : Addr) (p2 : Int32) : entryFrame m #[(.int p0), (.ref a), (.int p2)] 4 = mkF m 0 #[.val (.int p0), .val (.ref a), .val (.int p2), .unset] [] := by first | (simp [entryFrame, mkF, argsToLocals, Value.category]; done) | rfl
set_option maxRecDepth 65536 in
set_option maxHeartbeats 40000000 in
theorem rm_enc (l : Launch) (Z : State) (a0 : Array Value) (hw : ∀ d ∈ tables_1, d.before a0 Z = true) (p0 : Int32) (a : Addr) (p2 : Int32) (xs : List Int32) (h0 : Heap) (n0 : Nat) (A : OwnGo.Ia Z h0 a .byte xs) (ho : n0 ≤ a) (hlen : xs.length = 8) (g1 : 0 ≤ p2.toInt) (g2 : p2.toInt ≤ 3) (w : Addr) (ys : List Int32) (S : Sta Z h0 "com/example/hedge_index/hedgeindex/xml/Utf8" "LENGTHS" "[B" (.ref w)) (AL : OwnGo.Ia Z h0 w .byte ys) (ne_w_a : w ≠ a) :
    OwnGo.Con l (⟨"com/example/hedge_index/hedgeindex/xml/Utf8", "encode", "(I[BI)I"⟩ : MethodName) prog_114_method_6_code 4 (some .int) (OwnGo.rmP 0 0) Z #[(.int p0), (.ref a), (.int p2)] h0 (fun v h L => v = some (.int (own_el p0)) ∧ Fr n0 L ∧ OwnGo.Ia Z h a .byte (own_enc xs p0 p2) ∧ OwnGo.Ia Z h w .byte ys ∧ Sta Z h "com/example/hedge_index/hedgeindex/xml/Utf8" "LENGTHS" "[B" (.ref w)) := by
  refine OwnGo.Con.intro (plainFor_of_name pn_0) ?_
  intro p e s m below meth c T0 X0 hx hby hml hZ hown hnm hret hlk e0
  refine OwnGo.Go.cast (ef_1 m p0 a p2) ?_
  have i0 := own_i0 p2 (by omega) (by omega)
  have i1 := own_iy p2 1 1 (by decide) (by omega) (by omega)
  have i2 := own_iy p2 2 2 (by decide) (by omega) (by omega)
  have i3 := own_iy p2 3 3 (by decide) (by omega) (by omega)
  have N0 := Fr.nil n0
  have Aa_0 : OwnGo.Ia Z T0.heap a .byte xs := by rw [e0]; exact A
  have Aw_0 : OwnGo.Ia Z T0.heap w .byte ys := by rw [e0]; exact AL
  have S_0 : Sta Z T0.heap "com/example/hedge_index/hedgeindex/xml/Utf8" "LENGTHS" "[B" (.ref w) := by rw [e0]; exact S
  have W0 : OwnGo.Wk p.tables T0 m c below prog_114_method_6_code := ⟨X0.here, hx, hby⟩
  refine OwnGo.iloadN W0 (pn := 1) d1_0 rfl rfl ?_
  refine OwnGo.sipush (v := (128 : Int32)) W0 (pn := 4) d1_1 rfl rfl ?_
  refine OwnGo.icmp_ge W0 (pn := 7) (pt := 17) d1_4 rfl (by decide) (by decide) (fun h4 => ?_) (fun h4 => ?_)
  · skip
    have es : own_enc xs p0 p2 = ((xs).set (p2).toNatClampNeg (nar .byte (p0.toInt8.toInt32))) := by unfold own_enc; rw [if_pos h4]
    have el : own_el p0 = (1 : Int32) := by unfold own_el; rw [if_pos h4]
    refine OwnGo.aloadN W0 (pn := 8) d1_7 rfl rfl rfl ?_
    refine OwnGo.iloadN W0 (pn := 9) d1_8 rfl rfl ?_
    refine OwnGo.iloadN W0 (pn := 10) d1_9 rfl rfl ?_
    refine OwnGo.i2b W0 (pn := 11) d1_10 rfl ?_
    refine OwnGo.bastoreB X0 hx hby hZ (pn := 12) Aa_0 i0.1 (by rw [hlen]; exact i0.2.1) ho N0 d1_11 rfl (fun T1 L1 X1 N1 Aa_1 Wr1 => ?_)
    have Aw_1 := Aw_0.other Wr1 ne_w_a
    have S_1 : Sta Z T1.heap "com/example/hedge_index/hedgeindex/xml/Utf8" "LENGTHS" "[B" (.ref w) := S_0.wr Wr1
    have W1 : OwnGo.Wk p.tables T1 m c below prog_114_method_6_code := ⟨X1.here, hx, hby⟩
    refine OwnGo.iconst (v := (1 : Int32)) W1 (pn := 13) d1_12 rfl rfl ?_
    refine OwnGo.istoreN W1 (pn := 14) (l' := #[.val (.int p0), .val (.ref a), .val (.int p2), .val (.int (1 : Int32))]) d1_13 rfl rfl ?_
    refine OwnGo.goto W1 (pt := 171) d1_14 (by decide) (by decide) ?_
    refine OwnGo.iloadN W1 (pn := 172) d1_171 rfl rfl ?_
    exact OwnGo.ireturn X1 hx hby hret hlk rfl (by simp) d1_172 ⟨by rw [el], N1, by rw [es]; exact Aa_1, Aw_1, S_1⟩ (by decide) (by decide)
  · skip
    refine OwnGo.iloadN W0 (pn := 18) d1_17 rfl rfl ?_
    refine OwnGo.sipush (v := (2048 : Int32)) W0 (pn := 21) d1_18 rfl rfl ?_
    refine OwnGo.icmp_ge W0 (pn := 24) (pt := 55) d1_21 rfl (by decide) (by decide) (fun h21 => ?_) (fun h21 => ?_)
    · skip
      have es : own_enc xs p0 p2 = ((((xs).set (p2).toNatClampNeg (nar .byte (((192 : Int32) ||| (XT.ushr p0 (6 : Int32))).toInt8.toInt32)))).set ((p2 + (1 : Int32))).toNatClampNeg (nar .byte (((128 : Int32) ||| (p0 &&& (63 : Int32))).toInt8.toInt32))) := by unfold own_enc; rw [if_neg h4]; rw [if_pos h21]
      have el : own_el p0 = (2 : Int32) := by unfold own_el; rw [if_neg h4]; rw [if_pos h21]
      refine OwnGo.aloadN W0 (pn := 25) d1_24 rfl rfl rfl ?_
      refine OwnGo.iloadN W0 (pn := 26) d1_25 rfl rfl ?_
      refine OwnGo.sipush (v := (192 : Int32)) W0 (pn := 29) d1_26 rfl rfl ?_
      refine OwnGo.iloadN W0 (pn := 30) d1_29 rfl rfl ?_
      refine OwnGo.bipush (v := (6 : Int32)) W0 (pn := 32) d1_30 rfl rfl ?_
      refine OwnGo.iushr W0 (pn := 33) d1_32 rfl ?_
      refine OwnGo.ior W0 (pn := 34) d1_33 rfl ?_
      refine OwnGo.i2b W0 (pn := 35) d1_34 rfl ?_
      refine OwnGo.bastoreB X0 hx hby hZ (pn := 36) Aa_0 i0.1 (by rw [hlen]; exact i0.2.1) ho N0 d1_35 rfl (fun T2 L2 X2 N2 Aa_2 Wr2 => ?_)
      have Aw_2 := Aw_0.other Wr2 ne_w_a
      have S_2 : Sta Z T2.heap "com/example/hedge_index/hedgeindex/xml/Utf8" "LENGTHS" "[B" (.ref w) := S_0.wr Wr2
      have W2 : OwnGo.Wk p.tables T2 m c below prog_114_method_6_code := ⟨X2.here, hx, hby⟩
      refine OwnGo.aloadN W2 (pn := 37) d1_36 rfl rfl rfl ?_
      refine OwnGo.iloadN W2 (pn := 38) d1_37 rfl rfl ?_
      refine OwnGo.iconst (v := (1 : Int32)) W2 (pn := 39) d1_38 rfl rfl ?_
      refine OwnGo.iadd W2 (pn := 40) d1_39 rfl ?_
      refine OwnGo.sipush (v := (128 : Int32)) W2 (pn := 43) d1_40 rfl rfl ?_
      refine OwnGo.iloadN W2 (pn := 44) d1_43 rfl rfl ?_
      refine OwnGo.bipush (v := (63 : Int32)) W2 (pn := 46) d1_44 rfl rfl ?_
      refine OwnGo.iand W2 (pn := 47) d1_46 rfl ?_
      refine OwnGo.ior W2 (pn := 48) d1_47 rfl ?_
      refine OwnGo.i2b W2 (pn := 49) d1_48 rfl ?_
      refine OwnGo.bastoreB X2 hx hby hZ (pn := 50) Aa_2 i1.1 (by simp only [List.length_set]; rw [hlen]; exact i1.2.1) ho N2 d1_49 rfl (fun T3 L3 X3 N3 Aa_3 Wr3 => ?_)
      have Aw_3 := Aw_2.other Wr3 ne_w_a
      have S_3 : Sta Z T3.heap "com/example/hedge_index/hedgeindex/xml/Utf8" "LENGTHS" "[B" (.ref w) := S_2.wr Wr3
      have W3 : OwnGo.Wk p.tables T3 m c below prog_114_method_6_code := ⟨X3.here, hx, hby⟩
      refine OwnGo.iconst (v := (2 : Int32)) W3 (pn := 51) d1_50 rfl rfl ?_
      refine OwnGo.istoreN W3 (pn := 52) (l' := #[.val (.int p0), .val (.ref a), .val (.int p2), .val (.int (2 : Int32))]) d1_51 rfl rfl ?_
      refine OwnGo.goto W3 (pt := 171) d1_52 (by decide) (by decide) ?_
      refine OwnGo.iloadN W3 (pn := 172) d1_171 rfl rfl ?_
      exact OwnGo.ireturn X3 hx hby hret hlk rfl (by simp) d1_172 ⟨by rw [el], N3, by rw [es]; exact Aa_3, Aw_3, S_3⟩ (by decide) (by decide)
    · skip
      refine OwnGo.iloadN W0 (pn := 56) d1_55 rfl rfl ?_
      refine OwnGo.ldcI X0 hx hby hZ hown (pn := 58) (hw _ (List.mem_of_getElem? (i := 23) rfl)) d1_56 rfl ?_
      refine OwnGo.icmp_ge W0 (pn := 61) (pt := 109) d1_58 rfl (by decide) (by decide) (fun h58 => ?_) (fun h58 => ?_)
      · skip
        have es : own_enc xs p0 p2 = ((((((xs).set (p2).toNatClampNeg (nar .byte (((224 : Int32) ||| (XT.ushr p0 (12 : Int32))).toInt8.toInt32)))).set ((p2 + (1 : Int32))).toNatClampNeg (nar .byte (((128 : Int32) ||| ((XT.ushr p0 (6 : Int32)) &&& (63 : Int32))).toInt8.toInt32)))).set ((p2 + (2 : Int32))).toNatClampNeg (nar .byte (((128 : Int32) ||| (p0 &&& (63 : Int32))).toInt8.toInt32))) := by unfold own_enc; rw [if_neg h4]; rw [if_neg h21]; rw [if_pos h58]
        have el : own_el p0 = (3 : Int32) := by unfold own_el; rw [if_neg h4]; rw [if_neg h21]; rw [if_pos h58]
        refine OwnGo.aloadN W0 (pn := 62) d1_61 rfl rfl rfl ?_
        refine OwnGo.iloadN W0 (pn := 63) d1_62 rfl rfl ?_
        refine OwnGo.sipush (v := (224 : Int32)) W0 (pn := 66) d1_63 rfl rfl ?_
        refine OwnGo.iloadN W0 (pn := 67) d1_66 rfl rfl ?_
        refine OwnGo.bipush (v := (12 : Int32)) W0 (pn := 69) d1_67 rfl rfl ?_
        refine OwnGo.iushr W0 (pn := 70) d1_69 rfl ?_
        refine OwnGo.ior W0 (pn := 71) d1_70 rfl ?_
        refine OwnGo.i2b W0 (pn := 72) d1_71 rfl ?_
        refine OwnGo.bastoreB X0 hx hby hZ (pn := 73) Aa_0 i0.1 (by rw [hlen]; exact i0.2.1) ho N0 d1_72 rfl (fun T4 L4 X4 N4 Aa_4 Wr4 => ?_)
        have Aw_4 := Aw_0.other Wr4 ne_w_a
        have S_4 : Sta Z T4.heap "com/example/hedge_index/hedgeindex/xml/Utf8" "LENGTHS" "[B" (.ref w) := S_0.wr Wr4
        have W4 : OwnGo.Wk p.tables T4 m c below prog_114_method_6_code := ⟨X4.here, hx, hby⟩
        refine OwnGo.aloadN W4 (pn := 74) d1_73 rfl rfl rfl ?_
        refine OwnGo.iloadN W4 (pn := 75) d1_74 rfl rfl ?_
        refine OwnGo.iconst (v := (1 : Int32)) W4 (pn := 76) d1_75 rfl rfl ?_
        refine OwnGo.iadd W4 (pn := 77) d1_76 rfl ?_
        refine OwnGo.sipush (v := (128 : Int32)) W4 (pn := 80) d1_77 rfl rfl ?_
        refine OwnGo.iloadN W4 (pn := 81) d1_80 rfl rfl ?_
        refine OwnGo.bipush (v := (6 : Int32)) W4 (pn := 83) d1_81 rfl rfl ?_
        refine OwnGo.iushr W4 (pn := 84) d1_83 rfl ?_
        refine OwnGo.bipush (v := (63 : Int32)) W4 (pn := 86) d1_84 rfl rfl ?_
        refine OwnGo.iand W4 (pn := 87) d1_86 rfl ?_
        refine OwnGo.ior W4 (pn := 88) d1_87 rfl ?_
        refine OwnGo.i2b W4 (pn := 89) d1_88 rfl ?_
        refine OwnGo.bastoreB X4 hx hby hZ (pn := 90) Aa_4 i1.1 (by simp only [List.length_set]; rw [hlen]; exact i1.2.1) ho N4 d1_89 rfl (fun T5 L5 X5 N5 Aa_5 Wr5 => ?_)
        have Aw_5 := Aw_4.other Wr5 ne_w_a
        have S_5 : Sta Z T5.heap "com/example/hedge_index/hedgeindex/xml/Utf8" "LENGTHS" "[B" (.ref w) := S_4.wr Wr5
        have W5 : OwnGo.Wk p.tables T5 m c below prog_114_method_6_code := ⟨X5.here, hx, hby⟩
        refine OwnGo.aloadN W5 (pn := 91) d1_90 rfl rfl rfl ?_
        refine OwnGo.iloadN W5 (pn := 92) d1_91 rfl rfl ?_
        refine OwnGo.iconst (v := (2 : Int32)) W5 (pn := 93) d1_92 rfl rfl ?_
        refine OwnGo.iadd W5 (pn := 94) d1_93 rfl ?_
        refine OwnGo.sipush (v := (128 : Int32)) W5 (pn := 97) d1_94 rfl rfl ?_
        refine OwnGo.iloadN W5 (pn := 98) d1_97 rfl rfl ?_
        refine OwnGo.bipush (v := (63 : Int32)) W5 (pn := 100) d1_98 rfl rfl ?_
        refine OwnGo.iand W5 (pn := 101) d1_100 rfl ?_
        refine OwnGo.ior W5 (pn := 102) d1_101 rfl ?_
        refine OwnGo.i2b W5 (pn := 103) d1_102 rfl ?_
        refine OwnGo.bastoreB X5 hx hby hZ (pn := 104) Aa_5 i2.1 (by simp only [List.length_set]; rw [hlen]; exact i2.2.1) ho N5 d1_103 rfl (fun T6 L6 X6 N6 Aa_6 Wr6 => ?_)
        have Aw_6 := Aw_5.other Wr6 ne_w_a
        have S_6 : Sta Z T6.heap "com/example/hedge_index/hedgeindex/xml/Utf8" "LENGTHS" "[B" (.ref w) := S_5.wr Wr6
        have W6 : OwnGo.Wk p.tables T6 m c below prog_114_method_6_code := ⟨X6.here, hx, hby⟩
        refine OwnGo.iconst (v := (3 : Int32)) W6 (pn := 105) d1_104 rfl rfl ?_
        refine OwnGo.istoreN W6 (pn := 106) (l' := #[.val (.int p0), .val (.ref a), .val (.int p2), .val (.int (3 : Int32))]) d1_105 rfl rfl ?_
        refine OwnGo.goto W6 (pt := 171) d1_106 (by decide) (by decide) ?_
        refine OwnGo.iloadN W6 (pn := 172) d1_171 rfl rfl ?_
        exact OwnGo.ireturn X6 hx hby hret hlk rfl (by simp) d1_172 ⟨by rw [el], N6, by rw [es]; exact Aa_6, Aw_6, S_6⟩ (by decide) (by decide)
      · skip
        have es : own_enc xs p0 p2 = ((((((((xs).set (p2).toNatClampNeg (nar .byte (((240 : Int32) ||| (XT.ushr p0 (18 : Int32))).toInt8.toInt32)))).set ((p2 + (1 : Int32))).toNatClampNeg (nar .byte (((128 : Int32) ||| ((XT.ushr p0 (12 : Int32)) &&& (63 : Int32))).toInt8.toInt32)))).set ((p2 + (2 : Int32))).toNatClampNeg (nar .byte (((128 : Int32) ||| ((XT.ushr p0 (6 : Int32)) &&& (63 : Int32))).toInt8.toInt32)))).set ((p2 + (3 : Int32))).toNatClampNeg (nar .byte (((128 : Int32) ||| (p0 &&& (63 : Int32))).toInt8.toInt32))) := by unfold own_enc; rw [if_neg h4]; rw [if_neg h21]; rw [if_neg h58]
        have el : own_el p0 = (4 : Int32) := by unfold own_el; rw [if_neg h4]; rw [if_neg h21]; rw [if_neg h58]
        refine OwnGo.aloadN W0 (pn := 110) d1_109 rfl rfl rfl ?_
        refine OwnGo.iloadN W0 (pn := 111) d1_110 rfl rfl ?_
        refine OwnGo.sipush (v := (240 : Int32)) W0 (pn := 114) d1_111 rfl rfl ?_
        refine OwnGo.iloadN W0 (pn := 115) d1_114 rfl rfl ?_
        refine OwnGo.bipush (v := (18 : Int32)) W0 (pn := 117) d1_115 rfl rfl ?_
        refine OwnGo.iushr W0 (pn := 118) d1_117 rfl ?_
        refine OwnGo.ior W0 (pn := 119) d1_118 rfl ?_
        refine OwnGo.i2b W0 (pn := 120) d1_119 rfl ?_
        refine OwnGo.bastoreB X0 hx hby hZ (pn := 121) Aa_0 i0.1 (by rw [hlen]; exact i0.2.1) ho N0 d1_120 rfl (fun T7 L7 X7 N7 Aa_7 Wr7 => ?_)
        have Aw_7 := Aw_0.other Wr7 ne_w_a
        have S_7 : Sta Z T7.heap "com/example/hedge_index/hedgeindex/xml/Utf8" "LENGTHS" "[B" (.ref w) := S_0.wr Wr7
        have W7 : OwnGo.Wk p.tables T7 m c below prog_114_method_6_code := ⟨X7.here, hx, hby⟩
        refine OwnGo.aloadN W7 (pn := 122) d1_121 rfl rfl rfl ?_
        refine OwnGo.iloadN W7 (pn := 123) d1_122 rfl rfl ?_
        refine OwnGo.iconst (v := (1 : Int32)) W7 (pn := 124) d1_123 rfl rfl ?_
        refine OwnGo.iadd W7 (pn := 125) d1_124 rfl ?_
        refine OwnGo.sipush (v := (128 : Int32)) W7 (pn := 128) d1_125 rfl rfl ?_
        refine OwnGo.iloadN W7 (pn := 129) d1_128 rfl rfl ?_
        refine OwnGo.bipush (v := (12 : Int32)) W7 (pn := 131) d1_129 rfl rfl ?_
        refine OwnGo.iushr W7 (pn := 132) d1_131 rfl ?_
        refine OwnGo.bipush (v := (63 : Int32)) W7 (pn := 134) d1_132 rfl rfl ?_
        refine OwnGo.iand W7 (pn := 135) d1_134 rfl ?_
        refine OwnGo.ior W7 (pn := 136) d1_135 rfl ?_
        refine OwnGo.i2b W7 (pn := 137) d1_136 rfl ?_
        refine OwnGo.bastoreB X7 hx hby hZ (pn := 138) Aa_7 i1.1 (by simp only [List.length_set]; rw [hlen]; exact i1.2.1) ho N7 d1_137 rfl (fun T8 L8 X8 N8 Aa_8 Wr8 => ?_)
        have Aw_8 := Aw_7.other Wr8 ne_w_a
        have S_8 : Sta Z T8.heap "com/example/hedge_index/hedgeindex/xml/Utf8" "LENGTHS" "[B" (.ref w) := S_7.wr Wr8
        have W8 : OwnGo.Wk p.tables T8 m c below prog_114_method_6_code := ⟨X8.here, hx, hby⟩
        refine OwnGo.aloadN W8 (pn := 139) d1_138 rfl rfl rfl ?_
        refine OwnGo.iloadN W8 (pn := 140) d1_139 rfl rfl ?_
        refine OwnGo.iconst (v := (2 : Int32)) W8 (pn := 141) d1_140 rfl rfl ?_
        refine OwnGo.iadd W8 (pn := 142) d1_141 rfl ?_
        refine OwnGo.sipush (v := (128 : Int32)) W8 (pn := 145) d1_142 rfl rfl ?_
        refine OwnGo.iloadN W8 (pn := 146) d1_145 rfl rfl ?_
        refine OwnGo.bipush (v := (6 : Int32)) W8 (pn := 148) d1_146 rfl rfl ?_
        refine OwnGo.iushr W8 (pn := 149) d1_148 rfl ?_
        refine OwnGo.bipush (v := (63 : Int32)) W8 (pn := 151) d1_149 rfl rfl ?_
        refine OwnGo.iand W8 (pn := 152) d1_151 rfl ?_
        refine OwnGo.ior W8 (pn := 153) d1_152 rfl ?_
        refine OwnGo.i2b W8 (pn := 154) d1_153 rfl ?_
        refine OwnGo.bastoreB X8 hx hby hZ (pn := 155) Aa_8 i2.1 (by simp only [List.length_set]; rw [hlen]; exact i2.2.1) ho N8 d1_154 rfl (fun T9 L9 X9 N9 Aa_9 Wr9 => ?_)
        have Aw_9 := Aw_8.other Wr9 ne_w_a
        have S_9 : Sta Z T9.heap "com/example/hedge_index/hedgeindex/xml/Utf8" "LENGTHS" "[B" (.ref w) := S_8.wr Wr9
        have W9 : OwnGo.Wk p.tables T9 m c below prog_114_method_6_code := ⟨X9.here, hx, hby⟩
        refine OwnGo.aloadN W9 (pn := 156) d1_155 rfl rfl rfl ?_
        refine OwnGo.iloadN W9 (pn := 157) d1_156 rfl rfl ?_
        refine OwnGo.iconst (v := (3 : Int32)) W9 (pn := 158) d1_157 rfl rfl ?_
        refine OwnGo.iadd W9 (pn := 159) d1_158 rfl ?_
        refine OwnGo.sipush (v := (128 : Int32)) W9 (pn := 162) d1_159 rfl rfl ?_
        refine OwnGo.iloadN W9 (pn := 163) d1_162 rfl rfl ?_
        refine OwnGo.bipush (v := (63 : Int32)) W9 (pn := 165) d1_163 rfl rfl ?_
        refine OwnGo.iand W9 (pn := 166) d1_165 rfl ?_
        refine OwnGo.ior W9 (pn := 167) d1_166 rfl ?_
        refine OwnGo.i2b W9 (pn := 168) d1_167 rfl ?_
        refine OwnGo.bastoreB X9 hx hby hZ (pn := 169) Aa_9 i3.1 (by simp only [List.length_set]; rw [hlen]; exact i3.2.1) ho N9 d1_168 rfl (fun T10 L10 X10 N10 Aa_10 Wr10 => ?_)
        have Aw_10 := Aw_9.other Wr10 ne_w_a
        have S_10 : Sta Z T10.heap "com/example/hedge_index/hedgeindex/xml/Utf8" "LENGTHS" "[B" (.ref w) := S_9.wr Wr10
        have W10 : OwnGo.Wk p.tables T10 m c below prog_114_method_6_code := ⟨X10.here, hx, hby⟩
        refine OwnGo.iconst (v := (4 : Int32)) W10 (pn := 170) d1_169 rfl rfl ?_
        refine OwnGo.istoreN W10 (pn := 171) (l' := #[.val (.int p0), .val (.ref a), .val (.int p2), .val (.int (4 : Int32))]) d1_170 rfl rfl ?_
        refine OwnGo.iloadN W10 (pn := 172) d1_171 rfl rfl ?_
        exact OwnGo.ireturn X10 hx hby hret hlk rfl (by simp) d1_172 ⟨by rw [el], N10, by rw [es]; exact Aa_10, Aw_10, S_10⟩ (by decide) (by decide)
def own_Q (n0 : Nat) (v : Option Value) (h : Heap) (L : List Loc) : Prop := v = some (.int (1 : Int32)) ∧ Fr n0 L
def own_t_502 : Int32 := (0 : Int32)
def own_t_378 : Int32 := (0 : Int32)
def own_t_332 (ys : List Int32) (xs : List Int32) (cp : Int32) (ix : Int32) (fb : Int32) (ln : Int32) (v13 : Int32) : Int32 := (if v13 = (0 : Int32) then (0 : Int32) else (if (own_cont xs ix (1 : Int32) ln) = (0 : Int32) then (own_t_378) else (if (own_cont xs ix (2 : Int32) ln) = (0 : Int32) then (own_t_378) else (if (own_cont xs ix (3 : Int32) ln) = (0 : Int32) then (own_t_378) else (if (own_unt xs (0 : Int32) ix ln fb) = (0 : Int32) then (own_t_502) else (if (own_unt xs (1 : Int32) ix ln fb) = (0 : Int32) then (own_t_502) else (if (own_unt xs (2 : Int32) ix ln fb) = (0 : Int32) then (own_t_502) else (if (own_unt xs (3 : Int32) ix ln fb) = (0 : Int32) then (own_t_502) else (if (own_unt xs (4 : Int32) ix ln fb) = (0 : Int32) then (own_t_502) else (if (own_unt xs (5 : Int32) ix ln fb) = (0 : Int32) then (own_t_502) else (if (own_unt xs (6 : Int32) ix ln fb) = (0 : Int32) then (own_t_502) else (if (own_unt xs (7 : Int32) ix ln fb) = (0 : Int32) then (own_t_502) else (if (own_cpa ys xs ix) = cp then (1 : Int32) else (0 : Int32))))))))))))))
def own_t_330 (ys : List Int32) (xs : List Int32) (cp : Int32) (ix : Int32) (fb : Int32) (ln : Int32) (s0 : Int32) : Int32 := (own_t_332 ys xs cp ix fb ln s0)
def own_t_308 (ys : List Int32) (xs : List Int32) (cp : Int32) (ix : Int32) (fb : Int32) (ln : Int32) (s0 : Int32) : Int32 := (own_t_332 ys xs cp ix fb ln s0)
def own_t_280 (ys : List Int32) (xs : List Int32) (cp : Int32) (ix : Int32) (fb : Int32) (ln : Int32) (s0 : Int32) : Int32 := (own_t_332 ys xs cp ix fb ln s0)
def own_t_252 (ys : List Int32) (xs : List Int32) (cp : Int32) (ix : Int32) (fb : Int32) (ln : Int32) (s0 : Int32) : Int32 := (own_t_332 ys xs cp ix fb ln s0)
def own_t_197 (ys : List Int32) (xs : List Int32) (cp : Int32) (el : Int32) (ix : Int32) (fb : Int32) (ln : Int32) : Int32 := (if ln = el then (if (own_seq ys (xs.getD (ix).toNatClampNeg 0)) = ln then (if ln = (1 : Int32) then (if (((xs.getD (ix).toNatClampNeg 0) &&& (255 : Int32)) &&& (128 : Int32)) = (0 : Int32) then (own_t_252 ys xs cp ix fb ln (1 : Int32)) else (own_t_252 ys xs cp ix fb ln (0 : Int32))) else (if ln = (2 : Int32) then (if (((xs.getD (ix).toNatClampNeg 0) &&& (255 : Int32)) &&& (224 : Int32)) = (192 : Int32) then (own_t_280 ys xs cp ix fb ln (1 : Int32)) else (own_t_280 ys xs cp ix fb ln (0 : Int32))) else (if ln = (3 : Int32) then (if (((xs.getD (ix).toNatClampNeg 0) &&& (255 : Int32)) &&& (240 : Int32)) = (224 : Int32) then (own_t_308 ys xs cp ix fb ln (1 : Int32)) else (own_t_308 ys xs cp ix fb ln (0 : Int32))) else (if (((xs.getD (ix).toNatClampNeg 0) &&& (255 : Int32)) &&& (248 : Int32)) = (240 : Int32) then (own_t_330 ys xs cp ix fb ln (1 : Int32)) else (own_t_330 ys xs cp ix fb ln (0 : Int32)))))) else (0 : Int32)) else (0 : Int32))
set_option maxRecDepth 65536 in
set_option maxHeartbeats 40000000 in
theorem own_tail (l : Launch) (Z : State) (a0 : Array Value) (hw : ∀ d ∈ tables_1, d.before a0 Z = true) (p : Program) (e : Env) (s : State) (m : MethodId) (below : List Frame) (meth : Method) (c : Code) (T0 : State) (L : List Loc) (p0 p1 p2 p3 kd vv cp el ix fb ln r : Int32) (b w : Addr) (ys xs : List Int32) (hT : Heap) (n0 : Nat)
    (X0 : Stand p l e room_1 s m #[(.int p0), (.int p1), (.int p2), (.int p3)] below meth c T0 L 1 8) (hx : p.tables.exec = Jvm.exec) (hby : c.code = code) (hml : c.maxLocals = maxLocals) (hZ : Z.Warmed39 s.vm) (hown : s.vm.findClass x.cls = some m.cls) (hret : meth.sig.returnType = ret) (hlk : meth.locks = false) (e0 : T0.heap = hT) (S : Sta Z hT "com/example/hedge_index/hedgeindex/xml/Utf8" "LENGTHS" "[B" (.ref w)) (AL : OwnGo.Ia Z hT w .byte ys) (hlY : ys.length = 256) (hys : ∀ k : Nat, k < 256 → 1 ≤ (ys.getD k 0).toInt ∧ (ys.getD k 0).toInt ≤ 4) (A : OwnGo.Ia Z hT b .byte xs) (hlen : xs.length = 8) (g1 : 0 ≤ ix.toInt) (g2 : ix.toInt ≤ 3) (hfin : own_Q n0 (some (.int r)) hT L)
    (hr : own_t_197 ys xs cp el ix fb ln = r) : OwnGo.Go p.tables e below (OwnGo.Qe s room_1 (own_Q n0)) (T0.setTop (mkF m 197 #[.val (.int p0), .val (.int p1), .val (.int p2), .val (.int p3), .val (.int kd), .val (.int vv), .val (.int cp), .val (.int el), .val (.int ix), .val (.int fb), .val (.ref b), .val (.int ln), .unset, .unset] [])) := by
  have B502 : ∀ (T0 : State) (X0 : Stand p l e room_1 s m #[(.int p0), (.int p1), (.int p2), (.int p3)] below meth c T0 L 1 8) (e0 : T0.heap = hT) (v12 : Int32) (v13 : Int32), own_t_502 = r → OwnGo.Go p.tables e below (OwnGo.Qe s room_1 (own_Q n0)) (T0.setTop (mkF m 502 #[.val (.int p0), .val (.int p1), .val (.int p2), .val (.int p3), .val (.int kd), .val (.int vv), .val (.int cp), .val (.int el), .val (.int ix), .val (.int fb), .val (.ref b), .val (.int ln), .val (.int v12), .val (.int v13)] [])) := by
    intro T0 X0 e0 v12 v13 hr
    unfold own_t_502 at hr
    have W0 : OwnGo.Wk p.tables T0 m c below code := ⟨X0.here, hx, hby⟩
    refine OwnGo.iconst (v := (0 : Int32)) W0 (pn := 503) at_502 rfl rfl ?_
    exact OwnGo.ireturn X0 hx hby hret hlk rfl (by simp) at_503 (OwnGo.fin_of hr e0 hfin) (by decide) (by decide)
  have B378 : ∀ (T0 : State) (X0 : Stand p l e room_1 s m #[(.int p0), (.int p1), (.int p2), (.int p3)] below meth c T0 L 1 8) (e0 : T0.heap = hT) (v12 : Int32) (v13 : Int32), own_t_378 = r → OwnGo.Go p.tables e below (OwnGo.Qe s room_1 (own_Q n0)) (T0.setTop (mkF m 378 #[.val (.int p0), .val (.int p1), .val (.int p2), .val (.int p3), .val (.int kd), .val (.int vv), .val (.int cp), .val (.int el), .val (.int ix), .val (.int fb), .val (.ref b), .val (.int ln), .val (.int v12), .val (.int v13)] [])) := by
    intro T0 X0 e0 v12 v13 hr
    unfold own_t_378 at hr
    have W0 : OwnGo.Wk p.tables T0 m c below code := ⟨X0.here, hx, hby⟩
    refine OwnGo.iconst (v := (0 : Int32)) W0 (pn := 379) at_378 rfl rfl ?_
    exact OwnGo.ireturn X0 hx hby hret hlk rfl (by simp) at_379 (OwnGo.fin_of hr e0 hfin) (by decide) (by decide)
  have B332 : ∀ (T0 : State) (X0 : Stand p l e room_1 s m #[(.int p0), (.int p1), (.int p2), (.int p3)] below meth c T0 L 1 8) (e0 : T0.heap = hT) (v12 : Int32) (v13 : Int32), own_t_332 ys xs cp ix fb ln v13 = r → OwnGo.Go p.tables e below (OwnGo.Qe s room_1 (own_Q n0)) (T0.setTop (mkF m 332 #[.val (.int p0), .val (.int p1), .val (.int p2), .val (.int p3), .val (.int kd), .val (.int vv), .val (.int cp), .val (.int el), .val (.int ix), .val (.int fb), .val (.ref b), .val (.int ln), .val (.int v12), .val (.int v13)] [])) := by
    intro T0 X0 e0 v12 v13 hr
    unfold own_t_332 at hr
    have W0 : OwnGo.Wk p.tables T0 m c below code := ⟨X0.here, hx, hby⟩
    refine OwnGo.iload W0 (pn := 334) at_332 rfl rfl ?_
    refine OwnGo.if_ne W0 (pn := 337) (pt := 339) at_334 rfl (by decide) (by decide) (fun h334 => ?_) (fun h334 => ?_)
    · rw [if_pos h334] at hr
      refine OwnGo.iconst (v := (0 : Int32)) W0 (pn := 338) at_337 rfl rfl ?_
      exact OwnGo.ireturn X0 hx hby hret hlk rfl (by simp) at_338 (OwnGo.fin_of hr e0 hfin) (by decide) (by decide)
    · rw [if_neg h334] at hr
      refine OwnGo.aload W0 (pn := 341) at_339 rfl rfl rfl ?_
      refine OwnGo.iload W0 (pn := 343) at_341 rfl rfl ?_
      refine OwnGo.iconst (v := (1 : Int32)) W0 (pn := 344) at_343 rfl rfl ?_
      refine OwnGo.iload W0 (pn := 346) at_344 rfl rfl ?_
      refine OwnGo.callP X0 hx hby hZ hown (argsL := [(.ref b), (.int ix), (.int (1 : Int32)), (.int ln)]) (rest := []) (pn := 349) (hw _ (List.mem_of_getElem? (i := 11) rfl)) (hw _ (List.mem_of_getElem? (i := 12) rfl)) (hw _ (List.mem_of_getElem? (i := 13) rfl)) (hw _ (List.mem_of_getElem? (i := 14) rfl)) (by decide) (rm_own_cont l Z a0 hw b ix (1 : Int32) ln xs _ (by rw [e0]; exact A) hlen g1 g2 (by decide) (by decide)) (by decide) (Nat.le_of_ble_eq_true rfl) (by decide) (by decide) (lenOf pd_2 rfl) (by rw [hml]; rfl) rfl at_346 rfl (fun T1 X1 f1 => ?_)
      have e1 := f1.trans e0
      have W1 : OwnGo.Wk p.tables T1 m c below code := ⟨X1.here, hx, hby⟩
      refine OwnGo.if_eq W1 (pn := 352) (pt := 378) at_349 rfl (by decide) (by decide) (fun h349 => ?_) (fun h349 => ?_)
      · rw [if_pos h349] at hr
        exact B378 _ X1 e1 (v12) (v13) hr
      · rw [if_neg h349] at hr
        refine OwnGo.aload W1 (pn := 354) at_352 rfl rfl rfl ?_
        refine OwnGo.iload W1 (pn := 356) at_354 rfl rfl ?_
        refine OwnGo.iconst (v := (2 : Int32)) W1 (pn := 357) at_356 rfl rfl ?_
        refine OwnGo.iload W1 (pn := 359) at_357 rfl rfl ?_
        refine OwnGo.callP X1 hx hby hZ hown (argsL := [(.ref b), (.int ix), (.int (2 : Int32)), (.int ln)]) (rest := []) (pn := 362) (hw _ (List.mem_of_getElem? (i := 11) rfl)) (hw _ (List.mem_of_getElem? (i := 12) rfl)) (hw _ (List.mem_of_getElem? (i := 13) rfl)) (hw _ (List.mem_of_getElem? (i := 14) rfl)) (by decide) (rm_own_cont l Z a0 hw b ix (2 : Int32) ln xs _ (by rw [e1]; exact A) hlen g1 g2 (by decide) (by decide)) (by decide) (Nat.le_of_ble_eq_true rfl) (by decide) (by decide) (lenOf pd_2 rfl) (by rw [hml]; rfl) rfl at_359 rfl (fun T2 X2 f2 => ?_)
        have e2 := f2.trans e1
        have W2 : OwnGo.Wk p.tables T2 m c below code := ⟨X2.here, hx, hby⟩
        refine OwnGo.if_eq W2 (pn := 365) (pt := 378) at_362 rfl (by decide) (by decide) (fun h362 => ?_) (fun h362 => ?_)
        · rw [if_pos h362] at hr
          exact B378 _ X2 e2 (v12) (v13) hr
        · rw [if_neg h362] at hr
          refine OwnGo.aload W2 (pn := 367) at_365 rfl rfl rfl ?_
          refine OwnGo.iload W2 (pn := 369) at_367 rfl rfl ?_
          refine OwnGo.iconst (v := (3 : Int32)) W2 (pn := 370) at_369 rfl rfl ?_
          refine OwnGo.iload W2 (pn := 372) at_370 rfl rfl ?_
          refine OwnGo.callP X2 hx hby hZ hown (argsL := [(.ref b), (.int ix), (.int (3 : Int32)), (.int ln)]) (rest := []) (pn := 375) (hw _ (List.mem_of_getElem? (i := 11) rfl)) (hw _ (List.mem_of_getElem? (i := 12) rfl)) (hw _ (List.mem_of_getElem? (i := 13) rfl)) (hw _ (List.mem_of_getElem? (i := 14) rfl)) (by decide) (rm_own_cont l Z a0 hw b ix (3 : Int32) ln xs _ (by rw [e2]; exact A) hlen g1 g2 (by decide) (by decide)) (by decide) (Nat.le_of_ble_eq_true rfl) (by decide) (by decide) (lenOf pd_2 rfl) (by rw [hml]; rfl) rfl at_372 rfl (fun T3 X3 f3 => ?_)
          have e3 := f3.trans e2
          have W3 : OwnGo.Wk p.tables T3 m c below code := ⟨X3.here, hx, hby⟩
          refine OwnGo.if_ne W3 (pn := 378) (pt := 380) at_375 rfl (by decide) (by decide) (fun h375 => ?_) (fun h375 => ?_)
          · rw [if_pos h375] at hr
            exact B378 _ X3 e3 (v12) (v13) hr
          · rw [if_neg h375] at hr
            refine OwnGo.aload W3 (pn := 382) at_380 rfl rfl rfl ?_
            refine OwnGo.iconst (v := (0 : Int32)) W3 (pn := 383) at_382 rfl rfl ?_
            refine OwnGo.iload W3 (pn := 385) at_383 rfl rfl ?_
            refine OwnGo.iload W3 (pn := 387) at_385 rfl rfl ?_
            refine OwnGo.iload W3 (pn := 389) at_387 rfl rfl ?_
            refine OwnGo.callP X3 hx hby hZ hown (argsL := [(.ref b), (.int (0 : Int32)), (.int ix), (.int ln), (.int fb)]) (rest := []) (pn := 392) (hw _ (List.mem_of_getElem? (i := 15) rfl)) (hw _ (List.mem_of_getElem? (i := 16) rfl)) (hw _ (List.mem_of_getElem? (i := 13) rfl)) (hw _ (List.mem_of_getElem? (i := 17) rfl)) (by decide) (rm_own_unt l Z a0 hw b (0 : Int32) ix ln fb xs _ (by rw [e3]; exact A) hlen (by decide) (by decide)) (by decide) (Nat.le_of_ble_eq_true rfl) (by decide) (by decide) (lenOf pd_3 rfl) (by rw [hml]; rfl) rfl at_389 rfl (fun T4 X4 f4 => ?_)
            have e4 := f4.trans e3
            have W4 : OwnGo.Wk p.tables T4 m c below code := ⟨X4.here, hx, hby⟩
            refine OwnGo.if_eq W4 (pn := 395) (pt := 502) at_392 rfl (by decide) (by decide) (fun h392 => ?_) (fun h392 => ?_)
            · rw [if_pos h392] at hr
              exact B502 _ X4 e4 (v12) (v13) hr
            · rw [if_neg h392] at hr
              refine OwnGo.aload W4 (pn := 397) at_395 rfl rfl rfl ?_
              refine OwnGo.iconst (v := (1 : Int32)) W4 (pn := 398) at_397 rfl rfl ?_
              refine OwnGo.iload W4 (pn := 400) at_398 rfl rfl ?_
              refine OwnGo.iload W4 (pn := 402) at_400 rfl rfl ?_
              refine OwnGo.iload W4 (pn := 404) at_402 rfl rfl ?_
              refine OwnGo.callP X4 hx hby hZ hown (argsL := [(.ref b), (.int (1 : Int32)), (.int ix), (.int ln), (.int fb)]) (rest := []) (pn := 407) (hw _ (List.mem_of_getElem? (i := 15) rfl)) (hw _ (List.mem_of_getElem? (i := 16) rfl)) (hw _ (List.mem_of_getElem? (i := 13) rfl)) (hw _ (List.mem_of_getElem? (i := 17) rfl)) (by decide) (rm_own_unt l Z a0 hw b (1 : Int32) ix ln fb xs _ (by rw [e4]; exact A) hlen (by decide) (by decide)) (by decide) (Nat.le_of_ble_eq_true rfl) (by decide) (by decide) (lenOf pd_3 rfl) (by rw [hml]; rfl) rfl at_404 rfl (fun T5 X5 f5 => ?_)
              have e5 := f5.trans e4
              have W5 : OwnGo.Wk p.tables T5 m c below code := ⟨X5.here, hx, hby⟩
              refine OwnGo.if_eq W5 (pn := 410) (pt := 502) at_407 rfl (by decide) (by decide) (fun h407 => ?_) (fun h407 => ?_)
              · rw [if_pos h407] at hr
                exact B502 _ X5 e5 (v12) (v13) hr
              · rw [if_neg h407] at hr
                refine OwnGo.aload W5 (pn := 412) at_410 rfl rfl rfl ?_
                refine OwnGo.iconst (v := (2 : Int32)) W5 (pn := 413) at_412 rfl rfl ?_
                refine OwnGo.iload W5 (pn := 415) at_413 rfl rfl ?_
                refine OwnGo.iload W5 (pn := 417) at_415 rfl rfl ?_
                refine OwnGo.iload W5 (pn := 419) at_417 rfl rfl ?_
                refine OwnGo.callP X5 hx hby hZ hown (argsL := [(.ref b), (.int (2 : Int32)), (.int ix), (.int ln), (.int fb)]) (rest := []) (pn := 422) (hw _ (List.mem_of_getElem? (i := 15) rfl)) (hw _ (List.mem_of_getElem? (i := 16) rfl)) (hw _ (List.mem_of_getElem? (i := 13) rfl)) (hw _ (List.mem_of_getElem? (i := 17) rfl)) (by decide) (rm_own_unt l Z a0 hw b (2 : Int32) ix ln fb xs _ (by rw [e5]; exact A) hlen (by decide) (by decide)) (by decide) (Nat.le_of_ble_eq_true rfl) (by decide) (by decide) (lenOf pd_3 rfl) (by rw [hml]; rfl) rfl at_419 rfl (fun T6 X6 f6 => ?_)
                have e6 := f6.trans e5
                have W6 : OwnGo.Wk p.tables T6 m c below code := ⟨X6.here, hx, hby⟩
                refine OwnGo.if_eq W6 (pn := 425) (pt := 502) at_422 rfl (by decide) (by decide) (fun h422 => ?_) (fun h422 => ?_)
                · rw [if_pos h422] at hr
                  exact B502 _ X6 e6 (v12) (v13) hr
                · rw [if_neg h422] at hr
                  refine OwnGo.aload W6 (pn := 427) at_425 rfl rfl rfl ?_
                  refine OwnGo.iconst (v := (3 : Int32)) W6 (pn := 428) at_427 rfl rfl ?_
                  refine OwnGo.iload W6 (pn := 430) at_428 rfl rfl ?_
                  refine OwnGo.iload W6 (pn := 432) at_430 rfl rfl ?_
                  refine OwnGo.iload W6 (pn := 434) at_432 rfl rfl ?_
                  refine OwnGo.callP X6 hx hby hZ hown (argsL := [(.ref b), (.int (3 : Int32)), (.int ix), (.int ln), (.int fb)]) (rest := []) (pn := 437) (hw _ (List.mem_of_getElem? (i := 15) rfl)) (hw _ (List.mem_of_getElem? (i := 16) rfl)) (hw _ (List.mem_of_getElem? (i := 13) rfl)) (hw _ (List.mem_of_getElem? (i := 17) rfl)) (by decide) (rm_own_unt l Z a0 hw b (3 : Int32) ix ln fb xs _ (by rw [e6]; exact A) hlen (by decide) (by decide)) (by decide) (Nat.le_of_ble_eq_true rfl) (by decide) (by decide) (lenOf pd_3 rfl) (by rw [hml]; rfl) rfl at_434 rfl (fun T7 X7 f7 => ?_)
                  have e7 := f7.trans e6
                  have W7 : OwnGo.Wk p.tables T7 m c below code := ⟨X7.here, hx, hby⟩
                  refine OwnGo.if_eq W7 (pn := 440) (pt := 502) at_437 rfl (by decide) (by decide) (fun h437 => ?_) (fun h437 => ?_)
                  · rw [if_pos h437] at hr
                    exact B502 _ X7 e7 (v12) (v13) hr
                  · rw [if_neg h437] at hr
                    refine OwnGo.aload W7 (pn := 442) at_440 rfl rfl rfl ?_
                    refine OwnGo.iconst (v := (4 : Int32)) W7 (pn := 443) at_442 rfl rfl ?_
                    refine OwnGo.iload W7 (pn := 445) at_443 rfl rfl ?_
                    refine OwnGo.iload W7 (pn := 447) at_445 rfl rfl ?_
                    refine OwnGo.iload W7 (pn := 449) at_447 rfl rfl ?_
                    refine OwnGo.callP X7 hx hby hZ hown (argsL := [(.ref b), (.int (4 : Int32)), (.int ix), (.int ln), (.int fb)]) (rest := []) (pn := 452) (hw _ (List.mem_of_getElem? (i := 15) rfl)) (hw _ (List.mem_of_getElem? (i := 16) rfl)) (hw _ (List.mem_of_getElem? (i := 13) rfl)) (hw _ (List.mem_of_getElem? (i := 17) rfl)) (by decide) (rm_own_unt l Z a0 hw b (4 : Int32) ix ln fb xs _ (by rw [e7]; exact A) hlen (by decide) (by decide)) (by decide) (Nat.le_of_ble_eq_true rfl) (by decide) (by decide) (lenOf pd_3 rfl) (by rw [hml]; rfl) rfl at_449 rfl (fun T8 X8 f8 => ?_)
                    have e8 := f8.trans e7
                    have W8 : OwnGo.Wk p.tables T8 m c below code := ⟨X8.here, hx, hby⟩
                    refine OwnGo.if_eq W8 (pn := 455) (pt := 502) at_452 rfl (by decide) (by decide) (fun h452 => ?_) (fun h452 => ?_)
                    · rw [if_pos h452] at hr
                      exact B502 _ X8 e8 (v12) (v13) hr
                    · rw [if_neg h452] at hr
                      refine OwnGo.aload W8 (pn := 457) at_455 rfl rfl rfl ?_
                      refine OwnGo.iconst (v := (5 : Int32)) W8 (pn := 458) at_457 rfl rfl ?_
                      refine OwnGo.iload W8 (pn := 460) at_458 rfl rfl ?_
                      refine OwnGo.iload W8 (pn := 462) at_460 rfl rfl ?_
                      refine OwnGo.iload W8 (pn := 464) at_462 rfl rfl ?_
                      refine OwnGo.callP X8 hx hby hZ hown (argsL := [(.ref b), (.int (5 : Int32)), (.int ix), (.int ln), (.int fb)]) (rest := []) (pn := 467) (hw _ (List.mem_of_getElem? (i := 15) rfl)) (hw _ (List.mem_of_getElem? (i := 16) rfl)) (hw _ (List.mem_of_getElem? (i := 13) rfl)) (hw _ (List.mem_of_getElem? (i := 17) rfl)) (by decide) (rm_own_unt l Z a0 hw b (5 : Int32) ix ln fb xs _ (by rw [e8]; exact A) hlen (by decide) (by decide)) (by decide) (Nat.le_of_ble_eq_true rfl) (by decide) (by decide) (lenOf pd_3 rfl) (by rw [hml]; rfl) rfl at_464 rfl (fun T9 X9 f9 => ?_)
                      have e9 := f9.trans e8
                      have W9 : OwnGo.Wk p.tables T9 m c below code := ⟨X9.here, hx, hby⟩
                      refine OwnGo.if_eq W9 (pn := 470) (pt := 502) at_467 rfl (by decide) (by decide) (fun h467 => ?_) (fun h467 => ?_)
                      · rw [if_pos h467] at hr
                        exact B502 _ X9 e9 (v12) (v13) hr
                      · rw [if_neg h467] at hr
                        refine OwnGo.aload W9 (pn := 472) at_470 rfl rfl rfl ?_
                        refine OwnGo.bipush (v := (6 : Int32)) W9 (pn := 474) at_472 rfl rfl ?_
                        refine OwnGo.iload W9 (pn := 476) at_474 rfl rfl ?_
                        refine OwnGo.iload W9 (pn := 478) at_476 rfl rfl ?_
                        refine OwnGo.iload W9 (pn := 480) at_478 rfl rfl ?_
                        refine OwnGo.callP X9 hx hby hZ hown (argsL := [(.ref b), (.int (6 : Int32)), (.int ix), (.int ln), (.int fb)]) (rest := []) (pn := 483) (hw _ (List.mem_of_getElem? (i := 15) rfl)) (hw _ (List.mem_of_getElem? (i := 16) rfl)) (hw _ (List.mem_of_getElem? (i := 13) rfl)) (hw _ (List.mem_of_getElem? (i := 17) rfl)) (by decide) (rm_own_unt l Z a0 hw b (6 : Int32) ix ln fb xs _ (by rw [e9]; exact A) hlen (by decide) (by decide)) (by decide) (Nat.le_of_ble_eq_true rfl) (by decide) (by decide) (lenOf pd_3 rfl) (by rw [hml]; rfl) rfl at_480 rfl (fun T10 X10 f10 => ?_)
                        have e10 := f10.trans e9
                        have W10 : OwnGo.Wk p.tables T10 m c below code := ⟨X10.here, hx, hby⟩
                        refine OwnGo.if_eq W10 (pn := 486) (pt := 502) at_483 rfl (by decide) (by decide) (fun h483 => ?_) (fun h483 => ?_)
                        · rw [if_pos h483] at hr
                          exact B502 _ X10 e10 (v12) (v13) hr
                        · rw [if_neg h483] at hr
                          refine OwnGo.aload W10 (pn := 488) at_486 rfl rfl rfl ?_
                          refine OwnGo.bipush (v := (7 : Int32)) W10 (pn := 490) at_488 rfl rfl ?_
                          refine OwnGo.iload W10 (pn := 492) at_490 rfl rfl ?_
                          refine OwnGo.iload W10 (pn := 494) at_492 rfl rfl ?_
                          refine OwnGo.iload W10 (pn := 496) at_494 rfl rfl ?_
                          refine OwnGo.callP X10 hx hby hZ hown (argsL := [(.ref b), (.int (7 : Int32)), (.int ix), (.int ln), (.int fb)]) (rest := []) (pn := 499) (hw _ (List.mem_of_getElem? (i := 15) rfl)) (hw _ (List.mem_of_getElem? (i := 16) rfl)) (hw _ (List.mem_of_getElem? (i := 13) rfl)) (hw _ (List.mem_of_getElem? (i := 17) rfl)) (by decide) (rm_own_unt l Z a0 hw b (7 : Int32) ix ln fb xs _ (by rw [e10]; exact A) hlen (by decide) (by decide)) (by decide) (Nat.le_of_ble_eq_true rfl) (by decide) (by decide) (lenOf pd_3 rfl) (by rw [hml]; rfl) rfl at_496 rfl (fun T11 X11 f11 => ?_)
                          have e11 := f11.trans e10
                          have W11 : OwnGo.Wk p.tables T11 m c below code := ⟨X11.here, hx, hby⟩
                          refine OwnGo.if_ne W11 (pn := 502) (pt := 504) at_499 rfl (by decide) (by decide) (fun h499 => ?_) (fun h499 => ?_)
                          · rw [if_pos h499] at hr
                            exact B502 _ X11 e11 (v12) (v13) hr
                          · rw [if_neg h499] at hr
                            refine OwnGo.aload W11 (pn := 506) at_504 rfl rfl rfl ?_
                            refine OwnGo.iload W11 (pn := 508) at_506 rfl rfl ?_
                            refine OwnGo.callP X11 hx hby hZ hown (argsL := [(.ref b), (.int ix)]) (rest := []) (pn := 511) (hw _ (List.mem_of_getElem? (i := 18) rfl)) (hw _ (List.mem_of_getElem? (i := 19) rfl)) (hw _ (List.mem_of_getElem? (i := 4) rfl)) (hw _ (List.mem_of_getElem? (i := 20) rfl)) (by decide) (rm_own_cpa l Z a0 hw b ix ys xs _ w (by rw [e11]; exact S) (by rw [e11]; exact AL) hlY hys (by rw [e11]; exact A) hlen g1 g2) (by decide) (Nat.le_of_ble_eq_true rfl) (by decide) (by decide) (lenOf pd_4 rfl) (by rw [hml]; rfl) rfl at_508 rfl (fun T12 X12 f12 => ?_)
                            have e12 := f12.trans e11
                            have W12 : OwnGo.Wk p.tables T12 m c below code := ⟨X12.here, hx, hby⟩
                            refine OwnGo.iload W12 (pn := 513) at_511 rfl rfl ?_
                            refine OwnGo.icmp_ne W12 (pn := 516) (pt := 520) at_513 rfl (by decide) (by decide) (fun h513 => ?_) (fun h513 => ?_)
                            · rw [if_pos h513] at hr
                              refine OwnGo.iconst (v := (1 : Int32)) W12 (pn := 517) at_516 rfl rfl ?_
                              refine OwnGo.goto W12 (pt := 521) at_517 (by decide) (by decide) ?_
                              exact OwnGo.ireturn X12 hx hby hret hlk rfl (by simp) at_521 (OwnGo.fin_of hr e12 hfin) (by decide) (by decide)
                            · rw [if_neg h513] at hr
                              refine OwnGo.iconst (v := (0 : Int32)) W12 (pn := 521) at_520 rfl rfl ?_
                              exact OwnGo.ireturn X12 hx hby hret hlk rfl (by simp) at_521 (OwnGo.fin_of hr e12 hfin) (by decide) (by decide)
  have B330 : ∀ (T0 : State) (X0 : Stand p l e room_1 s m #[(.int p0), (.int p1), (.int p2), (.int p3)] below meth c T0 L 1 8) (e0 : T0.heap = hT) (v12 : Int32) (s0 : Int32), own_t_330 ys xs cp ix fb ln s0 = r → OwnGo.Go p.tables e below (OwnGo.Qe s room_1 (own_Q n0)) (T0.setTop (mkF m 330 #[.val (.int p0), .val (.int p1), .val (.int p2), .val (.int p3), .val (.int kd), .val (.int vv), .val (.int cp), .val (.int el), .val (.int ix), .val (.int fb), .val (.ref b), .val (.int ln), .val (.int v12), .unset] [(.int s0)])) := by
    intro T0 X0 e0 v12 s0 hr
    unfold own_t_330 at hr
    have W0 : OwnGo.Wk p.tables T0 m c below code := ⟨X0.here, hx, hby⟩
    refine OwnGo.istore W0 (pn := 332) (l' := #[.val (.int p0), .val (.int p1), .val (.int p2), .val (.int p3), .val (.int kd), .val (.int vv), .val (.int cp), .val (.int el), .val (.int ix), .val (.int fb), .val (.ref b), .val (.int ln), .val (.int v12), .val (.int s0)]) at_330 rfl rfl ?_
    exact B332 _ X0 e0 (v12) (s0) hr
  have B308 : ∀ (T0 : State) (X0 : Stand p l e room_1 s m #[(.int p0), (.int p1), (.int p2), (.int p3)] below meth c T0 L 1 8) (e0 : T0.heap = hT) (v12 : Int32) (s0 : Int32), own_t_308 ys xs cp ix fb ln s0 = r → OwnGo.Go p.tables e below (OwnGo.Qe s room_1 (own_Q n0)) (T0.setTop (mkF m 308 #[.val (.int p0), .val (.int p1), .val (.int p2), .val (.int p3), .val (.int kd), .val (.int vv), .val (.int cp), .val (.int el), .val (.int ix), .val (.int fb), .val (.ref b), .val (.int ln), .val (.int v12), .unset] [(.int s0)])) := by
    intro T0 X0 e0 v12 s0 hr
    unfold own_t_308 at hr
    have W0 : OwnGo.Wk p.tables T0 m c below code := ⟨X0.here, hx, hby⟩
    refine OwnGo.istore W0 (pn := 310) (l' := #[.val (.int p0), .val (.int p1), .val (.int p2), .val (.int p3), .val (.int kd), .val (.int vv), .val (.int cp), .val (.int el), .val (.int ix), .val (.int fb), .val (.ref b), .val (.int ln), .val (.int v12), .val (.int s0)]) at_308 rfl rfl ?_
    refine OwnGo.goto W0 (pt := 332) at_310 (by decide) (by decide) ?_
    exact B332 _ X0 e0 (v12) (s0) hr
  have B280 : ∀ (T0 : State) (X0 : Stand p l e room_1 s m #[(.int p0), (.int p1), (.int p2), (.int p3)] below meth c T0 L 1 8) (e0 : T0.heap = hT) (v12 : Int32) (s0 : Int32), own_t_280 ys xs cp ix fb ln s0 = r → OwnGo.Go p.tables e below (OwnGo.Qe s room_1 (own_Q n0)) (T0.setTop (mkF m 280 #[.val (.int p0), .val (.int p1), .val (.int p2), .val (.int p3), .val (.int kd), .val (.int vv), .val (.int cp), .val (.int el), .val (.int ix), .val (.int fb), .val (.ref b), .val (.int ln), .val (.int v12), .unset] [(.int s0)])) := by
    intro T0 X0 e0 v12 s0 hr
    unfold own_t_280 at hr
    have W0 : OwnGo.Wk p.tables T0 m c below code := ⟨X0.here, hx, hby⟩
    refine OwnGo.istore W0 (pn := 282) (l' := #[.val (.int p0), .val (.int p1), .val (.int p2), .val (.int p3), .val (.int kd), .val (.int vv), .val (.int cp), .val (.int el), .val (.int ix), .val (.int fb), .val (.ref b), .val (.int ln), .val (.int v12), .val (.int s0)]) at_280 rfl rfl ?_
    refine OwnGo.goto W0 (pt := 332) at_282 (by decide) (by decide) ?_
    exact B332 _ X0 e0 (v12) (s0) hr
  have B252 : ∀ (T0 : State) (X0 : Stand p l e room_1 s m #[(.int p0), (.int p1), (.int p2), (.int p3)] below meth c T0 L 1 8) (e0 : T0.heap = hT) (v12 : Int32) (s0 : Int32), own_t_252 ys xs cp ix fb ln s0 = r → OwnGo.Go p.tables e below (OwnGo.Qe s room_1 (own_Q n0)) (T0.setTop (mkF m 252 #[.val (.int p0), .val (.int p1), .val (.int p2), .val (.int p3), .val (.int kd), .val (.int vv), .val (.int cp), .val (.int el), .val (.int ix), .val (.int fb), .val (.ref b), .val (.int ln), .val (.int v12), .unset] [(.int s0)])) := by
    intro T0 X0 e0 v12 s0 hr
    unfold own_t_252 at hr
    have W0 : OwnGo.Wk p.tables T0 m c below code := ⟨X0.here, hx, hby⟩
    refine OwnGo.istore W0 (pn := 254) (l' := #[.val (.int p0), .val (.int p1), .val (.int p2), .val (.int p3), .val (.int kd), .val (.int vv), .val (.int cp), .val (.int el), .val (.int ix), .val (.int fb), .val (.ref b), .val (.int ln), .val (.int v12), .val (.int s0)]) at_252 rfl rfl ?_
    refine OwnGo.goto W0 (pt := 332) at_254 (by decide) (by decide) ?_
    exact B332 _ X0 e0 (v12) (s0) hr
  unfold own_t_197 at hr
  have W0 : OwnGo.Wk p.tables T0 m c below code := ⟨X0.here, hx, hby⟩
  refine OwnGo.iload W0 (pn := 199) at_197 rfl rfl ?_
  refine OwnGo.iload W0 (pn := 201) at_199 rfl rfl ?_
  refine OwnGo.icmp_eq W0 (pn := 204) (pt := 206) at_201 rfl (by decide) (by decide) (fun h201 => ?_) (fun h201 => ?_)
  · rw [if_pos h201] at hr
    refine OwnGo.aload W0 (pn := 208) at_206 rfl rfl rfl ?_
    refine OwnGo.iload W0 (pn := 210) at_208 rfl rfl ?_
    refine OwnGo.baloadB X0 hx hby hZ (pn := 211) (by rw [e0]; exact A : OwnGo.Ia Z _ b .byte xs) (own_i0 ix (by omega) (by omega)).1 (OwnGo.getD_of (by rw [hlen]; exact (own_i0 ix (by omega) (by omega)).2.1)) at_210 rfl ?_
    refine OwnGo.callP X0 hx hby hZ hown (argsL := [(.int (xs.getD (ix).toNatClampNeg 0))]) (rest := []) (pn := 214) (hw _ (List.mem_of_getElem? (i := 6) rfl)) (hw _ (List.mem_of_getElem? (i := 7) rfl)) (hw _ (List.mem_of_getElem? (i := 4) rfl)) (hw _ (List.mem_of_getElem? (i := 8) rfl)) (by decide) (rm_own_seq l Z a0 hw (xs.getD (ix).toNatClampNeg 0) ys _ w (by rw [e0]; exact S) (by rw [e0]; exact AL) hlY) (by decide) (Nat.le_of_ble_eq_true rfl) (by decide) (by decide) (lenOf pd_1 rfl) (by rw [hml]; rfl) rfl at_211 rfl (fun T1 X1 f1 => ?_)
    have e1 := f1.trans e0
    have W1 : OwnGo.Wk p.tables T1 m c below code := ⟨X1.here, hx, hby⟩
    refine OwnGo.iload W1 (pn := 216) at_214 rfl rfl ?_
    refine OwnGo.icmp_eq W1 (pn := 219) (pt := 221) at_216 rfl (by decide) (by decide) (fun h216 => ?_) (fun h216 => ?_)
    · rw [if_pos h216] at hr
      refine OwnGo.aload W1 (pn := 223) at_221 rfl rfl rfl ?_
      refine OwnGo.iload W1 (pn := 225) at_223 rfl rfl ?_
      refine OwnGo.baloadB X1 hx hby hZ (pn := 226) (by rw [e1]; exact A : OwnGo.Ia Z _ b .byte xs) (own_i0 ix (by omega) (by omega)).1 (OwnGo.getD_of (by rw [hlen]; exact (own_i0 ix (by omega) (by omega)).2.1)) at_225 rfl ?_
      refine OwnGo.sipush (v := (255 : Int32)) W1 (pn := 229) at_226 rfl rfl ?_
      refine OwnGo.iand W1 (pn := 230) at_229 rfl ?_
      refine OwnGo.istore W1 (pn := 232) (l' := #[.val (.int p0), .val (.int p1), .val (.int p2), .val (.int p3), .val (.int kd), .val (.int vv), .val (.int cp), .val (.int el), .val (.int ix), .val (.int fb), .val (.ref b), .val (.int ln), .val (.int ((xs.getD (ix).toNatClampNeg 0) &&& (255 : Int32))), .unset]) at_230 rfl rfl ?_
      refine OwnGo.iload W1 (pn := 234) at_232 rfl rfl ?_
      refine OwnGo.iconst (v := (1 : Int32)) W1 (pn := 235) at_234 rfl rfl ?_
      refine OwnGo.icmp_ne W1 (pn := 238) (pt := 257) at_235 rfl (by decide) (by decide) (fun h235 => ?_) (fun h235 => ?_)
      · rw [if_pos h235] at hr
        refine OwnGo.iload W1 (pn := 240) at_238 rfl rfl ?_
        refine OwnGo.sipush (v := (128 : Int32)) W1 (pn := 243) at_240 rfl rfl ?_
        refine OwnGo.iand W1 (pn := 244) at_243 rfl ?_
        refine OwnGo.if_ne W1 (pn := 247) (pt := 251) at_244 rfl (by decide) (by decide) (fun h244 => ?_) (fun h244 => ?_)
        · rw [if_pos h244] at hr
          refine OwnGo.iconst (v := (1 : Int32)) W1 (pn := 248) at_247 rfl rfl ?_
          refine OwnGo.goto W1 (pt := 252) at_248 (by decide) (by decide) ?_
          exact B252 _ X1 e1 (((xs.getD (ix).toNatClampNeg 0) &&& (255 : Int32))) ((1 : Int32)) hr
        · rw [if_neg h244] at hr
          refine OwnGo.iconst (v := (0 : Int32)) W1 (pn := 252) at_251 rfl rfl ?_
          exact B252 _ X1 e1 (((xs.getD (ix).toNatClampNeg 0) &&& (255 : Int32))) ((0 : Int32)) hr
      · rw [if_neg h235] at hr
        refine OwnGo.iload W1 (pn := 259) at_257 rfl rfl ?_
        refine OwnGo.iconst (v := (2 : Int32)) W1 (pn := 260) at_259 rfl rfl ?_
        refine OwnGo.icmp_ne W1 (pn := 263) (pt := 285) at_260 rfl (by decide) (by decide) (fun h260 => ?_) (fun h260 => ?_)
        · rw [if_pos h260] at hr
          refine OwnGo.iload W1 (pn := 265) at_263 rfl rfl ?_
          refine OwnGo.sipush (v := (224 : Int32)) W1 (pn := 268) at_265 rfl rfl ?_
          refine OwnGo.iand W1 (pn := 269) at_268 rfl ?_
          refine OwnGo.sipush (v := (192 : Int32)) W1 (pn := 272) at_269 rfl rfl ?_
          refine OwnGo.icmp_ne W1 (pn := 275) (pt := 279) at_272 rfl (by decide) (by decide) (fun h272 => ?_) (fun h272 => ?_)
          · rw [if_pos h272] at hr
            refine OwnGo.iconst (v := (1 : Int32)) W1 (pn := 276) at_275 rfl rfl ?_
            refine OwnGo.goto W1 (pt := 280) at_276 (by decide) (by decide) ?_
            exact B280 _ X1 e1 (((xs.getD (ix).toNatClampNeg 0) &&& (255 : Int32))) ((1 : Int32)) hr
          · rw [if_neg h272] at hr
            refine OwnGo.iconst (v := (0 : Int32)) W1 (pn := 280) at_279 rfl rfl ?_
            exact B280 _ X1 e1 (((xs.getD (ix).toNatClampNeg 0) &&& (255 : Int32))) ((0 : Int32)) hr
        · rw [if_neg h260] at hr
          refine OwnGo.iload W1 (pn := 287) at_285 rfl rfl ?_
          refine OwnGo.iconst (v := (3 : Int32)) W1 (pn := 288) at_287 rfl rfl ?_
          refine OwnGo.icmp_ne W1 (pn := 291) (pt := 313) at_288 rfl (by decide) (by decide) (fun h288 => ?_) (fun h288 => ?_)
          · rw [if_pos h288] at hr
            refine OwnGo.iload W1 (pn := 293) at_291 rfl rfl ?_
            refine OwnGo.sipush (v := (240 : Int32)) W1 (pn := 296) at_293 rfl rfl ?_
            refine OwnGo.iand W1 (pn := 297) at_296 rfl ?_
            refine OwnGo.sipush (v := (224 : Int32)) W1 (pn := 300) at_297 rfl rfl ?_
            refine OwnGo.icmp_ne W1 (pn := 303) (pt := 307) at_300 rfl (by decide) (by decide) (fun h300 => ?_) (fun h300 => ?_)
            · rw [if_pos h300] at hr
              refine OwnGo.iconst (v := (1 : Int32)) W1 (pn := 304) at_303 rfl rfl ?_
              refine OwnGo.goto W1 (pt := 308) at_304 (by decide) (by decide) ?_
              exact B308 _ X1 e1 (((xs.getD (ix).toNatClampNeg 0) &&& (255 : Int32))) ((1 : Int32)) hr
            · rw [if_neg h300] at hr
              refine OwnGo.iconst (v := (0 : Int32)) W1 (pn := 308) at_307 rfl rfl ?_
              exact B308 _ X1 e1 (((xs.getD (ix).toNatClampNeg 0) &&& (255 : Int32))) ((0 : Int32)) hr
          · rw [if_neg h288] at hr
            refine OwnGo.iload W1 (pn := 315) at_313 rfl rfl ?_
            refine OwnGo.sipush (v := (248 : Int32)) W1 (pn := 318) at_315 rfl rfl ?_
            refine OwnGo.iand W1 (pn := 319) at_318 rfl ?_
            refine OwnGo.sipush (v := (240 : Int32)) W1 (pn := 322) at_319 rfl rfl ?_
            refine OwnGo.icmp_ne W1 (pn := 325) (pt := 329) at_322 rfl (by decide) (by decide) (fun h322 => ?_) (fun h322 => ?_)
            · rw [if_pos h322] at hr
              refine OwnGo.iconst (v := (1 : Int32)) W1 (pn := 326) at_325 rfl rfl ?_
              refine OwnGo.goto W1 (pt := 330) at_326 (by decide) (by decide) ?_
              exact B330 _ X1 e1 (((xs.getD (ix).toNatClampNeg 0) &&& (255 : Int32))) ((1 : Int32)) hr
            · rw [if_neg h322] at hr
              refine OwnGo.iconst (v := (0 : Int32)) W1 (pn := 330) at_329 rfl rfl ?_
              exact B330 _ X1 e1 (((xs.getD (ix).toNatClampNeg 0) &&& (255 : Int32))) ((0 : Int32)) hr
    · rw [if_neg h216] at hr
      refine OwnGo.iconst (v := (0 : Int32)) W1 (pn := 220) at_219 rfl rfl ?_
      exact OwnGo.ireturn X1 hx hby hret hlk rfl (by simp) at_220 (OwnGo.fin_of hr e1 hfin) (by decide) (by decide)
  · rw [if_neg h201] at hr
    refine OwnGo.iconst (v := (0 : Int32)) W0 (pn := 205) at_204 rfl rfl ?_
    exact OwnGo.ireturn X0 hx hby hret hlk rfl (by simp) at_205 (OwnGo.fin_of hr e0 hfin) (by decide) (by decide)
theorem own_ck (xs : List Int32) (p1 p2 p3 : Int32) (h : ¬ p2 < p3 ∨ (xs.getD (p1 + p2).toNatClampNeg 0 &&& (192 : Int32)) = (128 : Int32)) : own_cont xs p1 p2 p3 = 1 := by
  simp only [own_cont_20, own_cont]
  repeat' split
  all_goals first | rfl | (exfalso; rcases h with h | h <;> contradiction)
theorem own_uk (xs : List Int32) (p1 p2 p3 p4 : Int32) (h : (¬ p1 < p2 ∧ p1 < p2 + p3) ∨ xs.getD p1.toNatClampNeg 0 = p4) : own_unt xs p1 p2 p3 p4 = 1 := by
  simp only [own_unt_20, own_unt_12, own_unt]
  repeat' split
  all_goals first | rfl | (exfalso; rcases h with ⟨h, h'⟩ | h <;> contradiction)
def own_by (x : Int32) : Int32 := nar .byte (x.toInt8.toInt32)
theorem own_byv (x : Int32) : ((own_by x).toInt - x.toInt) % 256 = 0 ∧ -128 ≤ (own_by x).toInt ∧ (own_by x).toInt < 128 := by
  have h1 := c_i2b x
  have h2 := c_i2b x.toInt8.toInt32
  show ((x.toInt8.toInt32.toInt8.toInt32).toInt - x.toInt) % 256 = 0 ∧ -128 ≤ (x.toInt8.toInt32.toInt8.toInt32).toInt ∧ (x.toInt8.toInt32.toInt8.toInt32).toInt < 128
  omega
theorem own_sh (x : Int32) (q : Int32) (k : Nat) (hk : q.toBitVec.toNat % 32 = k) (h0 : 0 < k) (hx : 0 ≤ x.toInt) : (XT.ushr x q).toInt = x.toInt / (2 ^ k : Nat) := by
  have h := c_iushr x q k hk h0
  have h1 := x.toInt_lt
  rw [show x.toInt % 4294967296 = x.toInt by omega] at h
  exact h
theorem own_m6 (x : Int32) : (x &&& 63).toInt = x.toInt % 64 := c_mask x 63 6 (by decide) (by decide)
theorem own_or (a b : Int32) (k : Nat) (hk : k ≤ 31) (P : Int) (hP : P = (2 ^ k : Nat)) (h1 : a.toInt % P = 0) (h2 : 0 ≤ b.toInt) (h3 : b.toInt < P) (h4 : a.toInt + b.toInt < 2147483648) (h5 : 0 ≤ a.toInt) : (a ||| b).toInt = a.toInt + b.toInt := by
  have h := c_or a b k hk P hP h1 h2 h3
  have h6 := (a ||| b).toInt_lt
  have h7 := (a ||| b).le_toInt
  omega
theorem own_step (c b : Int32) (h0 : 0 ≤ c.toInt) (h1 : c.toInt < 32768) : ((c <<< ((6 : Int32) &&& 31)) ||| (b &&& (63 : Int32))).toInt = c.toInt * 64 + b.toInt % 64 := by
  have hs := c_ishl c 6 6 (by decide)
  have hs1 := (c <<< ((6 : Int32) &&& 31)).toInt_lt
  have hs2 := (c <<< ((6 : Int32) &&& 31)).le_toInt
  have hm := own_m6 b
  have e : (c <<< ((6 : Int32) &&& 31)).toInt = c.toInt * 64 := by omega
  rw [own_or _ _ 6 (by decide) 64 (by decide) (by omega) (by omega) (by omega) (by omega) (by omega), e, hm]
theorem own_lead {x : Int32} {n : Nat} (hn : n < 256) (h : x.toInt = n) : x = Int32.ofNat n := by
  apply Int32.toInt_inj.mp
  rw [h, Int32.toInt_ofNat_small (by omega)]
theorem own_l2 : ∀ n : Fin 256, 192 ≤ n.1 → n.1 < 224 → (Int32.ofNat n.1 &&& 224) = 192 := by decide +kernel
theorem own_l3 : ∀ n : Fin 256, 224 ≤ n.1 → n.1 < 240 → (Int32.ofNat n.1 &&& 240) = 224 := by decide +kernel
theorem own_l4 : ∀ n : Fin 256, 240 ≤ n.1 → n.1 < 248 → (Int32.ofNat n.1 &&& 248) = 240 := by decide +kernel
theorem own_l1 : ∀ n : Fin 256, n.1 < 128 → (Int32.ofNat n.1 &&& 128) = 0 := by decide +kernel
theorem own_lc : ∀ n : Fin 64, (Int32.ofInt ((n.1 : Int) - 128) &&& 192) = 128 := by decide +kernel
theorem own_cb (x : Int32) (h1 : -128 ≤ x.toInt) (h2 : x.toInt < -64) : (x &&& (192 : Int32)) = (128 : Int32) := by
  have e : x = Int32.ofInt (((x.toInt + 128).toNat : Int) - 128) := by
    apply Int32.toInt_inj.mp
    rw [Int32.toInt_ofInt_of_le (by omega) (by omega)]
    omega
  rw [e]
  exact own_lc ⟨(x.toInt + 128).toNat, by omega⟩
def own_Y (ys : List Int32) : Prop := ∀ k : Nat, k < 256 → ((k < 192 ∧ ys.getD k 0 = 1) ∨ (192 ≤ k ∧ k < 224 ∧ ys.getD k 0 = 2) ∨ (224 ≤ k ∧ k < 240 ∧ ys.getD k 0 = 3) ∨ (240 ≤ k ∧ ys.getD k 0 = 4))
theorem own_four {p : Int32} (h0 : 0 ≤ p.toInt) (h3 : p.toInt ≤ 3) : p = 0 ∨ p = 1 ∨ p = 2 ∨ p = 3 := by
  simp only [← Int32.toInt_inj, Int32.reduceToInt]
  omega
theorem own_r1 (ys : List Int32) (Y : own_Y ys) (cp ix fb B0 : Int32) (c0 : 0 ≤ cp.toInt) (c1 : cp.toInt < 128) (g0 : 0 ≤ ix.toInt) (g3 : ix.toInt ≤ 3) (h0 : B0.toInt = cp.toInt) (xs : List Int32) (hxs : ∀ k : Nat, k < 8 → xs.getD k 0 = (if (k : Int) = ix.toInt + 0 then B0 else  fb)) : own_t_197 ys xs cp (1 : Int32) ix fb (1 : Int32) = 1 := by
  have i0 := own_i0 ix g0 (by omega)
  have i1 := own_iy ix 1 1 (by decide) (by omega) (by omega)
  have i2 := own_iy ix 2 2 (by decide) (by omega) (by omega)
  have i3 := own_iy ix 3 3 (by decide) (by omega) (by omega)
  have x0 : xs.getD ix.toNatClampNeg 0 = B0 := by rw [hxs _ i0.2.1]; rw [if_pos (by omega)]
  have m8 := own_m8 B0
  have sq : own_seq ys B0 = (1 : Int32) := by
    simp only [own_seq]
    rcases Y _ m8.2.1 with ⟨a, b⟩ | ⟨a, a', b⟩ | ⟨a, a', b⟩ | ⟨a, b⟩ <;> first | exact b | (exfalso; omega)
  have hl : (B0 &&& (255 : Int32)).toInt = cp.toInt := by
    have h : (B0 &&& 255).toInt = B0.toInt % (2 ^ 8 : Nat) := c_mask B0 255 8 (by decide) (by decide)
    omega
  have ld : ((B0 &&& (255 : Int32)) &&& (128 : Int32)) = (0 : Int32) := by
    rw [own_lead (x := B0 &&& (255 : Int32)) (n := (B0 &&& (255 : Int32)).toInt.toNat) (by omega) (by omega)]
    exact own_l1 ⟨(B0 &&& (255 : Int32)).toInt.toNat, by omega⟩ (by show (B0 &&& (255 : Int32)).toInt.toNat < 128; omega)
  have k1 : own_cont xs ix (1 : Int32) (1 : Int32) = 1 := own_ck _ _ _ _ (Or.inl (by decide))
  have k2 : own_cont xs ix (2 : Int32) (1 : Int32) = 1 := own_ck _ _ _ _ (Or.inl (by decide))
  have k3 : own_cont xs ix (3 : Int32) (1 : Int32) = 1 := own_ck _ _ _ _ (Or.inl (by decide))
  have un : (ix + (1 : Int32)).toInt = ix.toInt + 1 := by have k := c_iadd ix 1; have k1 := (ix + 1).toInt_lt; have k2 := (ix + 1).le_toInt; simp only [Int32.reduceToInt] at k; omega
  have uq : ∀ j : Int32, 0 ≤ j.toInt → j.toInt ≤ 7 → own_unt xs j ix (1 : Int32) fb = 1 := by
    intro j a b
    apply own_uk
    have q := own_i0 j a b
    by_cases z1 : j < ix
    · right; rw [Int32.lt_iff_toInt_lt] at z1; rw [hxs _ q.2.1]; rw [if_neg (by omega)]
    by_cases z2 : j < ix + (1 : Int32)
    · exact Or.inl ⟨z1, z2⟩
    · right; rw [Int32.lt_iff_toInt_lt] at z1 z2; rw [hxs _ q.2.1]; rw [if_neg (by omega)]
  have dc : own_cpa ys xs ix = cp := by
    unfold own_cpa
    rw [x0]
    rw [if_neg (by rw [Int32.lt_iff_toInt_lt]; simp only [Int32.reduceToInt]; omega)]
    exact Int32.toInt_inj.mp h0
  simp only [own_t_502, own_t_378, own_t_332, own_t_330, own_t_308, own_t_280, own_t_252, own_t_197]
  rw [x0, sq, k1, k2, k3, uq 0 (by decide) (by decide), uq 1 (by decide) (by decide), uq 2 (by decide) (by decide), uq 3 (by decide) (by decide), uq 4 (by decide) (by decide), uq 5 (by decide) (by decide), uq 6 (by decide) (by decide), uq 7 (by decide) (by decide), dc, ld]
  simp
theorem own_r2 (ys : List Int32) (Y : own_Y ys) (cp ix fb B0 B1 : Int32) (c0 : 128 ≤ cp.toInt) (c1 : cp.toInt < 2048) (g0 : 0 ≤ ix.toInt) (g3 : ix.toInt ≤ 3) (h0 : B0.toInt = 192 + cp.toInt / 64 - 256) (h1 : B1.toInt = 128 + cp.toInt / 1 % 64 - 256) (xs : List Int32) (hxs : ∀ k : Nat, k < 8 → xs.getD k 0 = (if (k : Int) = ix.toInt + 0 then B0 else if (k : Int) = ix.toInt + 1 then B1 else  fb)) : own_t_197 ys xs cp (2 : Int32) ix fb (2 : Int32) = 1 := by
  have i0 := own_i0 ix g0 (by omega)
  have i1 := own_iy ix 1 1 (by decide) (by omega) (by omega)
  have i2 := own_iy ix 2 2 (by decide) (by omega) (by omega)
  have i3 := own_iy ix 3 3 (by decide) (by omega) (by omega)
  have x0 : xs.getD ix.toNatClampNeg 0 = B0 := by rw [hxs _ i0.2.1]; rw [if_pos (by omega)]
  have x1 : xs.getD (ix + (1 : Int32)).toNatClampNeg 0 = B1 := by rw [hxs _ i1.2.1]; rw [if_neg (by omega)]; rw [if_pos (by omega)]
  have m8 := own_m8 B0
  have sq : own_seq ys B0 = (2 : Int32) := by
    simp only [own_seq]
    rcases Y _ m8.2.1 with ⟨a, b⟩ | ⟨a, a', b⟩ | ⟨a, a', b⟩ | ⟨a, b⟩ <;> first | exact b | (exfalso; omega)
  have hl : (B0 &&& (255 : Int32)).toInt = 192 + cp.toInt / 64 := by
    have h : (B0 &&& 255).toInt = B0.toInt % (2 ^ 8 : Nat) := c_mask B0 255 8 (by decide) (by decide)
    omega
  have ld : ((B0 &&& (255 : Int32)) &&& (224 : Int32)) = (192 : Int32) := by
    rw [own_lead (x := B0 &&& (255 : Int32)) (n := (B0 &&& (255 : Int32)).toInt.toNat) (by omega) (by omega)]
    exact own_l2 ⟨(B0 &&& (255 : Int32)).toInt.toNat, by omega⟩ (by show 192 ≤ (B0 &&& (255 : Int32)).toInt.toNat; omega) (by show (B0 &&& (255 : Int32)).toInt.toNat < 224; omega)
  have k1 : own_cont xs ix (1 : Int32) (2 : Int32) = 1 := own_ck _ _ _ _ (Or.inr (by rw [x1]; exact own_cb B1 (by omega) (by omega)))
  have k2 : own_cont xs ix (2 : Int32) (2 : Int32) = 1 := own_ck _ _ _ _ (Or.inl (by decide))
  have k3 : own_cont xs ix (3 : Int32) (2 : Int32) = 1 := own_ck _ _ _ _ (Or.inl (by decide))
  have un : (ix + (2 : Int32)).toInt = ix.toInt + 2 := by have k := c_iadd ix 2; have k1 := (ix + 2).toInt_lt; have k2 := (ix + 2).le_toInt; simp only [Int32.reduceToInt] at k; omega
  have uq : ∀ j : Int32, 0 ≤ j.toInt → j.toInt ≤ 7 → own_unt xs j ix (2 : Int32) fb = 1 := by
    intro j a b
    apply own_uk
    have q := own_i0 j a b
    by_cases z1 : j < ix
    · right; rw [Int32.lt_iff_toInt_lt] at z1; rw [hxs _ q.2.1]; rw [if_neg (by omega)]; rw [if_neg (by omega)]
    by_cases z2 : j < ix + (2 : Int32)
    · exact Or.inl ⟨z1, z2⟩
    · right; rw [Int32.lt_iff_toInt_lt] at z1 z2; rw [hxs _ q.2.1]; rw [if_neg (by omega)]; rw [if_neg (by omega)]
  have dc : own_cpa ys xs ix = cp := by
    unfold own_cpa
    rw [x0]
    rw [if_pos (by rw [Int32.lt_iff_toInt_lt]; simp only [Int32.reduceToInt]; omega)]
    have yv : ys.getD (B0 &&& (255 : Int32)).toNatClampNeg 0 = (2 : Int32) := by have q := sq; simp only [own_seq] at q; exact q
    rw [yv]
    have c0v : (B0 &&& ((127 : Int32) >>> ((2 : Int32) &&& 31))).toInt = cp.toInt / 64 := by
      have h : (B0 &&& ((127 : Int32) >>> ((2 : Int32) &&& 31))).toInt = B0.toInt % (2 ^ 5 : Nat) := c_mask B0 _ 5 (by decide) (by decide)
      omega
    generalize B0 &&& ((127 : Int32) >>> ((2 : Int32) &&& 31)) = d0 at *
    rw [own_clS, if_pos (by decide), show (ix + (1 : Int32)) = ix + (1 : Int32) from rfl, x1]
    have d1v := own_step d0 B1 (by omega) (by omega)
    generalize (d0 <<< ((6 : Int32) &&& 31)) ||| (B1 &&& (63 : Int32)) = d1 at *
    rw [own_clS, if_neg (by decide)]
    apply Int32.toInt_inj.mp
    omega
  simp only [own_t_502, own_t_378, own_t_332, own_t_330, own_t_308, own_t_280, own_t_252, own_t_197]
  rw [x0, sq, k1, k2, k3, uq 0 (by decide) (by decide), uq 1 (by decide) (by decide), uq 2 (by decide) (by decide), uq 3 (by decide) (by decide), uq 4 (by decide) (by decide), uq 5 (by decide) (by decide), uq 6 (by decide) (by decide), uq 7 (by decide) (by decide), dc, ld]
  simp
theorem own_r3 (ys : List Int32) (Y : own_Y ys) (cp ix fb B0 B1 B2 : Int32) (c0 : 2048 ≤ cp.toInt) (c1 : cp.toInt < 65536) (g0 : 0 ≤ ix.toInt) (g3 : ix.toInt ≤ 3) (h0 : B0.toInt = 224 + cp.toInt / 4096 - 256) (h1 : B1.toInt = 128 + cp.toInt / 64 % 64 - 256) (h2 : B2.toInt = 128 + cp.toInt / 1 % 64 - 256) (xs : List Int32) (hxs : ∀ k : Nat, k < 8 → xs.getD k 0 = (if (k : Int) = ix.toInt + 0 then B0 else if (k : Int) = ix.toInt + 1 then B1 else if (k : Int) = ix.toInt + 2 then B2 else  fb)) : own_t_197 ys xs cp (3 : Int32) ix fb (3 : Int32) = 1 := by
  have i0 := own_i0 ix g0 (by omega)
  have i1 := own_iy ix 1 1 (by decide) (by omega) (by omega)
  have i2 := own_iy ix 2 2 (by decide) (by omega) (by omega)
  have i3 := own_iy ix 3 3 (by decide) (by omega) (by omega)
  have x0 : xs.getD ix.toNatClampNeg 0 = B0 := by rw [hxs _ i0.2.1]; rw [if_pos (by omega)]
  have x1 : xs.getD (ix + (1 : Int32)).toNatClampNeg 0 = B1 := by rw [hxs _ i1.2.1]; rw [if_neg (by omega)]; rw [if_pos (by omega)]
  have x2 : xs.getD (ix + (2 : Int32)).toNatClampNeg 0 = B2 := by rw [hxs _ i2.2.1]; rw [if_neg (by omega)]; rw [if_neg (by omega)]; rw [if_pos (by omega)]
  have m8 := own_m8 B0
  have sq : own_seq ys B0 = (3 : Int32) := by
    simp only [own_seq]
    rcases Y _ m8.2.1 with ⟨a, b⟩ | ⟨a, a', b⟩ | ⟨a, a', b⟩ | ⟨a, b⟩ <;> first | exact b | (exfalso; omega)
  have hl : (B0 &&& (255 : Int32)).toInt = 224 + cp.toInt / 4096 := by
    have h : (B0 &&& 255).toInt = B0.toInt % (2 ^ 8 : Nat) := c_mask B0 255 8 (by decide) (by decide)
    omega
  have ld : ((B0 &&& (255 : Int32)) &&& (240 : Int32)) = (224 : Int32) := by
    rw [own_lead (x := B0 &&& (255 : Int32)) (n := (B0 &&& (255 : Int32)).toInt.toNat) (by omega) (by omega)]
    exact own_l3 ⟨(B0 &&& (255 : Int32)).toInt.toNat, by omega⟩ (by show 224 ≤ (B0 &&& (255 : Int32)).toInt.toNat; omega) (by show (B0 &&& (255 : Int32)).toInt.toNat < 240; omega)
  have k1 : own_cont xs ix (1 : Int32) (3 : Int32) = 1 := own_ck _ _ _ _ (Or.inr (by rw [x1]; exact own_cb B1 (by omega) (by omega)))
  have k2 : own_cont xs ix (2 : Int32) (3 : Int32) = 1 := own_ck _ _ _ _ (Or.inr (by rw [x2]; exact own_cb B2 (by omega) (by omega)))
  have k3 : own_cont xs ix (3 : Int32) (3 : Int32) = 1 := own_ck _ _ _ _ (Or.inl (by decide))
  have un : (ix + (3 : Int32)).toInt = ix.toInt + 3 := by have k := c_iadd ix 3; have k1 := (ix + 3).toInt_lt; have k2 := (ix + 3).le_toInt; simp only [Int32.reduceToInt] at k; omega
  have uq : ∀ j : Int32, 0 ≤ j.toInt → j.toInt ≤ 7 → own_unt xs j ix (3 : Int32) fb = 1 := by
    intro j a b
    apply own_uk
    have q := own_i0 j a b
    by_cases z1 : j < ix
    · right; rw [Int32.lt_iff_toInt_lt] at z1; rw [hxs _ q.2.1]; rw [if_neg (by omega)]; rw [if_neg (by omega)]; rw [if_neg (by omega)]
    by_cases z2 : j < ix + (3 : Int32)
    · exact Or.inl ⟨z1, z2⟩
    · right; rw [Int32.lt_iff_toInt_lt] at z1 z2; rw [hxs _ q.2.1]; rw [if_neg (by omega)]; rw [if_neg (by omega)]; rw [if_neg (by omega)]
  have dc : own_cpa ys xs ix = cp := by
    unfold own_cpa
    rw [x0]
    rw [if_pos (by rw [Int32.lt_iff_toInt_lt]; simp only [Int32.reduceToInt]; omega)]
    have yv : ys.getD (B0 &&& (255 : Int32)).toNatClampNeg 0 = (3 : Int32) := by have q := sq; simp only [own_seq] at q; exact q
    rw [yv]
    have c0v : (B0 &&& ((127 : Int32) >>> ((3 : Int32) &&& 31))).toInt = cp.toInt / 4096 := by
      have h : (B0 &&& ((127 : Int32) >>> ((3 : Int32) &&& 31))).toInt = B0.toInt % (2 ^ 4 : Nat) := c_mask B0 _ 4 (by decide) (by decide)
      omega
    generalize B0 &&& ((127 : Int32) >>> ((3 : Int32) &&& 31)) = d0 at *
    rw [own_clS, if_pos (by decide), show (ix + (1 : Int32)) = ix + (1 : Int32) from rfl, x1]
    have d1v := own_step d0 B1 (by omega) (by omega)
    generalize (d0 <<< ((6 : Int32) &&& 31)) ||| (B1 &&& (63 : Int32)) = d1 at *
    rw [own_clS, if_pos (by decide), show (ix + ((1 : Int32) + 1)) = ix + (2 : Int32) from rfl, x2]
    have d2v := own_step d1 B2 (by omega) (by omega)
    generalize (d1 <<< ((6 : Int32) &&& 31)) ||| (B2 &&& (63 : Int32)) = d2 at *
    rw [own_clS, if_neg (by decide)]
    apply Int32.toInt_inj.mp
    omega
  simp only [own_t_502, own_t_378, own_t_332, own_t_330, own_t_308, own_t_280, own_t_252, own_t_197]
  rw [x0, sq, k1, k2, k3, uq 0 (by decide) (by decide), uq 1 (by decide) (by decide), uq 2 (by decide) (by decide), uq 3 (by decide) (by decide), uq 4 (by decide) (by decide), uq 5 (by decide) (by decide), uq 6 (by decide) (by decide), uq 7 (by decide) (by decide), dc, ld]
  simp
theorem own_r4 (ys : List Int32) (Y : own_Y ys) (cp ix fb B0 B1 B2 B3 : Int32) (c0 : 65536 ≤ cp.toInt) (c1 : cp.toInt < 1114112) (g0 : 0 ≤ ix.toInt) (g3 : ix.toInt ≤ 3) (h0 : B0.toInt = 240 + cp.toInt / 262144 - 256) (h1 : B1.toInt = 128 + cp.toInt / 4096 % 64 - 256) (h2 : B2.toInt = 128 + cp.toInt / 64 % 64 - 256) (h3 : B3.toInt = 128 + cp.toInt / 1 % 64 - 256) (xs : List Int32) (hxs : ∀ k : Nat, k < 8 → xs.getD k 0 = (if (k : Int) = ix.toInt + 0 then B0 else if (k : Int) = ix.toInt + 1 then B1 else if (k : Int) = ix.toInt + 2 then B2 else if (k : Int) = ix.toInt + 3 then B3 else  fb)) : own_t_197 ys xs cp (4 : Int32) ix fb (4 : Int32) = 1 := by
  have i0 := own_i0 ix g0 (by omega)
  have i1 := own_iy ix 1 1 (by decide) (by omega) (by omega)
  have i2 := own_iy ix 2 2 (by decide) (by omega) (by omega)
  have i3 := own_iy ix 3 3 (by decide) (by omega) (by omega)
  have x0 : xs.getD ix.toNatClampNeg 0 = B0 := by rw [hxs _ i0.2.1]; rw [if_pos (by omega)]
  have x1 : xs.getD (ix + (1 : Int32)).toNatClampNeg 0 = B1 := by rw [hxs _ i1.2.1]; rw [if_neg (by omega)]; rw [if_pos (by omega)]
  have x2 : xs.getD (ix + (2 : Int32)).toNatClampNeg 0 = B2 := by rw [hxs _ i2.2.1]; rw [if_neg (by omega)]; rw [if_neg (by omega)]; rw [if_pos (by omega)]
  have x3 : xs.getD (ix + (3 : Int32)).toNatClampNeg 0 = B3 := by rw [hxs _ i3.2.1]; rw [if_neg (by omega)]; rw [if_neg (by omega)]; rw [if_neg (by omega)]; rw [if_pos (by omega)]
  have m8 := own_m8 B0
  have sq : own_seq ys B0 = (4 : Int32) := by
    simp only [own_seq]
    rcases Y _ m8.2.1 with ⟨a, b⟩ | ⟨a, a', b⟩ | ⟨a, a', b⟩ | ⟨a, b⟩ <;> first | exact b | (exfalso; omega)
  have hl : (B0 &&& (255 : Int32)).toInt = 240 + cp.toInt / 262144 := by
    have h : (B0 &&& 255).toInt = B0.toInt % (2 ^ 8 : Nat) := c_mask B0 255 8 (by decide) (by decide)
    omega
  have ld : ((B0 &&& (255 : Int32)) &&& (248 : Int32)) = (240 : Int32) := by
    rw [own_lead (x := B0 &&& (255 : Int32)) (n := (B0 &&& (255 : Int32)).toInt.toNat) (by omega) (by omega)]
    exact own_l4 ⟨(B0 &&& (255 : Int32)).toInt.toNat, by omega⟩ (by show 240 ≤ (B0 &&& (255 : Int32)).toInt.toNat; omega) (by show (B0 &&& (255 : Int32)).toInt.toNat < 248; omega)
  have k1 : own_cont xs ix (1 : Int32) (4 : Int32) = 1 := own_ck _ _ _ _ (Or.inr (by rw [x1]; exact own_cb B1 (by omega) (by omega)))
  have k2 : own_cont xs ix (2 : Int32) (4 : Int32) = 1 := own_ck _ _ _ _ (Or.inr (by rw [x2]; exact own_cb B2 (by omega) (by omega)))
  have k3 : own_cont xs ix (3 : Int32) (4 : Int32) = 1 := own_ck _ _ _ _ (Or.inr (by rw [x3]; exact own_cb B3 (by omega) (by omega)))
  have un : (ix + (4 : Int32)).toInt = ix.toInt + 4 := by have k := c_iadd ix 4; have k1 := (ix + 4).toInt_lt; have k2 := (ix + 4).le_toInt; simp only [Int32.reduceToInt] at k; omega
  have uq : ∀ j : Int32, 0 ≤ j.toInt → j.toInt ≤ 7 → own_unt xs j ix (4 : Int32) fb = 1 := by
    intro j a b
    apply own_uk
    have q := own_i0 j a b
    by_cases z1 : j < ix
    · right; rw [Int32.lt_iff_toInt_lt] at z1; rw [hxs _ q.2.1]; rw [if_neg (by omega)]; rw [if_neg (by omega)]; rw [if_neg (by omega)]; rw [if_neg (by omega)]
    by_cases z2 : j < ix + (4 : Int32)
    · exact Or.inl ⟨z1, z2⟩
    · right; rw [Int32.lt_iff_toInt_lt] at z1 z2; rw [hxs _ q.2.1]; rw [if_neg (by omega)]; rw [if_neg (by omega)]; rw [if_neg (by omega)]; rw [if_neg (by omega)]
  have dc : own_cpa ys xs ix = cp := by
    unfold own_cpa
    rw [x0]
    rw [if_pos (by rw [Int32.lt_iff_toInt_lt]; simp only [Int32.reduceToInt]; omega)]
    have yv : ys.getD (B0 &&& (255 : Int32)).toNatClampNeg 0 = (4 : Int32) := by have q := sq; simp only [own_seq] at q; exact q
    rw [yv]
    have c0v : (B0 &&& ((127 : Int32) >>> ((4 : Int32) &&& 31))).toInt = cp.toInt / 262144 := by
      have h : (B0 &&& ((127 : Int32) >>> ((4 : Int32) &&& 31))).toInt = B0.toInt % (2 ^ 3 : Nat) := c_mask B0 _ 3 (by decide) (by decide)
      omega
    generalize B0 &&& ((127 : Int32) >>> ((4 : Int32) &&& 31)) = d0 at *
    rw [own_clS, if_pos (by decide), show (ix + (1 : Int32)) = ix + (1 : Int32) from rfl, x1]
    have d1v := own_step d0 B1 (by omega) (by omega)
    generalize (d0 <<< ((6 : Int32) &&& 31)) ||| (B1 &&& (63 : Int32)) = d1 at *
    rw [own_clS, if_pos (by decide), show (ix + ((1 : Int32) + 1)) = ix + (2 : Int32) from rfl, x2]
    have d2v := own_step d1 B2 (by omega) (by omega)
    generalize (d1 <<< ((6 : Int32) &&& 31)) ||| (B2 &&& (63 : Int32)) = d2 at *
    rw [own_clS, if_pos (by decide), show (ix + ((1 : Int32) + 1 + 1)) = ix + (3 : Int32) from rfl, x3]
    have d3v := own_step d2 B3 (by omega) (by omega)
    generalize (d2 <<< ((6 : Int32) &&& 31)) ||| (B3 &&& (63 : Int32)) = d3 at *
    apply Int32.toInt_inj.mp
    show d3.toInt = cp.toInt
    omega
  simp only [own_t_502, own_t_378, own_t_332, own_t_330, own_t_308, own_t_280, own_t_252, own_t_197]
  rw [x0, sq, k1, k2, k3, uq 0 (by decide) (by decide), uq 1 (by decide) (by decide), uq 2 (by decide) (by decide), uq 3 (by decide) (by decide), uq 4 (by decide) (by decide), uq 5 (by decide) (by decide), uq 6 (by decide) (by decide), uq 7 (by decide) (by decide), dc, ld]
  simp
theorem own_getset (xs : List Int32) (a k : Nat) (v : Int32) (ha : a < xs.length) : (xs.set a v).getD k 0 = if k = a then v else xs.getD k 0 := by
  simp only [List.getD, List.getElem?_set]
  by_cases h : a = k
  · subst h; simp [ha]
  · simp [h, Ne.symm h]
theorem own_rep (fb : Int32) (k : Nat) (hk : k < 8) : [fb, fb, fb, fb, fb, fb, fb, fb].getD k 0 = fb := by
  rcases (by omega : k = 0 ∨ k = 1 ∨ k = 2 ∨ k = 3 ∨ k = 4 ∨ k = 5 ∨ k = 6 ∨ k = 7) with rfl | rfl | rfl | rfl | rfl | rfl | rfl | rfl <;> rfl
theorem own_enc_len (xs : List Int32) (p0 p2 : Int32) : (own_enc xs p0 p2).length = xs.length := by
  unfold own_enc
  by_cases h1 : p0 < (128 : Int32)
  · simp only [if_pos h1, List.length_set]
  by_cases h2 : p0 < (2048 : Int32)
  · simp only [if_neg h1, if_pos h2, List.length_set]
  by_cases h3 : p0 < (65536 : Int32)
  · simp only [if_neg h1, if_neg h2, if_pos h3, List.length_set]
  · simp only [if_neg h1, if_neg h2, if_neg h3, List.length_set]
theorem own_plain (ys : List Int32) (Y : own_Y ys) (cp ix fb : Int32) (c0 : 0 ≤ cp.toInt) (c1 : cp.toInt < 1114112) (g0 : 0 ≤ ix.toInt) (g3 : ix.toInt ≤ 3) : own_t_197 ys (own_enc [fb, fb, fb, fb, fb, fb, fb, fb] cp ix) cp (own_el cp) ix fb (own_el cp) = 1 := by
  have i0 := own_i0 ix g0 (by omega)
  have i1 := own_iy ix 1 1 (by decide) (by omega) (by omega)
  have i2 := own_iy ix 2 2 (by decide) (by omega) (by omega)
  have i3 := own_iy ix 3 3 (by decide) (by omega) (by omega)
  have s6 := own_sh cp 6 6 (by decide) (by decide) c0
  have s12 := own_sh cp 12 12 (by decide) (by decide) c0
  have s18 := own_sh cp 18 18 (by decide) (by decide) c0
  have m0 := own_m6 cp
  have m6 := own_m6 (XT.ushr cp 6)
  have m12 := own_m6 (XT.ushr cp 12)
  unfold own_enc own_el
  by_cases z1 : cp < (128 : Int32)
  · simp only [if_pos z1]
    rw [Int32.lt_iff_toInt_lt] at z1; simp only [Int32.reduceToInt] at z1
    have b0 := own_byv cp
    refine own_r1 ys Y cp ix fb (own_by cp) (by omega) (by omega) g0 g3 (by omega) _ (fun k hk => ?_)
    rw [own_getset _ _ _ _ (by first | exact i0.2.1 | (simp only [List.length_set]; exact i0.2.1))]
    rw [own_rep fb k hk]
    by_cases y0 : (k : Int) = ix.toInt + 0
    · rw [if_pos y0]; rw [if_pos (by omega)]; rfl
    rw [if_neg y0]
    rw [if_neg (by omega)]
  simp only [if_neg z1]
  rw [Int32.lt_iff_toInt_lt] at z1; simp only [Int32.reduceToInt] at z1
  by_cases z2 : cp < (2048 : Int32)
  · simp only [if_pos z2]
    rw [Int32.lt_iff_toInt_lt] at z2; simp only [Int32.reduceToInt] at z2
    have b0 := own_byv ((192 : Int32) ||| (XT.ushr cp (6 : Int32)))
    have o0 := own_or (192 : Int32) (XT.ushr cp (6 : Int32)) 5 (by decide) 32 (by decide) (by decide) (by omega) (by omega) (by simp only [Int32.reduceToInt]; omega) (by decide)
    simp only [Int32.reduceToInt] at o0
    have b1 := own_byv ((128 : Int32) ||| (cp &&& (63 : Int32)))
    have o1 := own_or (128 : Int32) (cp &&& (63 : Int32)) 6 (by decide) 64 (by decide) (by decide) (by omega) (by omega) (by simp only [Int32.reduceToInt]; omega) (by decide)
    simp only [Int32.reduceToInt] at o1
    refine own_r2 ys Y cp ix fb (own_by ((192 : Int32) ||| (XT.ushr cp (6 : Int32)))) (own_by ((128 : Int32) ||| (cp &&& (63 : Int32)))) (by omega) (by omega) g0 g3 (by omega) (by omega) _ (fun k hk => ?_)
    rw [own_getset _ _ _ _ (by first | exact i1.2.1 | (simp only [List.length_set]; exact i1.2.1))]
    rw [own_getset _ _ _ _ (by first | exact i0.2.1 | (simp only [List.length_set]; exact i0.2.1))]
    rw [own_rep fb k hk]
    by_cases y0 : (k : Int) = ix.toInt + 0
    · rw [if_pos y0]; rw [if_neg (by omega)]; rw [if_pos (by omega)]; rfl
    rw [if_neg y0]
    by_cases y1 : (k : Int) = ix.toInt + 1
    · rw [if_pos y1]; rw [if_pos (by omega)]; rfl
    rw [if_neg y1]
    rw [if_neg (by omega)]; rw [if_neg (by omega)]
  simp only [if_neg z2]
  rw [Int32.lt_iff_toInt_lt] at z2; simp only [Int32.reduceToInt] at z2
  by_cases z3 : cp < (65536 : Int32)
  · simp only [if_pos z3]
    rw [Int32.lt_iff_toInt_lt] at z3; simp only [Int32.reduceToInt] at z3
    have b0 := own_byv ((224 : Int32) ||| (XT.ushr cp (12 : Int32)))
    have o0 := own_or (224 : Int32) (XT.ushr cp (12 : Int32)) 4 (by decide) 16 (by decide) (by decide) (by omega) (by omega) (by simp only [Int32.reduceToInt]; omega) (by decide)
    simp only [Int32.reduceToInt] at o0
    have b1 := own_byv ((128 : Int32) ||| ((XT.ushr cp (6 : Int32)) &&& (63 : Int32)))
    have o1 := own_or (128 : Int32) ((XT.ushr cp (6 : Int32)) &&& (63 : Int32)) 6 (by decide) 64 (by decide) (by decide) (by omega) (by omega) (by simp only [Int32.reduceToInt]; omega) (by decide)
    simp only [Int32.reduceToInt] at o1
    have b2 := own_byv ((128 : Int32) ||| (cp &&& (63 : Int32)))
    have o2 := own_or (128 : Int32) (cp &&& (63 : Int32)) 6 (by decide) 64 (by decide) (by decide) (by omega) (by omega) (by simp only [Int32.reduceToInt]; omega) (by decide)
    simp only [Int32.reduceToInt] at o2
    refine own_r3 ys Y cp ix fb (own_by ((224 : Int32) ||| (XT.ushr cp (12 : Int32)))) (own_by ((128 : Int32) ||| ((XT.ushr cp (6 : Int32)) &&& (63 : Int32)))) (own_by ((128 : Int32) ||| (cp &&& (63 : Int32)))) (by omega) (by omega) g0 g3 (by omega) (by omega) (by omega) _ (fun k hk => ?_)
    rw [own_getset _ _ _ _ (by first | exact i2.2.1 | (simp only [List.length_set]; exact i2.2.1))]
    rw [own_getset _ _ _ _ (by first | exact i1.2.1 | (simp only [List.length_set]; exact i1.2.1))]
    rw [own_getset _ _ _ _ (by first | exact i0.2.1 | (simp only [List.length_set]; exact i0.2.1))]
    rw [own_rep fb k hk]
    by_cases y0 : (k : Int) = ix.toInt + 0
    · rw [if_pos y0]; rw [if_neg (by omega)]; rw [if_neg (by omega)]; rw [if_pos (by omega)]; rfl
    rw [if_neg y0]
    by_cases y1 : (k : Int) = ix.toInt + 1
    · rw [if_pos y1]; rw [if_neg (by omega)]; rw [if_pos (by omega)]; rfl
    rw [if_neg y1]
    by_cases y2 : (k : Int) = ix.toInt + 2
    · rw [if_pos y2]; rw [if_pos (by omega)]; rfl
    rw [if_neg y2]
    rw [if_neg (by omega)]; rw [if_neg (by omega)]; rw [if_neg (by omega)]
  simp only [if_neg z3]
  rw [Int32.lt_iff_toInt_lt] at z3; simp only [Int32.reduceToInt] at z3
  have b0 := own_byv ((240 : Int32) ||| (XT.ushr cp (18 : Int32)))
  have o0 := own_or (240 : Int32) (XT.ushr cp (18 : Int32)) 3 (by decide) 8 (by decide) (by decide) (by omega) (by omega) (by simp only [Int32.reduceToInt]; omega) (by decide)
  simp only [Int32.reduceToInt] at o0
  have b1 := own_byv ((128 : Int32) ||| ((XT.ushr cp (12 : Int32)) &&& (63 : Int32)))
  have o1 := own_or (128 : Int32) ((XT.ushr cp (12 : Int32)) &&& (63 : Int32)) 6 (by decide) 64 (by decide) (by decide) (by omega) (by omega) (by simp only [Int32.reduceToInt]; omega) (by decide)
  simp only [Int32.reduceToInt] at o1
  have b2 := own_byv ((128 : Int32) ||| ((XT.ushr cp (6 : Int32)) &&& (63 : Int32)))
  have o2 := own_or (128 : Int32) ((XT.ushr cp (6 : Int32)) &&& (63 : Int32)) 6 (by decide) 64 (by decide) (by decide) (by omega) (by omega) (by simp only [Int32.reduceToInt]; omega) (by decide)
  simp only [Int32.reduceToInt] at o2
  have b3 := own_byv ((128 : Int32) ||| (cp &&& (63 : Int32)))
  have o3 := own_or (128 : Int32) (cp &&& (63 : Int32)) 6 (by decide) 64 (by decide) (by decide) (by omega) (by omega) (by simp only [Int32.reduceToInt]; omega) (by decide)
  simp only [Int32.reduceToInt] at o3
  refine own_r4 ys Y cp ix fb (own_by ((240 : Int32) ||| (XT.ushr cp (18 : Int32)))) (own_by ((128 : Int32) ||| ((XT.ushr cp (12 : Int32)) &&& (63 : Int32)))) (own_by ((128 : Int32) ||| ((XT.ushr cp (6 : Int32)) &&& (63 : Int32)))) (own_by ((128 : Int32) ||| (cp &&& (63 : Int32)))) (by omega) (by omega) g0 g3 (by omega) (by omega) (by omega) (by omega) _ (fun k hk => ?_)
  rw [own_getset _ _ _ _ (by first | exact i3.2.1 | (simp only [List.length_set]; exact i3.2.1))]
  rw [own_getset _ _ _ _ (by first | exact i2.2.1 | (simp only [List.length_set]; exact i2.2.1))]
  rw [own_getset _ _ _ _ (by first | exact i1.2.1 | (simp only [List.length_set]; exact i1.2.1))]
  rw [own_getset _ _ _ _ (by first | exact i0.2.1 | (simp only [List.length_set]; exact i0.2.1))]
  rw [own_rep fb k hk]
  by_cases y0 : (k : Int) = ix.toInt + 0
  · rw [if_pos y0]; rw [if_neg (by omega)]; rw [if_neg (by omega)]; rw [if_neg (by omega)]; rw [if_pos (by omega)]; rfl
  rw [if_neg y0]
  by_cases y1 : (k : Int) = ix.toInt + 1
  · rw [if_pos y1]; rw [if_neg (by omega)]; rw [if_neg (by omega)]; rw [if_pos (by omega)]; rfl
  rw [if_neg y1]
  by_cases y2 : (k : Int) = ix.toInt + 2
  · rw [if_pos y2]; rw [if_neg (by omega)]; rw [if_pos (by omega)]; rfl
  rw [if_neg y2]
  by_cases y3 : (k : Int) = ix.toInt + 3
  · rw [if_pos y3]; rw [if_pos (by omega)]; rfl
  rw [if_neg y3]
  rw [if_neg (by omega)]; rw [if_neg (by omega)]; rw [if_neg (by omega)]; rw [if_neg (by omega)]
theorem ef_0 (m : MethodId) (p0 p1 p2 p3 : Int32) : entryFrame m #[(.int p0), (.int p1), (.int p2), (.int p3)] maxLocals = mkF m 0 #[.val (.int p0), .val (.int p1), .val (.int p2), .val (.int p3), .unset, .unset, .unset, .unset, .unset, .unset, .unset, .unset, .unset, .unset] [] := by first | (simp [entryFrame, mkF, argsToLocals, Value.category, maxLocals]; done) | rfl
theorem own_rem (x y : Int32) (h0 : 0 ≤ x.toInt) (hy : 0 < y.toInt) : 0 ≤ (x - x / y * y).toInt ∧ (x - x / y * y).toInt < y.toInt := by
  rw [irem_eq_mod]
  have := (c_iremV x y).1 h0 hy
  exact ⟨this.1, this.2.1⟩
theorem own_mx (x : Int32) : 0 ≤ (x &&& 2147483647).toInt := by
  have : (x &&& 2147483647).toInt = x.toInt % (2 ^ 31 : Nat) := c_mask _ _ 31 (by decide) (by decide)
  omega
theorem own_ad (a b : Int32) (h : a.toInt + b.toInt < 2147483648) (h' : -2147483648 ≤ a.toInt + b.toInt) : (a + b).toInt = a.toInt + b.toInt := by
  have k := c_iadd a b
  have k1 := (a + b).toInt_lt
  have k2 := (a + b).le_toInt
  omega
set_option maxRecDepth 65536 in
set_option maxHeartbeats 40000000 in
theorem rm_law (l : Launch) (Z : State) (a0 : Array Value) (hw : ∀ d ∈ tables_1, d.before a0 Z = true) (p0 p1 p2 p3 : Int32) (h0 : Heap) (n0 : Nat) (Z0 : n0 ≤ h0.size) (w : Addr) (ys : List Int32) (S : Sta Z h0 "com/example/hedge_index/hedgeindex/xml/Utf8" "LENGTHS" "[B" (.ref w)) (AL : OwnGo.Ia Z h0 w .byte ys) (hlY : ys.length = 256) (Y : own_Y ys) :
    OwnGo.Con l x code maxLocals ret room_1 Z #[(.int p0), (.int p1), (.int p2), (.int p3)] h0 (own_Q n0) := by
  refine OwnGo.Con.intro (plainFor_of_name pn_1) ?_
  intro p e s m below meth c T0 X0 hx hby hml hZ hown hnm hret hlk e0
  refine OwnGo.Go.cast (ef_0 m p0 p1 p2 p3) ?_
  have hys : ∀ k : Nat, k < 256 → 1 ≤ (ys.getD k 0).toInt ∧ (ys.getD k 0).toInt ≤ 4 := fun k hk => by
    rcases Y k hk with ⟨-, q⟩ | ⟨-, -, q⟩ | ⟨-, -, q⟩ | ⟨-, q⟩ <;> rw [q] <;> decide
  have N0 := Fr.nil n0
  have Z_0 : n0 ≤ T0.heap.size := by rw [e0]; exact Z0
  have Aw_0 : OwnGo.Ia Z T0.heap w .byte ys := by rw [e0]; exact AL
  have S_0 : Sta Z T0.heap "com/example/hedge_index/hedgeindex/xml/Utf8" "LENGTHS" "[B" (.ref w) := by rw [e0]; exact S
  have W0 : OwnGo.Wk p.tables T0 m c below code := ⟨X0.here, hx, hby⟩
  refine OwnGo.iloadN W0 (pn := 1) at_0 rfl rfl ?_
  refine OwnGo.iconst (v := (3 : Int32)) W0 (pn := 2) at_1 rfl rfl ?_
  refine OwnGo.iand W0 (pn := 3) at_2 rfl ?_
  obtain ⟨kd, e_kd⟩ : ∃ z, z = (p0 &&& (3 : Int32)) := ⟨_, rfl⟩
  rw [← e_kd]
  refine OwnGo.istore W0 (pn := 5) (l' := #[.val (.int p0), .val (.int p1), .val (.int p2), .val (.int p3), .val (.int kd), .unset, .unset, .unset, .unset, .unset, .unset, .unset, .unset, .unset]) at_3 rfl rfl ?_
  refine OwnGo.iloadN W0 (pn := 6) at_5 rfl rfl ?_
  refine OwnGo.ldcI X0 hx hby hZ hown (pn := 8) (hw _ (List.mem_of_getElem? (i := 0) rfl)) at_6 rfl ?_
  refine OwnGo.iand W0 (pn := 9) at_8 rfl ?_
  obtain ⟨vv, e_vv⟩ : ∃ z, z = (p1 &&& (2147483647 : Int32)) := ⟨_, rfl⟩
  rw [← e_vv]
  have hv : 0 ≤ vv.toInt := by rw [e_vv]; exact own_mx p1
  refine OwnGo.istore W0 (pn := 11) (l' := #[.val (.int p0), .val (.int p1), .val (.int p2), .val (.int p3), .val (.int kd), .val (.int vv), .unset, .unset, .unset, .unset, .unset, .unset, .unset, .unset]) at_9 rfl rfl ?_
  have B77 : ∀ (cp : Int32), 0 ≤ cp.toInt → cp.toInt < 1114112 → OwnGo.Go p.tables e below (OwnGo.Qe s room_1 (own_Q n0)) (T0.setTop (mkF m 77 #[.val (.int p0), .val (.int p1), .val (.int p2), .val (.int p3), .val (.int kd), .val (.int vv), .val (.int cp), .unset, .unset, .unset, .unset, .unset, .unset, .unset] [])) := by
    intro cp c0 c1
    have B121 : ∀ (el : Int32), el = own_el cp → OwnGo.Go p.tables e below (OwnGo.Qe s room_1 (own_Q n0)) (T0.setTop (mkF m 121 #[.val (.int p0), .val (.int p1), .val (.int p2), .val (.int p3), .val (.int kd), .val (.int vv), .val (.int cp), .val (.int el), .unset, .unset, .unset, .unset, .unset, .unset] [])) := by
      intro el hel
      refine OwnGo.iloadN W0 (pn := 122) at_121 rfl rfl ?_
      refine OwnGo.iconst (v := (3 : Int32)) W0 (pn := 123) at_122 rfl rfl ?_
      refine OwnGo.iand W0 (pn := 124) at_123 rfl ?_
      obtain ⟨ix, e_ix⟩ : ∃ z, z = (p2 &&& (3 : Int32)) := ⟨_, rfl⟩
      rw [← e_ix]
      have gx : ix.toInt = p2.toInt % (2 ^ 2 : Nat) := by rw [e_ix]; exact c_mask p2 3 2 (by decide) (by decide)
      have g1 : 0 ≤ ix.toInt := by omega
      have g2 : ix.toInt ≤ 3 := by omega
      refine OwnGo.istore W0 (pn := 126) (l' := #[.val (.int p0), .val (.int p1), .val (.int p2), .val (.int p3), .val (.int kd), .val (.int vv), .val (.int cp), .val (.int el), .val (.int ix), .unset, .unset, .unset, .unset, .unset]) at_124 rfl rfl ?_
      refine OwnGo.iloadN W0 (pn := 127) at_126 rfl rfl ?_
      refine OwnGo.i2b W0 (pn := 128) at_127 rfl ?_
      obtain ⟨fb, e_fb⟩ : ∃ z, z = (p3.toInt8.toInt32) := ⟨_, rfl⟩
      rw [← e_fb]
      have hfb : nar .byte fb = fb := by rw [e_fb]; simp [nar]
      refine OwnGo.istore W0 (pn := 130) (l' := #[.val (.int p0), .val (.int p1), .val (.int p2), .val (.int p3), .val (.int kd), .val (.int vv), .val (.int cp), .val (.int el), .val (.int ix), .val (.int fb), .unset, .unset, .unset, .unset]) at_128 rfl rfl ?_
      refine OwnGo.bipush (v := (8 : Int32)) W0 (pn := 132) at_130 rfl rfl ?_
      refine OwnGo.newarr X0 hx hby hZ (pn := 134) (hw _ (List.mem_of_getElem? (i := 1) rfl)) rfl (by decide) 8 (by decide) (by decide) (by decide) (by decide) at_132 rfl (fun T1 X1 E1 Ab_1 => ?_)
      obtain ⟨b, gb⟩ : ∃ z, z = T0.heap.size := ⟨_, rfl⟩
      rw [← gb] at Ab_1 ⊢
      have ne_w_b : w ≠ b := Nat.ne_of_lt (by rw [gb]; exact Aw_0.lt)
      have ne_b_w := ne_w_b.symm
      have Aw_1 := Aw_0.ext E1
      have S_1 : Sta Z T1.heap "com/example/hedge_index/hedgeindex/xml/Utf8" "LENGTHS" "[B" (.ref w) := S_0.ext E1
      have o_b : n0 ≤ b := by rw [gb]; exact Z_0
      have Z_1 : n0 ≤ T1.heap.size := Nat.le_trans Z_0 E1.1
      have W1 : OwnGo.Wk p.tables T1 m c below code := ⟨X1.here, hx, hby⟩
      have Ab_1 : OwnGo.Ia Z T1.heap b .byte [0, 0, 0, 0, 0, 0, 0, 0] := Ab_1
      refine OwnGo.astore W1 (pn := 136) (l' := #[.val (.int p0), .val (.int p1), .val (.int p2), .val (.int p3), .val (.int kd), .val (.int vv), .val (.int cp), .val (.int el), .val (.int ix), .val (.int fb), .val (.ref b), .unset, .unset, .unset]) at_134 rfl rfl rfl ?_
      refine OwnGo.aload W1 (pn := 138) at_136 rfl rfl rfl ?_
      refine OwnGo.iconst (v := (0 : Int32)) W1 (pn := 139) at_138 rfl rfl ?_
      refine OwnGo.iload W1 (pn := 141) at_139 rfl rfl ?_
      refine OwnGo.bastoreB X1 hx hby hZ (pn := 142) Ab_1 (by decide) (by show 0 < 8; decide) o_b N0 at_141 rfl (fun T2 L2 X2 N2 Ab_2 Wr2 => ?_)
      have Ab_2 : OwnGo.Ia Z T2.heap b .byte [(nar .byte fb), 0, 0, 0, 0, 0, 0, 0] := Ab_2
      have Aw_2 := Aw_1.other Wr2 ne_w_b
      have S_2 : Sta Z T2.heap "com/example/hedge_index/hedgeindex/xml/Utf8" "LENGTHS" "[B" (.ref w) := S_1.wr Wr2
      have W2 : OwnGo.Wk p.tables T2 m c below code := ⟨X2.here, hx, hby⟩
      refine OwnGo.aload W2 (pn := 144) at_142 rfl rfl rfl ?_
      refine OwnGo.iconst (v := (1 : Int32)) W2 (pn := 145) at_144 rfl rfl ?_
      refine OwnGo.iload W2 (pn := 147) at_145 rfl rfl ?_
      refine OwnGo.bastoreB X2 hx hby hZ (pn := 148) Ab_2 (by decide) (by show 1 < 8; decide) o_b N2 at_147 rfl (fun T3 L3 X3 N3 Ab_3 Wr3 => ?_)
      have Ab_3 : OwnGo.Ia Z T3.heap b .byte [(nar .byte fb), (nar .byte fb), 0, 0, 0, 0, 0, 0] := Ab_3
      have Aw_3 := Aw_2.other Wr3 ne_w_b
      have S_3 : Sta Z T3.heap "com/example/hedge_index/hedgeindex/xml/Utf8" "LENGTHS" "[B" (.ref w) := S_2.wr Wr3
      have W3 : OwnGo.Wk p.tables T3 m c below code := ⟨X3.here, hx, hby⟩
      refine OwnGo.aload W3 (pn := 150) at_148 rfl rfl rfl ?_
      refine OwnGo.iconst (v := (2 : Int32)) W3 (pn := 151) at_150 rfl rfl ?_
      refine OwnGo.iload W3 (pn := 153) at_151 rfl rfl ?_
      refine OwnGo.bastoreB X3 hx hby hZ (pn := 154) Ab_3 (by decide) (by show 2 < 8; decide) o_b N3 at_153 rfl (fun T4 L4 X4 N4 Ab_4 Wr4 => ?_)
      have Ab_4 : OwnGo.Ia Z T4.heap b .byte [(nar .byte fb), (nar .byte fb), (nar .byte fb), 0, 0, 0, 0, 0] := Ab_4
      have Aw_4 := Aw_3.other Wr4 ne_w_b
      have S_4 : Sta Z T4.heap "com/example/hedge_index/hedgeindex/xml/Utf8" "LENGTHS" "[B" (.ref w) := S_3.wr Wr4
      have W4 : OwnGo.Wk p.tables T4 m c below code := ⟨X4.here, hx, hby⟩
      refine OwnGo.aload W4 (pn := 156) at_154 rfl rfl rfl ?_
      refine OwnGo.iconst (v := (3 : Int32)) W4 (pn := 157) at_156 rfl rfl ?_
      refine OwnGo.iload W4 (pn := 159) at_157 rfl rfl ?_
      refine OwnGo.bastoreB X4 hx hby hZ (pn := 160) Ab_4 (by decide) (by show 3 < 8; decide) o_b N4 at_159 rfl (fun T5 L5 X5 N5 Ab_5 Wr5 => ?_)
      have Ab_5 : OwnGo.Ia Z T5.heap b .byte [(nar .byte fb), (nar .byte fb), (nar .byte fb), (nar .byte fb), 0, 0, 0, 0] := Ab_5
      have Aw_5 := Aw_4.other Wr5 ne_w_b
      have S_5 : Sta Z T5.heap "com/example/hedge_index/hedgeindex/xml/Utf8" "LENGTHS" "[B" (.ref w) := S_4.wr Wr5
      have W5 : OwnGo.Wk p.tables T5 m c below code := ⟨X5.here, hx, hby⟩
      refine OwnGo.aload W5 (pn := 162) at_160 rfl rfl rfl ?_
      refine OwnGo.iconst (v := (4 : Int32)) W5 (pn := 163) at_162 rfl rfl ?_
      refine OwnGo.iload W5 (pn := 165) at_163 rfl rfl ?_
      refine OwnGo.bastoreB X5 hx hby hZ (pn := 166) Ab_5 (by decide) (by show 4 < 8; decide) o_b N5 at_165 rfl (fun T6 L6 X6 N6 Ab_6 Wr6 => ?_)
      have Ab_6 : OwnGo.Ia Z T6.heap b .byte [(nar .byte fb), (nar .byte fb), (nar .byte fb), (nar .byte fb), (nar .byte fb), 0, 0, 0] := Ab_6
      have Aw_6 := Aw_5.other Wr6 ne_w_b
      have S_6 : Sta Z T6.heap "com/example/hedge_index/hedgeindex/xml/Utf8" "LENGTHS" "[B" (.ref w) := S_5.wr Wr6
      have W6 : OwnGo.Wk p.tables T6 m c below code := ⟨X6.here, hx, hby⟩
      refine OwnGo.aload W6 (pn := 168) at_166 rfl rfl rfl ?_
      refine OwnGo.iconst (v := (5 : Int32)) W6 (pn := 169) at_168 rfl rfl ?_
      refine OwnGo.iload W6 (pn := 171) at_169 rfl rfl ?_
      refine OwnGo.bastoreB X6 hx hby hZ (pn := 172) Ab_6 (by decide) (by show 5 < 8; decide) o_b N6 at_171 rfl (fun T7 L7 X7 N7 Ab_7 Wr7 => ?_)
      have Ab_7 : OwnGo.Ia Z T7.heap b .byte [(nar .byte fb), (nar .byte fb), (nar .byte fb), (nar .byte fb), (nar .byte fb), (nar .byte fb), 0, 0] := Ab_7
      have Aw_7 := Aw_6.other Wr7 ne_w_b
      have S_7 : Sta Z T7.heap "com/example/hedge_index/hedgeindex/xml/Utf8" "LENGTHS" "[B" (.ref w) := S_6.wr Wr7
      have W7 : OwnGo.Wk p.tables T7 m c below code := ⟨X7.here, hx, hby⟩
      refine OwnGo.aload W7 (pn := 174) at_172 rfl rfl rfl ?_
      refine OwnGo.bipush (v := (6 : Int32)) W7 (pn := 176) at_174 rfl rfl ?_
      refine OwnGo.iload W7 (pn := 178) at_176 rfl rfl ?_
      refine OwnGo.bastoreB X7 hx hby hZ (pn := 179) Ab_7 (by decide) (by show 6 < 8; decide) o_b N7 at_178 rfl (fun T8 L8 X8 N8 Ab_8 Wr8 => ?_)
      have Ab_8 : OwnGo.Ia Z T8.heap b .byte [(nar .byte fb), (nar .byte fb), (nar .byte fb), (nar .byte fb), (nar .byte fb), (nar .byte fb), (nar .byte fb), 0] := Ab_8
      have Aw_8 := Aw_7.other Wr8 ne_w_b
      have S_8 : Sta Z T8.heap "com/example/hedge_index/hedgeindex/xml/Utf8" "LENGTHS" "[B" (.ref w) := S_7.wr Wr8
      have W8 : OwnGo.Wk p.tables T8 m c below code := ⟨X8.here, hx, hby⟩
      refine OwnGo.aload W8 (pn := 181) at_179 rfl rfl rfl ?_
      refine OwnGo.bipush (v := (7 : Int32)) W8 (pn := 183) at_181 rfl rfl ?_
      refine OwnGo.iload W8 (pn := 185) at_183 rfl rfl ?_
      refine OwnGo.bastoreB X8 hx hby hZ (pn := 186) Ab_8 (by decide) (by show 7 < 8; decide) o_b N8 at_185 rfl (fun T9 L9 X9 N9 Ab_9 Wr9 => ?_)
      have Ab_9 : OwnGo.Ia Z T9.heap b .byte [(nar .byte fb), (nar .byte fb), (nar .byte fb), (nar .byte fb), (nar .byte fb), (nar .byte fb), (nar .byte fb), (nar .byte fb)] := Ab_9
      have Aw_9 := Aw_8.other Wr9 ne_w_b
      have S_9 : Sta Z T9.heap "com/example/hedge_index/hedgeindex/xml/Utf8" "LENGTHS" "[B" (.ref w) := S_8.wr Wr9
      have W9 : OwnGo.Wk p.tables T9 m c below code := ⟨X9.here, hx, hby⟩
      rw [hfb] at Ab_9
      refine OwnGo.iload W9 (pn := 188) at_186 rfl rfl ?_
      refine OwnGo.aload W9 (pn := 190) at_188 rfl rfl rfl ?_
      refine OwnGo.iload W9 (pn := 192) at_190 rfl rfl ?_
      refine OwnGo.callS X9 hx hby hZ hown (argsL := [(.int cp), (.ref b), (.int ix)]) (rest := []) (pn := 195) (hw _ (List.mem_of_getElem? (i := 2) rfl)) (hw _ (List.mem_of_getElem? (i := 3) rfl)) (hw _ (List.mem_of_getElem? (i := 4) rfl)) (hw _ (List.mem_of_getElem? (i := 5) rfl)) (by decide) (rm_enc l Z a0 hw cp b ix [fb, fb, fb, fb, fb, fb, fb, fb] _ n0 Ab_9 o_b rfl g1 g2 w ys S_9 Aw_9 ne_w_b) (by decide) (Nat.le_of_ble_eq_true rfl) (by decide) (by decide) (lenOf pd_0 rfl) (by rw [hml]; rfl) rfl at_192 rfl (fun v10_ T10 L10 Q10 X10_ => ?_)
      obtain ⟨rfl, N10q, Ab_10, Aw_10, S_10⟩ := Q10
      have N10 := Fr.app N9 N10q
      have X10 : Stand p l e room_1 s m #[(.int p0), (.int p1), (.int p2), (.int p3)] below meth c T10 _ 1 8 := X10_
      show OwnGo.Go _ _ _ _ (T10.setTop (mkF m 195 #[.val (.int p0), .val (.int p1), .val (.int p2), .val (.int p3), .val (.int kd), .val (.int vv), .val (.int cp), .val (.int el), .val (.int ix), .val (.int fb), .val (.ref b), .unset, .unset, .unset] [(.int (own_el cp))]))
      have W10 : OwnGo.Wk p.tables T10 m c below code := ⟨X10.here, hx, hby⟩
      refine OwnGo.istore W10 (pn := 197) (l' := #[.val (.int p0), .val (.int p1), .val (.int p2), .val (.int p3), .val (.int kd), .val (.int vv), .val (.int cp), .val (.int el), .val (.int ix), .val (.int fb), .val (.ref b), .val (.int (own_el cp)), .unset, .unset]) at_195 rfl rfl ?_
      subst hel
      exact own_tail l Z a0 hw p e s m below meth c T10 _ p0 p1 p2 p3 kd vv cp (own_el cp) ix fb (own_el cp) 1 b w ys _ _ n0 X10 hx hby hml hZ hown hret hlk rfl S_10 Aw_10 hlY hys Ab_10 (own_enc_len _ _ _) g1 g2 ⟨rfl, N10⟩ (own_plain ys Y cp ix fb c0 c1 g1 g2)
    refine OwnGo.iload W0 (pn := 79) at_77 rfl rfl ?_
    refine OwnGo.sipush (v := (128 : Int32)) W0 (pn := 82) at_79 rfl rfl ?_
    refine OwnGo.icmp_ge W0 (pn := 85) (pt := 91) at_82 rfl (by decide) (by decide) (fun h82 => ?_) (fun h82 => ?_)
    · skip
      refine OwnGo.iconst (v := (1 : Int32)) W0 (pn := 86) at_85 rfl rfl ?_
      refine OwnGo.istore W0 (pn := 88) (l' := #[.val (.int p0), .val (.int p1), .val (.int p2), .val (.int p3), .val (.int kd), .val (.int vv), .val (.int cp), .val (.int (1 : Int32)), .unset, .unset, .unset, .unset, .unset, .unset]) at_86 rfl rfl ?_
      refine OwnGo.goto W0 (pt := 121) at_88 (by decide) (by decide) ?_
      exact B121 _ (by unfold own_el; rw [if_pos h82])
    · skip
      refine OwnGo.iload W0 (pn := 93) at_91 rfl rfl ?_
      refine OwnGo.sipush (v := (2048 : Int32)) W0 (pn := 96) at_93 rfl rfl ?_
      refine OwnGo.icmp_ge W0 (pn := 99) (pt := 105) at_96 rfl (by decide) (by decide) (fun h96 => ?_) (fun h96 => ?_)
      · skip
        refine OwnGo.iconst (v := (2 : Int32)) W0 (pn := 100) at_99 rfl rfl ?_
        refine OwnGo.istore W0 (pn := 102) (l' := #[.val (.int p0), .val (.int p1), .val (.int p2), .val (.int p3), .val (.int kd), .val (.int vv), .val (.int cp), .val (.int (2 : Int32)), .unset, .unset, .unset, .unset, .unset, .unset]) at_100 rfl rfl ?_
        refine OwnGo.goto W0 (pt := 121) at_102 (by decide) (by decide) ?_
        exact B121 _ (by unfold own_el; rw [if_neg h82]; rw [if_pos h96])
      · skip
        refine OwnGo.iload W0 (pn := 107) at_105 rfl rfl ?_
        refine OwnGo.ldcI X0 hx hby hZ hown (pn := 109) (hw _ (List.mem_of_getElem? (i := 21) rfl)) at_107 rfl ?_
        refine OwnGo.icmp_ge W0 (pn := 112) (pt := 118) at_109 rfl (by decide) (by decide) (fun h109 => ?_) (fun h109 => ?_)
        · skip
          refine OwnGo.iconst (v := (3 : Int32)) W0 (pn := 113) at_112 rfl rfl ?_
          refine OwnGo.istore W0 (pn := 115) (l' := #[.val (.int p0), .val (.int p1), .val (.int p2), .val (.int p3), .val (.int kd), .val (.int vv), .val (.int cp), .val (.int (3 : Int32)), .unset, .unset, .unset, .unset, .unset, .unset]) at_113 rfl rfl ?_
          refine OwnGo.goto W0 (pt := 121) at_115 (by decide) (by decide) ?_
          exact B121 _ (by unfold own_el; rw [if_neg h82]; rw [if_neg h96]; rw [if_pos h109])
        · skip
          refine OwnGo.iconst (v := (4 : Int32)) W0 (pn := 119) at_118 rfl rfl ?_
          refine OwnGo.istore W0 (pn := 121) (l' := #[.val (.int p0), .val (.int p1), .val (.int p2), .val (.int p3), .val (.int kd), .val (.int vv), .val (.int cp), .val (.int (4 : Int32)), .unset, .unset, .unset, .unset, .unset, .unset]) at_119 rfl rfl ?_
          exact B121 _ (by unfold own_el; rw [if_neg h82]; rw [if_neg h96]; rw [if_neg h109])
  refine OwnGo.iload W0 (pn := 13) at_11 rfl rfl ?_
  refine OwnGo.if_ne W0 (pn := 16) (pt := 26) at_13 rfl (by decide) (by decide) (fun h13 => ?_) (fun h13 => ?_)
  · skip
    refine OwnGo.iload W0 (pn := 18) at_16 rfl rfl ?_
    refine OwnGo.bipush (v := (127 : Int32)) W0 (pn := 20) at_18 rfl rfl ?_
    refine OwnGo.iand W0 (pn := 21) at_20 rfl ?_
    refine OwnGo.istore W0 (pn := 23) (l' := #[.val (.int p0), .val (.int p1), .val (.int p2), .val (.int p3), .val (.int kd), .val (.int vv), .val (.int (vv &&& (127 : Int32))), .unset, .unset, .unset, .unset, .unset, .unset, .unset]) at_21 rfl rfl ?_
    refine OwnGo.goto W0 (pt := 77) at_23 (by decide) (by decide) ?_
    have q : (vv &&& (127 : Int32)).toInt = vv.toInt % (2 ^ 7 : Nat) := c_mask vv 127 7 (by decide) (by decide)
    exact B77 _ (by omega) (by omega)
  · skip
    refine OwnGo.iload W0 (pn := 28) at_26 rfl rfl ?_
    refine OwnGo.iconst (v := (1 : Int32)) W0 (pn := 29) at_28 rfl rfl ?_
    refine OwnGo.icmp_ne W0 (pn := 32) (pt := 47) at_29 rfl (by decide) (by decide) (fun h29 => ?_) (fun h29 => ?_)
    · skip
      refine OwnGo.sipush (v := (128 : Int32)) W0 (pn := 35) at_32 rfl rfl ?_
      refine OwnGo.iload W0 (pn := 37) at_35 rfl rfl ?_
      refine OwnGo.sipush (v := (1920 : Int32)) W0 (pn := 40) at_37 rfl rfl ?_
      refine OwnGo.irem W0 (pn := 41) at_40 rfl (by decide) ?_
      refine OwnGo.iadd W0 (pn := 42) at_41 rfl ?_
      refine OwnGo.istore W0 (pn := 44) (l' := #[.val (.int p0), .val (.int p1), .val (.int p2), .val (.int p3), .val (.int kd), .val (.int vv), .val (.int ((128 : Int32) + (vv - (vv / (1920 : Int32)) * (1920 : Int32)))), .unset, .unset, .unset, .unset, .unset, .unset, .unset]) at_42 rfl rfl ?_
      refine OwnGo.goto W0 (pt := 77) at_44 (by decide) (by decide) ?_
      have q := own_rem vv 1920 hv (by decide)
      simp only [Int32.reduceToInt] at q
      have q2 := own_ad (128 : Int32) (vv - vv / 1920 * 1920) (by simp only [Int32.reduceToInt]; omega) (by simp only [Int32.reduceToInt]; omega)
      simp only [Int32.reduceToInt] at q2
      exact B77 _ (by omega) (by omega)
    · skip
      refine OwnGo.iload W0 (pn := 49) at_47 rfl rfl ?_
      refine OwnGo.iconst (v := (2 : Int32)) W0 (pn := 50) at_49 rfl rfl ?_
      refine OwnGo.icmp_ne W0 (pn := 53) (pt := 67) at_50 rfl (by decide) (by decide) (fun h50 => ?_) (fun h50 => ?_)
      · skip
        refine OwnGo.sipush (v := (2048 : Int32)) W0 (pn := 56) at_53 rfl rfl ?_
        refine OwnGo.iload W0 (pn := 58) at_56 rfl rfl ?_
        refine OwnGo.ldcI X0 hx hby hZ hown (pn := 60) (hw _ (List.mem_of_getElem? (i := 24) rfl)) at_58 rfl ?_
        refine OwnGo.irem W0 (pn := 61) at_60 rfl (by decide) ?_
        refine OwnGo.iadd W0 (pn := 62) at_61 rfl ?_
        refine OwnGo.istore W0 (pn := 64) (l' := #[.val (.int p0), .val (.int p1), .val (.int p2), .val (.int p3), .val (.int kd), .val (.int vv), .val (.int ((2048 : Int32) + (vv - (vv / (63488 : Int32)) * (63488 : Int32)))), .unset, .unset, .unset, .unset, .unset, .unset, .unset]) at_62 rfl rfl ?_
        refine OwnGo.goto W0 (pt := 77) at_64 (by decide) (by decide) ?_
        have q := own_rem vv 63488 hv (by decide)
        simp only [Int32.reduceToInt] at q
        have q2 := own_ad (2048 : Int32) (vv - vv / 63488 * 63488) (by simp only [Int32.reduceToInt]; omega) (by simp only [Int32.reduceToInt]; omega)
        simp only [Int32.reduceToInt] at q2
        exact B77 _ (by omega) (by omega)
      · skip
        refine OwnGo.ldcI X0 hx hby hZ hown (pn := 69) (hw _ (List.mem_of_getElem? (i := 21) rfl)) at_67 rfl ?_
        refine OwnGo.iload W0 (pn := 71) at_69 rfl rfl ?_
        refine OwnGo.ldcI X0 hx hby hZ hown (pn := 73) (hw _ (List.mem_of_getElem? (i := 22) rfl)) at_71 rfl ?_
        refine OwnGo.irem W0 (pn := 74) at_73 rfl (by decide) ?_
        refine OwnGo.iadd W0 (pn := 75) at_74 rfl ?_
        refine OwnGo.istore W0 (pn := 77) (l' := #[.val (.int p0), .val (.int p1), .val (.int p2), .val (.int p3), .val (.int kd), .val (.int vv), .val (.int ((65536 : Int32) + (vv - (vv / (1048576 : Int32)) * (1048576 : Int32)))), .unset, .unset, .unset, .unset, .unset, .unset, .unset]) at_75 rfl rfl ?_
        have q := own_rem vv 1048576 hv (by decide)
        simp only [Int32.reduceToInt] at q
        have q2 := own_ad (65536 : Int32) (vv - vv / 1048576 * 1048576) (by simp only [Int32.reduceToInt]; omega) (by simp only [Int32.reduceToInt]; omega)
        simp only [Int32.reduceToInt] at q2
        exact B77 _ (by omega) (by omega)
set_option maxRecDepth 65536 in
set_option maxHeartbeats 40000000 in
theorem comes_1 {Post : Tables → Env → Array Value → State → Outcome → State → Prop} (hpost : ∀ tb e args s v u, (limb_1_1.after args s (.returned v) u = true ∧ limb_1_2.after args s (.returned v) u = true ∧ True) → FrameEnd s (.returned v) u (Jvm.fieldLocs frame_1_writes args s ++ Jvm.arrayLocs frame_1_arrays args s ++ Jvm.staticLocs frame_1_statics s) 16 128 → Post tb e args s (.returned v) u) :
    ArmFor flags0 classFile x code maxLocals ret World_1 tables_1 room_1 Calls_1 rest_1 Pre_1 Post := by
  intro l hfl _ _ p e ha hc hk s m args below hf hA hF happ hP
  obtain ⟨hcalls, hrest, hpre⟩ := hP
  obtain ⟨-, -, -, hnamed, -, -, -, hat⟩ := (Spec.applies_iff hf).mp happ
  obtain ⟨hg, hn⟩ := and_e (Cond.before_iff.mp (show (Jvm.Cond.and given_1 narrow_1).before args s = true from hpre))
  obtain ⟨g0, k0⟩ := and_e hg
  obtain ⟨g1, k1⟩ := and_e k0
  obtain ⟨g2, k2⟩ := and_e k1
  obtain ⟨g3, k3⟩ := and_e k2
  obtain ⟨w0, w1, w2, w3, rfl⟩ : ∃ w0 w1 w2 w3 : Value, args = #[w0, w1, w2, w3] := by
    have hs : args.size = 4 := by simpa [Cond.value, given_1] using g0
    obtain ⟨L⟩ := args
    match L, hs with
    | [w0, w1, w2, w3], _ => exact ⟨w0, w1, w2, w3, rfl⟩
  have hw := fun d (hd : d ∈ tables_1) => atoms_spec (ws := Jvm.Cond.code x code maxLocals ret :: tables_1) hat d (List.mem_cons_of_mem _ hd)
  have hfit : Fit s := fun {y c} hc i hi => by
    obtain ⟨ha, rfl⟩ := Array.getElem?_eq_some_iff.mp hc
    have q := List.all_eq_true.mp ((Array.all_eq_true_iff_forall_mem.mp hF) _ (Array.getElem_mem ha)) i (List.mem_range.mpr hi)
    simpa [Array.getElem?_eq_getElem hi] using q
  obtain ⟨i0, ei0⟩ := is_v g1
  obtain rfl : w0 = (.int i0) := Option.some.inj ei0
  obtain ⟨i1, ei1⟩ := is_v g2
  obtain rfl : w1 = (.int i1) := Option.some.inj ei1
  obtain ⟨i2, ei2⟩ := is_v g3
  obtain rfl : w2 = (.int i2) := Option.some.inj ei2
  obtain ⟨i3, ei3⟩ := is_v k3
  obtain rfl : w3 = (.int i3) := Option.some.inj ei3
  obtain ⟨t1, n1⟩ := and_e hn
  obtain ⟨t2, n2⟩ := and_e n1
  obtain ⟨t3, n3⟩ := and_e n2
  obtain ⟨t4, n4⟩ := and_e n3
  obtain ⟨t5, n5⟩ := and_e n4
  obtain ⟨w, ev⟩ := arr_v t1
  obtain ⟨cl, Ar⟩ := Arr.start ev t1
  have hA := Ar.fin (Vm.Alike.refl _)
  obtain ⟨q, ql⟩ := OwnGo.len_eq ev hA t2
  obtain ⟨ys, AL, hl, hget⟩ := OwnGo.Ia.start hfit Ar (by simp) q
  have hsz : cl.slots.size = 256 := by have e := len_toInt q; rw [ql] at e; simp only [Int32.reduceToInt] at e; omega
  have hlY : ys.length = 256 := by rw [hl, hsz]
  have S := Sta.start ev (Or.inr ⟨(hw _ (List.mem_of_getElem? (i := 4) rfl)), (hw _ (List.mem_of_getElem? (i := 10) rfl))⟩)
  have ev' : ∀ idx, (Jvm.Term.static "com/example/hedge_index/hedgeindex/xml/Utf8" "LENGTHS" "[B").eval #[.int i0, .int i1, .int i2, .int i3] s none idx s = some (.ref w) := fun _ => ev
  have Y : own_Y ys := by
    intro k hk
    have hkc : k < cl.slots.size := by omega
    have hx : cl.slots[k]? = some (.int (ys.getD k 0)) := by rw [hget, OwnGo.getD_of (by omega)]; rfl
    have u3 := OwnGo.tab_up ev' hA q hkc hx t3
    have u4 := OwnGo.tab_in ev' hA q hkc hx t4
    have u5 := OwnGo.tab_in ev' hA q hkc hx t5
    have u6 := OwnGo.tab_fr ev' hA q hkc hx n5
    generalize ys.getD k 0 = r at *
    simp only [← Int32.toInt_inj, Int32.reduceToInt] at u3 u4 u5 u6 ⊢
    omega
  obtain ⟨n, o, h1, h2, h3, _, L, rfl, ⟨rfl, N⟩, hq⟩ := rm_law l s _ hw i0 i1 i2 i3 s.heap s.heap.size (Nat.le_refl _) w ys S AL hlY Y tables_1 p e ha hc hk s m _ below hf ((Spec.applies_iff_loose hf).mp happ).1 ⟨rfl, State.Warmed39.refl s, rfl⟩ trivial
  refine ⟨n, _, h1, h2, h3, hpost _ _ _ _ _ _ ⟨Cond.after_iff.mpr rfl, Cond.after_iff.mpr (eq_i res_at (Term.int_eval (1)) (rfl)), trivial⟩ ⟨hq.1, hq.2.1, (hq.2.2.sift fun y hy => Or.inr (N y hy)).mono (by decide) (by decide)⟩⟩
theorem main_1_1 : Claimed_1_1 := comes_1 fun _ _ _ _ _ _ h hF => ⟨h.1, hF⟩
theorem main_1_2 : Claimed_1_2 := comes_1 fun _ _ _ _ _ _ h hF => ⟨h.2.1, hF⟩
end Jvm.Pilot.@@N@@
namespace Jvm.Pilot.@@N@@
open Jvm Jvm.ClassFile Sem Op Lib Jvm.Free Jvm.Stand Jvm.Pilot.@@N@@.Jvm.D
/-! MADE BY PROGRAM (witnessworld.py) out of the Statement's table words and the real class files: 9 classes; the members and pool entries that the words name. The judged class is class 1, her method 3. -/
namespace start1
open Jvm.ClassFile
def u (s : String) : CpInfo := .utf8 (stringToUtf16 s)
/-- a pool by its gaps: so many unusable entries, then the entry; so many at the end -/
def gap : Nat → List CpInfo → List CpInfo
  | 0, r => r
  | n + 1, r => .unusable :: gap n r
def poolList (es : List (Nat × CpInfo)) (last : Nat) : List CpInfo := es.foldr (fun e r => gap e.1 (e.2 :: r)) (gap last [])
def pool (es : List (Nat × CpInfo)) (last : Nat) : Array CpInfo := ⟨poolList es last⟩
def fileOf (pool : Array CpInfo) (this : Nat) (attrs : Array Attribute := #[]) (ms : Array MethodInfo := #[]) (fl : Nat := 33) (sup : Nat := 0) (ifs : Array Nat := #[]) (fds : Array FieldInfo := #[]) : ClassFile where
  minorVersion := 0
  majorVersion := 65
  constantPool := pool
  accessFlags := fl
  thisClass := this
  superClass := sup
  interfaces := ifs
  fields := fds
  methods := ms
  attributes := attrs
def plain (name : String) (sup : Option ClassId) : Class where
  name := name
  kind := .ordinary
  loader := none
  accessFlags := 33
  super := sup
  interfaces := #[]
  cf := none
  fields := #[]
  methods := #[]
  instanceTypes := #[]
  staticTypes := #[]
  resolved := #[]
  callSites := []
  init := .initialized
  statics := none
  mirror := none

def pool0 : Array CpInfo := pool [(5, u "<init>"), (0, u "()V"), (1, .class_ 10), (1, u "java/lang/Object")] 113

def k0m0 : Method := { name := "<init>", desc := "()V", sig := { parameters := [], returnType := none }, accessFlags := 1, code := none }
/-- java/lang/Object -/
def k0 : Class := { plain "java/lang/Object" none with
  accessFlags := 33
  interfaces := #[]
  cf := some (fileOf pool0 8 #[] #[{ accessFlags := 1, nameIndex := 5, descriptorIndex := 6, attributes := #[] }] 33 0 #[] #[])
  fields := #[]
  methods := #[k0m0]
  instanceTypes := #[]
  staticTypes := #[]
  resolved := Array.replicate 124 none
  statics := none }

def pool1 : Array CpInfo := pool [(2, .class_ 4), (1, u "java/lang/Object"), (0, u "<init>"), (0, u "()V"), (0, .integer 2147483647), (0, .integer 63488), (0, .integer 65536), (0, .integer 1048576), (0, .methodref 12 13), (0, .class_ 14), (0, .nameAndType 15 16), (0, u "com/example/hedge_index/hedgeindex/xml/Utf8"), (0, u "encode"), (0, u "(I[BI)I"), (0, .methodref 12 18), (0, .nameAndType 19 20), (0, u "sequenceLength"), (0, u "(B)I"), (0, .methodref 22 23), (0, .class_ 24), (0, .nameAndType 25 26), (0, u "com/example/hedge_index/hedgeindex/xml/Utf8EncodePinLaw"), (0, u "cont"), (0, u "([BIII)Z"), (0, .methodref 22 28), (0, .nameAndType 29 30), (0, u "untouched"), (0, u "([BIIIB)Z"), (0, .methodref 12 32), (0, .nameAndType 33 34), (0, u "codePointAt"), (0, u "([BI)I"), (3, u "law"), (0, u "(IIII)Z")] 4

def k1m0 : Method := { name := "<init>", desc := "()V", sig := { parameters := [], returnType := none }, accessFlags := 2, code := none }
def k1c1 : Code := { maxStack := 3, maxLocals := 5, code := method_2_code, exceptionTable := #[], attributes := #[] }
def k1m1 : Method := { name := "untouched", desc := "([BIIIB)Z", sig := { parameters := [(.array .byte), .int, .int, .int, .byte], returnType := some .boolean }, accessFlags := 10, code := some k1c1 }
def k1c2 : Code := { maxStack := 3, maxLocals := 4, code := method_3_code, exceptionTable := #[], attributes := #[] }
def k1m2 : Method := { name := "cont", desc := "([BIII)Z", sig := { parameters := [(.array .byte), .int, .int, .int], returnType := some .boolean }, accessFlags := 10, code := some k1c2 }
def k1c3 : Code := { maxStack := 5, maxLocals := 14, code := code, exceptionTable := #[], attributes := #[] }
def k1m3 : Method := { name := "law", desc := "(IIII)Z", sig := { parameters := [.int, .int, .int, .int], returnType := some .boolean }, accessFlags := 9, code := some k1c3 }
/-- com/example/hedge_index/hedgeindex/xml/Utf8EncodePinLaw -/
def k1 : Class := { plain "com/example/hedge_index/hedgeindex/xml/Utf8EncodePinLaw" (some 0) with
  accessFlags := 49
  interfaces := #[]
  cf := some (fileOf pool1 22 #[] #[{ accessFlags := 2, nameIndex := 5, descriptorIndex := 6, attributes := #[] }, { accessFlags := 10, nameIndex := 29, descriptorIndex := 30, attributes := #[] }, { accessFlags := 10, nameIndex := 25, descriptorIndex := 26, attributes := #[] }, { accessFlags := 9, nameIndex := 38, descriptorIndex := 39, attributes := #[] }] 49 2 #[] #[])
  fields := #[]
  methods := #[k1m0, k1m1, k1m2, k1m3]
  instanceTypes := #[]
  staticTypes := #[]
  resolved := Array.replicate 44 none
  statics := none }

def pool2 : Array CpInfo := pool [(2, .class_ 4), (1, u "java/lang/Object"), (0, u "<init>"), (0, u "()V"), (0, .fieldref 8 9), (0, .class_ 10), (0, .nameAndType 11 12), (0, u "com/example/hedge_index/hedgeindex/xml/Utf8"), (0, u "LENGTHS"), (0, u "[B"), (2, u "codePointAt"), (0, u "([BI)I"), (2, u "sequenceLength"), (0, u "(B)I"), (6, .integer 65536), (14, u "encode"), (0, u "(I[BI)I")] 3

def k2m0 : Method := { name := "<init>", desc := "()V", sig := { parameters := [], returnType := none }, accessFlags := 2, code := none }
def k2c1 : Code := { maxStack := 3, maxLocals := 1, code := prog_114_method_2_code, exceptionTable := #[], attributes := #[] }
def k2m1 : Method := { name := "sequenceLength", desc := "(B)I", sig := { parameters := [.byte], returnType := some .int }, accessFlags := 8, code := some k2c1 }
def k2c2 : Code := { maxStack := 4, maxLocals := 6, code := prog_114_method_3_code, exceptionTable := #[], attributes := #[] }
def k2m2 : Method := { name := "codePointAt", desc := "([BI)I", sig := { parameters := [(.array .byte), .int], returnType := some .int }, accessFlags := 8, code := some k2c2 }
def k2c3 : Code := { maxStack := 5, maxLocals := 4, code := prog_114_method_6_code, exceptionTable := #[], attributes := #[] }
def k2m3 : Method := { name := "encode", desc := "(I[BI)I", sig := { parameters := [.int, (.array .byte), .int], returnType := some .int }, accessFlags := 8, code := some k2c3 }
/-- com/example/hedge_index/hedgeindex/xml/Utf8 -/
def k2 : Class := { plain "com/example/hedge_index/hedgeindex/xml/Utf8" (some 0) with
  accessFlags := 48
  interfaces := #[]
  cf := some (fileOf pool2 8 #[] #[{ accessFlags := 2, nameIndex := 5, descriptorIndex := 6, attributes := #[] }, { accessFlags := 8, nameIndex := 19, descriptorIndex := 20, attributes := #[] }, { accessFlags := 8, nameIndex := 15, descriptorIndex := 16, attributes := #[] }, { accessFlags := 8, nameIndex := 42, descriptorIndex := 43, attributes := #[] }] 48 2 #[] #[{ accessFlags := 26, nameIndex := 11, descriptorIndex := 12, attributes := #[] }])
  fields := #[{ name := "LENGTHS", type := (.array .byte), accessFlags := 26, slot := 0, constantValue := 0 }]
  methods := #[k2m0, k2m1, k2m2, k2m3]
  instanceTypes := #[]
  staticTypes := #[(.array .byte)]
  resolved := Array.replicate 47 none
  statics := some 0 }

def pool3 : Array CpInfo := pool [(1, u "java/lang/Cloneable"), (0, .class_ 1), (0, u "java/lang/Object"), (0, .class_ 3)] 3

/-- java/lang/Cloneable -/
def k3 : Class := { plain "java/lang/Cloneable" (some 0) with
  accessFlags := 1537
  interfaces := #[]
  cf := some (fileOf pool3 2 #[] #[] 1537 4 #[] #[])
  fields := #[]
  methods := #[]
  instanceTypes := #[]
  staticTypes := #[]
  resolved := Array.replicate 8 none
  statics := none }

def pool4 : Array CpInfo := pool [(1, u "java/io/Serializable"), (0, .class_ 1), (0, u "java/lang/Object"), (0, .class_ 3)] 3

/-- java/io/Serializable -/
def k4 : Class := { plain "java/io/Serializable" (some 0) with
  accessFlags := 1537
  interfaces := #[]
  cf := some (fileOf pool4 2 #[] #[] 1537 4 #[] #[])
  fields := #[]
  methods := #[]
  instanceTypes := #[]
  staticTypes := #[]
  resolved := Array.replicate 8 none
  statics := none }

/-- the primitive byte -/
def k5 : Class := { plain "byte" none with kind := .primitive 'B', accessFlags := 0x411 }
/-- [B -/
def k6 : Class := { plain "[B" (some 0) with kind := .array 5 .byte, interfaces := #[3, 4], accessFlags := 1041 }

/-- the primitive int -/
def k7 : Class := { plain "int" none with kind := .primitive 'I', accessFlags := 0x411 }
/-- [I -/
def k8 : Class := { plain "[I" (some 0) with kind := .array 7 .int, interfaces := #[3, 4], accessFlags := 1041 }

def heap : Heap := #[{ cls := 2, slots := #[.ref 1], vm := .statics 2 },
  { cls := 6, slots := #[.int 1, .int 1, .int 1, .int 1, .int 1, .int 1, .int 1, .int 1, .int 1, .int 1, .int 1, .int 1, .int 1, .int 1, .int 1, .int 1, .int 1, .int 1, .int 1, .int 1, .int 1, .int 1, .int 1, .int 1, .int 1, .int 1, .int 1, .int 1, .int 1, .int 1, .int 1, .int 1, .int 1, .int 1, .int 1, .int 1, .int 1, .int 1, .int 1, .int 1, .int 1, .int 1, .int 1, .int 1, .int 1, .int 1, .int 1, .int 1, .int 1, .int 1, .int 1, .int 1, .int 1, .int 1, .int 1, .int 1, .int 1, .int 1, .int 1, .int 1, .int 1, .int 1, .int 1, .int 1, .int 1, .int 1, .int 1, .int 1, .int 1, .int 1, .int 1, .int 1, .int 1, .int 1, .int 1, .int 1, .int 1, .int 1, .int 1, .int 1, .int 1, .int 1, .int 1, .int 1, .int 1, .int 1, .int 1, .int 1, .int 1, .int 1, .int 1, .int 1, .int 1, .int 1, .int 1, .int 1, .int 1, .int 1, .int 1, .int 1, .int 1, .int 1, .int 1, .int 1, .int 1, .int 1, .int 1, .int 1, .int 1, .int 1, .int 1, .int 1, .int 1, .int 1, .int 1, .int 1, .int 1, .int 1, .int 1, .int 1, .int 1, .int 1, .int 1, .int 1, .int 1, .int 1, .int 1, .int 1, .int 1, .int 1, .int 1, .int 1, .int 1, .int 1, .int 1, .int 1, .int 1, .int 1, .int 1, .int 1, .int 1, .int 1, .int 1, .int 1, .int 1, .int 1, .int 1, .int 1, .int 1, .int 1, .int 1, .int 1, .int 1, .int 1, .int 1, .int 1, .int 1, .int 1, .int 1, .int 1, .int 1, .int 1, .int 1, .int 1, .int 1, .int 1, .int 1, .int 1, .int 1, .int 1, .int 1, .int 1, .int 1, .int 1, .int 1, .int 1, .int 1, .int 1, .int 1, .int 1, .int 1, .int 1, .int 1, .int 1, .int 1, .int 1, .int 1, .int 1, .int 1, .int 1, .int 1, .int 1, .int 2, .int 2, .int 2, .int 2, .int 2, .int 2, .int 2, .int 2, .int 2, .int 2, .int 2, .int 2, .int 2, .int 2, .int 2, .int 2, .int 2, .int 2, .int 2, .int 2, .int 2, .int 2, .int 2, .int 2, .int 2, .int 2, .int 2, .int 2, .int 2, .int 2, .int 2, .int 2, .int 3, .int 3, .int 3, .int 3, .int 3, .int 3, .int 3, .int 3, .int 3, .int 3, .int 3, .int 3, .int 3, .int 3, .int 3, .int 3, .int 4, .int 4, .int 4, .int 4, .int 4, .int 4, .int 4, .int 4, .int 4, .int 4, .int 4, .int 4, .int 4, .int 4, .int 4, .int 4], vm := .none }]
def classes : Array Class := #[k0, k1, k2, k3, k4, k5, k6, k7, k8]
def interned : List (Array UInt16 × Addr) := []
def slotsUsed : Nat := 257
def theMethod : MethodId := ⟨1, 3⟩
def args0 : Array Value := #[.int 5, .int 7, .int 5, .int 5]
def aboutOver (below : List Frame) : State where
  vm := { classes := classes, interned := interned.toArray }
  heap := heap
  slotsUsed := slotsUsed
  threads := #[{ frames := .invoking theMethod args0 :: below }]
def below0 : List Frame := [.native { method := ⟨0, 0⟩, args := #[] }]
def about1 : State := aboutOver below0
def p0 : Program := .bare "" "" ""
def e0 : Env := launch0.env 0 0 0
theorem w_frames : about1.frames = Frame.invoking theMethod args0 :: below0 := rfl
set_option maxRecDepth 65536 in
theorem w_args : argsFit about1.vm theMethod args0 = true := by decide +kernel
set_option maxRecDepth 65536 in
theorem w_heap : heapFits about1 = true := by decide +kernel
set_option maxRecDepth 65536 in
theorem w_runnable : about1.curStatus? = some .runnable := by decide +kernel
set_option maxRecDepth 65536 in
theorem w_alone : about1.alone = true := by decide +kernel
set_option maxRecDepth 65536 in
theorem w_named : about1.methodNamed? x = some theMethod := by decide +kernel
set_option maxRecDepth 65536 in
theorem w_hears : about1.hears theMethod below0 = true := by decide +kernel
set_option maxRecDepth 65536 in
theorem w_ripe : about1.ripe theMethod args0 below0 = true := by decide +kernel
theorem w_running : about1.status = .running := rfl
set_option maxRecDepth 65536 in
theorem w_room : about1.hasRoom e0.platform room_1 = true :=
  launch0.hasRoom_least _ room_1 (by decide +kernel) (by decide +kernel) (by decide +kernel) (by decide +kernel) (by decide +kernel) (by decide +kernel)
theorem allAtoms_all (ts : List Jvm.Cond) (a : Array Jvm.Value) (st : Jvm.State) : (allAtoms ts).before a st = ts.all (fun c => c.before a st) := by
  induction ts with
  | nil => rfl
  | cons c t ih =>
    show (Jvm.Cond.and c (allAtoms t)).before a st = _
    rw [Jvm.Cond.before_and, ih, List.all_cons]
def words1 : List Jvm.Cond := Jvm.Cond.code x code maxLocals ret :: tables_1
/-- a 'code' word, met by the world's own term for the bytes: nothing is compared byte by byte -/
theorem code_word {y : MethodName} {bytes : ByteArray} {mx : Nat} {rt : Option FieldType} {a : Array Value} {s : State} {m : MethodId} {meth : Method} {c : Code} (h1 : s.methodNamed? y = some m) (h2 : s.vm.method? m = some meth) (h3 : meth.code = some c) (h4 : c.code = bytes)
    (h5 : (c.maxLocals == mx && c.exceptionTable.isEmpty && decide (c.maxStack ≤ mostOperands) && decide (meth.sig.returnType = rt) && !meth.locks && decide (parseMethodDescriptor y.desc = some meth.sig)) = true) : (Jvm.Cond.code y bytes mx rt).before a s = true := by
  simp only [Bool.and_eq_true, beq_iff_eq, Bool.not_eq_true', decide_eq_true_eq] at h5
  obtain ⟨⟨⟨⟨⟨g1, g2⟩, g3⟩, g4⟩, g5⟩, g6⟩ := h5
  simp [Cond.before, Cond.holds, Cond.value, h1, h2, h3, h4, g1, g2, g3, g4, g5, g6]
def isCode : Jvm.Cond → Bool
  | .code _ _ _ _ => true
  | _ => false
theorem all_split {L : List Jvm.Cond} {P : Jvm.Cond → Bool} (h1 : L.all (fun c => isCode c || P c) = true) (h2 : ∀ c ∈ L.filter isCode, P c = true) : L.all P = true := by
  refine List.all_eq_true.mpr fun c hc => ?_
  have h := List.all_eq_true.mp h1 c hc
  rcases Bool.eq_false_or_eq_true (isCode c) with hi | hi
  · exact h2 c (List.mem_filter.mpr ⟨hc, hi⟩)
  · simpa [hi] using h
set_option maxRecDepth 65536 in
theorem w_c0 : (Jvm.Cond.code x code maxLocals ret).before args0 about1 = true := code_word (m := ⟨1, 3⟩) (meth := k1m3) (c := k1c3) (by decide +kernel) rfl rfl rfl (by decide +kernel)
set_option maxRecDepth 65536 in
theorem w_c1 : (Jvm.Cond.code ({ cls := "com/example/hedge_index/hedgeindex/xml/Utf8", name := "encode", desc := "(I[BI)I" } : Jvm.MethodName) prog_114_method_6_code (4 : Nat) (Option.some Jvm.ClassFile.FieldType.int)).before args0 about1 = true := code_word (m := ⟨2, 3⟩) (meth := k2m3) (c := k2c3) (by decide +kernel) rfl rfl rfl (by decide +kernel)
set_option maxRecDepth 65536 in
theorem w_c2 : (Jvm.Cond.code ({ cls := "com/example/hedge_index/hedgeindex/xml/Utf8", name := "sequenceLength", desc := "(B)I" } : Jvm.MethodName) prog_114_method_2_code (1 : Nat) (Option.some Jvm.ClassFile.FieldType.int)).before args0 about1 = true := code_word (m := ⟨2, 1⟩) (meth := k2m1) (c := k2c1) (by decide +kernel) rfl rfl rfl (by decide +kernel)
set_option maxRecDepth 65536 in
theorem w_c3 : (Jvm.Cond.code ({ cls := "com/example/hedge_index/hedgeindex/xml/Utf8EncodePinLaw", name := "cont", desc := "([BIII)Z" } : Jvm.MethodName) method_3_code (4 : Nat) (Option.some Jvm.ClassFile.FieldType.boolean)).before args0 about1 = true := code_word (m := ⟨1, 2⟩) (meth := k1m2) (c := k1c2) (by decide +kernel) rfl rfl rfl (by decide +kernel)
set_option maxRecDepth 65536 in
theorem w_c4 : (Jvm.Cond.code ({ cls := "com/example/hedge_index/hedgeindex/xml/Utf8EncodePinLaw", name := "untouched", desc := "([BIIIB)Z" } : Jvm.MethodName) method_2_code (5 : Nat) (Option.some Jvm.ClassFile.FieldType.boolean)).before args0 about1 = true := code_word (m := ⟨1, 1⟩) (meth := k1m1) (c := k1c1) (by decide +kernel) rfl rfl rfl (by decide +kernel)
set_option maxRecDepth 65536 in
theorem w_c5 : (Jvm.Cond.code ({ cls := "com/example/hedge_index/hedgeindex/xml/Utf8", name := "codePointAt", desc := "([BI)I" } : Jvm.MethodName) prog_114_method_3_code (6 : Nat) (Option.some Jvm.ClassFile.FieldType.int)).before args0 about1 = true := code_word (m := ⟨2, 2⟩) (meth := k2m2) (c := k2c2) (by decide +kernel) rfl rfl rfl (by decide +kernel)
def codes1 : List Jvm.Cond := [Jvm.Cond.code x code maxLocals ret, Jvm.Cond.code ({ cls := "com/example/hedge_index/hedgeindex/xml/Utf8", name := "encode", desc := "(I[BI)I" } : Jvm.MethodName) prog_114_method_6_code (4 : Nat) (Option.some Jvm.ClassFile.FieldType.int), Jvm.Cond.code ({ cls := "com/example/hedge_index/hedgeindex/xml/Utf8", name := "sequenceLength", desc := "(B)I" } : Jvm.MethodName) prog_114_method_2_code (1 : Nat) (Option.some Jvm.ClassFile.FieldType.int), Jvm.Cond.code ({ cls := "com/example/hedge_index/hedgeindex/xml/Utf8EncodePinLaw", name := "cont", desc := "([BIII)Z" } : Jvm.MethodName) method_3_code (4 : Nat) (Option.some Jvm.ClassFile.FieldType.boolean), Jvm.Cond.code ({ cls := "com/example/hedge_index/hedgeindex/xml/Utf8EncodePinLaw", name := "untouched", desc := "([BIIIB)Z" } : Jvm.MethodName) method_2_code (5 : Nat) (Option.some Jvm.ClassFile.FieldType.boolean), Jvm.Cond.code ({ cls := "com/example/hedge_index/hedgeindex/xml/Utf8", name := "codePointAt", desc := "([BI)I" } : Jvm.MethodName) prog_114_method_3_code (6 : Nat) (Option.some Jvm.ClassFile.FieldType.int)]
set_option maxRecDepth 65536 in
theorem codes_eq : words1.filter isCode = codes1 := rfl
theorem w_codes : ∀ c ∈ words1.filter isCode, c.before args0 about1 = true := by
  rw [codes_eq]
  intro c hc
  simp only [codes1, List.mem_cons, List.not_mem_nil, or_false] at hc
  rcases hc with rfl | rfl | rfl | rfl | rfl | rfl
  · exact w_c0
  · exact w_c1
  · exact w_c2
  · exact w_c3
  · exact w_c4
  · exact w_c5
set_option maxRecDepth 65536 in
theorem w_t1 : (words1.take 24).all (fun c => isCode c || c.before args0 about1) = true := by decide +kernel
set_option maxRecDepth 65536 in
theorem w_t2 : (words1.drop 24).all (fun c => isCode c || c.before args0 about1) = true := by decide +kernel
theorem w_tables : (allAtoms (Jvm.Cond.code x code maxLocals ret :: tables_1)).before args0 about1 = true := by
  rw [allAtoms_all]
  show words1.all (fun c => c.before args0 about1) = true
  refine all_split ?_ w_codes
  rw [← List.take_append_drop 24 words1, List.all_append, w_t1, w_t2]
  rfl
set_option maxRecDepth 65536 in
theorem w_case : (Jvm.Cond.and given_1 narrow_1).before args0 about1 = true := by decide +kernel
theorem w_applies : (headSpec (Jvm.Cond.code x code maxLocals ret :: tables_1) room_1).applies x e0.platform about1 = true :=
  (Spec.applies_iff w_frames).mpr ⟨w_running, w_runnable, w_alone, w_named, w_hears, w_ripe, w_room, w_tables⟩
theorem atStart : AtStart classFile x code maxLocals ret World_1 tables_1 room_1 Calls_1 rest_1 Pre_1 launch0 p0 e0 about1 theMethod args0 below0 :=
  ⟨lists_1, trivial, launch0.admits_env _ _ _, launch0.least_env, fairChoices_fair.cas, fairChoices_fair.clock, w_frames, w_args, w_heap, w_applies, trivial, trivial, w_case⟩
end start1
theorem witness_1 : WitnessClaimed_1 := ⟨start1.p0, start1.e0, start1.about1, start1.theMethod, start1.args0, start1.below0, start1.atStart⟩
end Jvm.Pilot.@@N@@
