import JvmDerived
import JvmDerived.Pilot.@@N@@Statement
import JvmDerived.Pilot.@@N@@Code
set_option linter.unusedVariables false
set_option linter.unusedSimpArgs false
namespace Jvm.OwnGo
open Jvm Jvm.ClassFile Sem Op Lib Jvm.Free Jvm.Stand Jvm.LawKit Jvm.RoadKit
section Plain
variable {tb : Tables} [Ours tb] {e : Env} {below : List Frame} {Q : Outcome → State → Prop} {T : State} {m : MethodId} {c : Code} {bs : ByteArray} {ls l' : Array Slot} {st : List Value} {pc pn pt : Nat}
def Go (tb : Tables) (e : Env) (below : List Frame) (Q : Outcome → State → Prop) (T : State) : Prop := ∃ s₂ o, Steps tb e below T s₂ ∧ s₂.status = .running ∧ Ended s₂ below o ∧ Q o s₂
def Wk (tb : Tables) (T : State) (m : MethodId) (c : Code) (below : List Frame) (bs : ByteArray) : Prop := At T m c below ∧ tb.exec = Jvm.exec ∧ c.code = bs
theorem Go.step {tb : Tables} {T T' : State} (g : Go tb e below Q T') (h : ∀ t, Steps tb e below T' t → Steps tb e below T t) : Go tb e below Q T := by
  obtain ⟨s2, o, h1, r⟩ := g
  exact ⟨s2, o, h _ h1, r⟩
theorem Go.cast {tb : Tables} {g g' : JFrame} (q : g = g') (k : Go tb e below Q (T.setTop g')) : Go tb e below Q (T.setTop g) := q ▸ k
theorem iloadN (W : Wk tb T m c below bs) {k : Fin 4} {v : Int32} (hd : decode bs pc = .ok (.iload_n k, 1)) (hp : pc + 1 = pn) (hl : ls[k.val]? = some (.val (.int v))) (hr : Go tb e below Q (T.setTop (mkF m pn ls (.int v :: st)))) : Go tb e below Q (T.setTop (mkF m pc ls (st))) := by
  subst hp; exact hr.step fun t k => XS.iloadN W.1 W.2.1 rfl (hb W.2.2 hd) hl k
theorem iload (W : Wk tb T m c below bs) {k : Nat} {v : Int32} (hd : decode bs pc = .ok (.iload k, 2)) (hp : pc + 2 = pn) (hl : ls[k]? = some (.val (.int v))) (hr : Go tb e below Q (T.setTop (mkF m pn ls (.int v :: st)))) : Go tb e below Q (T.setTop (mkF m pc ls (st))) := by
  subst hp; exact hr.step fun t k => XS.iload W.1 W.2.1 rfl (hb W.2.2 hd) hl k
theorem lloadN (W : Wk tb T m c below bs) {k : Fin 4} {v : Int64} (hd : decode bs pc = .ok (.lload_n k, 1)) (hp : pc + 1 = pn) (hl : ls[k.val]? = some (.val (.long v))) (hr : Go tb e below Q (T.setTop (mkF m pn ls (.long v :: st)))) : Go tb e below Q (T.setTop (mkF m pc ls (st))) := by
  subst hp; exact hr.step fun t k => XT.lloadN W.1 W.2.1 rfl (hb W.2.2 hd) hl k
theorem lload (W : Wk tb T m c below bs) {k : Nat} {v : Int64} (hd : decode bs pc = .ok (.lload k, 2)) (hp : pc + 2 = pn) (hl : ls[k]? = some (.val (.long v))) (hr : Go tb e below Q (T.setTop (mkF m pn ls (.long v :: st)))) : Go tb e below Q (T.setTop (mkF m pc ls (st))) := by
  subst hp; exact hr.step fun t k => XT.lload W.1 W.2.1 rfl (hb W.2.2 hd) hl k
theorem aloadN (W : Wk tb T m c below bs) {k : Fin 4} {v : Value} (hd : decode bs pc = .ok (.aload_n k, 1)) (hp : pc + 1 = pn) (hl : ls[k.val]? = some (.val v)) (hv : v.isRef = true) (hr : Go tb e below Q (T.setTop (mkF m pn ls (v :: st)))) : Go tb e below Q (T.setTop (mkF m pc ls (st))) := by
  subst hp; exact hr.step fun t k => XS.aloadN W.1 W.2.1 rfl (hb W.2.2 hd) hl hv k
theorem aload (W : Wk tb T m c below bs) {k : Nat} {v : Value} (hd : decode bs pc = .ok (.aload k, 2)) (hp : pc + 2 = pn) (hl : ls[k]? = some (.val v)) (hv : v.isRef = true) (hr : Go tb e below Q (T.setTop (mkF m pn ls (v :: st)))) : Go tb e below Q (T.setTop (mkF m pc ls (st))) := by
  subst hp; exact hr.step fun t k => XS.aload W.1 W.2.1 rfl (hb W.2.2 hd) hl hv k
theorem istoreN (W : Wk tb T m c below bs) {k : Fin 4} {x : Int32} (hd : decode bs pc = .ok (.istore_n k, 1)) (hp : pc + 1 = pn) (hl : storeLocals ls k.val (.int x) = some l') (hr : Go tb e below Q (T.setTop (mkF m pn l' (st)))) : Go tb e below Q (T.setTop (mkF m pc ls (.int x :: st))) := by
  subst hp; exact hr.step fun t k => XS.istoreN W.1 W.2.1 rfl (hb W.2.2 hd) rfl hl k
theorem istore (W : Wk tb T m c below bs) {k : Nat} {x : Int32} (hd : decode bs pc = .ok (.istore k, 2)) (hp : pc + 2 = pn) (hl : storeLocals ls k (.int x) = some l') (hr : Go tb e below Q (T.setTop (mkF m pn l' (st)))) : Go tb e below Q (T.setTop (mkF m pc ls (.int x :: st))) := by
  subst hp; exact hr.step fun t k => XS.istore W.1 W.2.1 rfl (hb W.2.2 hd) rfl hl k
theorem lstoreN (W : Wk tb T m c below bs) {k : Fin 4} {x : Int64} (hd : decode bs pc = .ok (.lstore_n k, 1)) (hp : pc + 1 = pn) (hl : storeLocals ls k.val (.long x) = some l') (hr : Go tb e below Q (T.setTop (mkF m pn l' (st)))) : Go tb e below Q (T.setTop (mkF m pc ls (.long x :: st))) := by
  subst hp; exact hr.step fun t k => XT.lstoreN W.1 W.2.1 rfl (hb W.2.2 hd) rfl hl k
theorem lstore (W : Wk tb T m c below bs) {k : Nat} {x : Int64} (hd : decode bs pc = .ok (.lstore k, 2)) (hp : pc + 2 = pn) (hl : storeLocals ls k (.long x) = some l') (hr : Go tb e below Q (T.setTop (mkF m pn l' (st)))) : Go tb e below Q (T.setTop (mkF m pc ls (.long x :: st))) := by
  subst hp; exact hr.step fun t k => XT.lstore W.1 W.2.1 rfl (hb W.2.2 hd) rfl hl k
theorem astoreN (W : Wk tb T m c below bs) {k : Fin 4} {x : Value} (hd : decode bs pc = .ok (.astore_n k, 1)) (hp : pc + 1 = pn) (hv : x.isRef = true) (hl : storeLocals ls k.val x = some l') (hr : Go tb e below Q (T.setTop (mkF m pn l' (st)))) : Go tb e below Q (T.setTop (mkF m pc ls (x :: st))) := by
  subst hp; exact hr.step fun t k => XS.astoreN W.1 W.2.1 rfl (hb W.2.2 hd) rfl hv hl k
theorem astore (W : Wk tb T m c below bs) {k : Nat} {x : Value} (hd : decode bs pc = .ok (.astore k, 2)) (hp : pc + 2 = pn) (hv : x.isRef = true) (hl : storeLocals ls k x = some l') (hr : Go tb e below Q (T.setTop (mkF m pn l' (st)))) : Go tb e below Q (T.setTop (mkF m pc ls (x :: st))) := by
  subst hp; exact hr.step fun t k => XS.astore W.1 W.2.1 rfl (hb W.2.2 hd) rfl hv hl k
theorem iadd (W : Wk tb T m c below bs) {x y : Int32} (hd : decode bs pc = .ok (.iadd, 1)) (hp : pc + 1 = pn)  (hr : Go tb e below Q (T.setTop (mkF m pn ls (.int (x + y) :: st)))) : Go tb e below Q (T.setTop (mkF m pc ls (.int y :: .int x :: st))) := by
  subst hp; exact hr.step fun t k => XS.iadd W.1 W.2.1 rfl (hb W.2.2 hd) rfl k
theorem isub (W : Wk tb T m c below bs) {x y : Int32} (hd : decode bs pc = .ok (.isub, 1)) (hp : pc + 1 = pn)  (hr : Go tb e below Q (T.setTop (mkF m pn ls (.int (x - y) :: st)))) : Go tb e below Q (T.setTop (mkF m pc ls (.int y :: .int x :: st))) := by
  subst hp; exact hr.step fun t k => XS.isub W.1 W.2.1 rfl (hb W.2.2 hd) rfl k
theorem imul (W : Wk tb T m c below bs) {x y : Int32} (hd : decode bs pc = .ok (.imul, 1)) (hp : pc + 1 = pn)  (hr : Go tb e below Q (T.setTop (mkF m pn ls (.int (x * y) :: st)))) : Go tb e below Q (T.setTop (mkF m pc ls (.int y :: .int x :: st))) := by
  subst hp; exact hr.step fun t k => XS.imul W.1 W.2.1 rfl (hb W.2.2 hd) rfl k
theorem iand (W : Wk tb T m c below bs) {x y : Int32} (hd : decode bs pc = .ok (.iand, 1)) (hp : pc + 1 = pn)  (hr : Go tb e below Q (T.setTop (mkF m pn ls (.int (x &&& y) :: st)))) : Go tb e below Q (T.setTop (mkF m pc ls (.int y :: .int x :: st))) := by
  subst hp; exact hr.step fun t k => XS.iand W.1 W.2.1 rfl (hb W.2.2 hd) rfl k
theorem ior (W : Wk tb T m c below bs) {x y : Int32} (hd : decode bs pc = .ok (.ior, 1)) (hp : pc + 1 = pn)  (hr : Go tb e below Q (T.setTop (mkF m pn ls (.int (x ||| y) :: st)))) : Go tb e below Q (T.setTop (mkF m pc ls (.int y :: .int x :: st))) := by
  subst hp; exact hr.step fun t k => XT.ior W.1 W.2.1 rfl (hb W.2.2 hd) rfl k
theorem ixor (W : Wk tb T m c below bs) {x y : Int32} (hd : decode bs pc = .ok (.ixor, 1)) (hp : pc + 1 = pn)  (hr : Go tb e below Q (T.setTop (mkF m pn ls (.int (x ^^^ y) :: st)))) : Go tb e below Q (T.setTop (mkF m pc ls (.int y :: .int x :: st))) := by
  subst hp; exact hr.step fun t k => XT.ixor W.1 W.2.1 rfl (hb W.2.2 hd) rfl k
theorem ishl (W : Wk tb T m c below bs) {x y : Int32} (hd : decode bs pc = .ok (.ishl, 1)) (hp : pc + 1 = pn)  (hr : Go tb e below Q (T.setTop (mkF m pn ls (.int (x <<< (y &&& 31)) :: st)))) : Go tb e below Q (T.setTop (mkF m pc ls (.int y :: .int x :: st))) := by
  subst hp; exact hr.step fun t k => XT.ishl W.1 W.2.1 rfl (hb W.2.2 hd) rfl k
theorem ishr (W : Wk tb T m c below bs) {x y : Int32} (hd : decode bs pc = .ok (.ishr, 1)) (hp : pc + 1 = pn)  (hr : Go tb e below Q (T.setTop (mkF m pn ls (.int (x >>> (y &&& 31)) :: st)))) : Go tb e below Q (T.setTop (mkF m pc ls (.int y :: .int x :: st))) := by
  subst hp; exact hr.step fun t k => XT.ishr W.1 W.2.1 rfl (hb W.2.2 hd) rfl k
theorem iushr (W : Wk tb T m c below bs) {x y : Int32} (hd : decode bs pc = .ok (.iushr, 1)) (hp : pc + 1 = pn)  (hr : Go tb e below Q (T.setTop (mkF m pn ls (.int (XT.ushr x y) :: st)))) : Go tb e below Q (T.setTop (mkF m pc ls (.int y :: .int x :: st))) := by
  subst hp; exact hr.step fun t k => XT.iushr W.1 W.2.1 rfl (hb W.2.2 hd) rfl k
theorem ladd (W : Wk tb T m c below bs) {x y : Int64} (hd : decode bs pc = .ok (.ladd, 1)) (hp : pc + 1 = pn)  (hr : Go tb e below Q (T.setTop (mkF m pn ls (.long (x + y) :: st)))) : Go tb e below Q (T.setTop (mkF m pc ls (.long y :: .long x :: st))) := by
  subst hp; exact hr.step fun t k => XT.ladd W.1 W.2.1 rfl (hb W.2.2 hd) rfl k
theorem lsub (W : Wk tb T m c below bs) {x y : Int64} (hd : decode bs pc = .ok (.lsub, 1)) (hp : pc + 1 = pn)  (hr : Go tb e below Q (T.setTop (mkF m pn ls (.long (x - y) :: st)))) : Go tb e below Q (T.setTop (mkF m pc ls (.long y :: .long x :: st))) := by
  subst hp; exact hr.step fun t k => XT.lsub W.1 W.2.1 rfl (hb W.2.2 hd) rfl k
theorem lmul (W : Wk tb T m c below bs) {x y : Int64} (hd : decode bs pc = .ok (.lmul, 1)) (hp : pc + 1 = pn)  (hr : Go tb e below Q (T.setTop (mkF m pn ls (.long (x * y) :: st)))) : Go tb e below Q (T.setTop (mkF m pc ls (.long y :: .long x :: st))) := by
  subst hp; exact hr.step fun t k => XT.lmul W.1 W.2.1 rfl (hb W.2.2 hd) rfl k
theorem land (W : Wk tb T m c below bs) {x y : Int64} (hd : decode bs pc = .ok (.land, 1)) (hp : pc + 1 = pn)  (hr : Go tb e below Q (T.setTop (mkF m pn ls (.long (x &&& y) :: st)))) : Go tb e below Q (T.setTop (mkF m pc ls (.long y :: .long x :: st))) := by
  subst hp; exact hr.step fun t k => XT.land W.1 W.2.1 rfl (hb W.2.2 hd) rfl k
theorem lor (W : Wk tb T m c below bs) {x y : Int64} (hd : decode bs pc = .ok (.lor, 1)) (hp : pc + 1 = pn)  (hr : Go tb e below Q (T.setTop (mkF m pn ls (.long (x ||| y) :: st)))) : Go tb e below Q (T.setTop (mkF m pc ls (.long y :: .long x :: st))) := by
  subst hp; exact hr.step fun t k => XT.lor W.1 W.2.1 rfl (hb W.2.2 hd) rfl k
theorem lxor (W : Wk tb T m c below bs) {x y : Int64} (hd : decode bs pc = .ok (.lxor, 1)) (hp : pc + 1 = pn)  (hr : Go tb e below Q (T.setTop (mkF m pn ls (.long (x ^^^ y) :: st)))) : Go tb e below Q (T.setTop (mkF m pc ls (.long y :: .long x :: st))) := by
  subst hp; exact hr.step fun t k => XT.lxor W.1 W.2.1 rfl (hb W.2.2 hd) rfl k
theorem lshl (W : Wk tb T m c below bs) {x : Int64} {y : Int32} (hd : decode bs pc = .ok (.lshl, 1)) (hp : pc + 1 = pn)  (hr : Go tb e below Q (T.setTop (mkF m pn ls (.long (x <<< (y.toInt64 &&& 63)) :: st)))) : Go tb e below Q (T.setTop (mkF m pc ls (.int y :: .long x :: st))) := by
  subst hp; exact hr.step fun t k => XT.lshl W.1 W.2.1 rfl (hb W.2.2 hd) rfl k
theorem lshr (W : Wk tb T m c below bs) {x : Int64} {y : Int32} (hd : decode bs pc = .ok (.lshr, 1)) (hp : pc + 1 = pn)  (hr : Go tb e below Q (T.setTop (mkF m pn ls (.long (x >>> (y.toInt64 &&& 63)) :: st)))) : Go tb e below Q (T.setTop (mkF m pc ls (.int y :: .long x :: st))) := by
  subst hp; exact hr.step fun t k => XT.lshr W.1 W.2.1 rfl (hb W.2.2 hd) rfl k
theorem lushr (W : Wk tb T m c below bs) {x : Int64} {y : Int32} (hd : decode bs pc = .ok (.lushr, 1)) (hp : pc + 1 = pn)  (hr : Go tb e below Q (T.setTop (mkF m pn ls (.long (XT.ushrL x y) :: st)))) : Go tb e below Q (T.setTop (mkF m pc ls (.int y :: .long x :: st))) := by
  subst hp; exact hr.step fun t k => XT.lushr W.1 W.2.1 rfl (hb W.2.2 hd) rfl k
theorem i2l (W : Wk tb T m c below bs) {x : Int32} (hd : decode bs pc = .ok (.i2l, 1)) (hp : pc + 1 = pn)  (hr : Go tb e below Q (T.setTop (mkF m pn ls (.long (x.toInt64) :: st)))) : Go tb e below Q (T.setTop (mkF m pc ls (.int x :: st))) := by
  subst hp; exact hr.step fun t k => XT.i2l W.1 W.2.1 rfl (hb W.2.2 hd) rfl k
theorem l2i (W : Wk tb T m c below bs) {x : Int64} (hd : decode bs pc = .ok (.l2i, 1)) (hp : pc + 1 = pn)  (hr : Go tb e below Q (T.setTop (mkF m pn ls (.int (x.toInt32) :: st)))) : Go tb e below Q (T.setTop (mkF m pc ls (.long x :: st))) := by
  subst hp; exact hr.step fun t k => XT.l2i W.1 W.2.1 rfl (hb W.2.2 hd) rfl k
theorem i2b (W : Wk tb T m c below bs) {x : Int32} (hd : decode bs pc = .ok (.i2b, 1)) (hp : pc + 1 = pn)  (hr : Go tb e below Q (T.setTop (mkF m pn ls (.int (x.toInt8.toInt32) :: st)))) : Go tb e below Q (T.setTop (mkF m pc ls (.int x :: st))) := by
  subst hp; exact hr.step fun t k => XT.i2b W.1 W.2.1 rfl (hb W.2.2 hd) rfl k
theorem i2c (W : Wk tb T m c below bs) {x : Int32} (hd : decode bs pc = .ok (.i2c, 1)) (hp : pc + 1 = pn)  (hr : Go tb e below Q (T.setTop (mkF m pn ls (.int (x.toUInt32.toUInt16.toUInt32.toInt32) :: st)))) : Go tb e below Q (T.setTop (mkF m pc ls (.int x :: st))) := by
  subst hp; exact hr.step fun t k => XT.i2c W.1 W.2.1 rfl (hb W.2.2 hd) rfl k
theorem i2s (W : Wk tb T m c below bs) {x : Int32} (hd : decode bs pc = .ok (.i2s, 1)) (hp : pc + 1 = pn)  (hr : Go tb e below Q (T.setTop (mkF m pn ls (.int (x.toInt16.toInt32) :: st)))) : Go tb e below Q (T.setTop (mkF m pc ls (.int x :: st))) := by
  subst hp; exact hr.step fun t k => XT.i2s W.1 W.2.1 rfl (hb W.2.2 hd) rfl k
theorem ineg (W : Wk tb T m c below bs) {x : Int32} (hd : decode bs pc = .ok (.ineg, 1)) (hp : pc + 1 = pn)  (hr : Go tb e below Q (T.setTop (mkF m pn ls (.int (-x) :: st)))) : Go tb e below Q (T.setTop (mkF m pc ls (.int x :: st))) := by
  subst hp; exact hr.step fun t k => XS.ineg W.1 W.2.1 rfl (hb W.2.2 hd) rfl k
theorem lneg (W : Wk tb T m c below bs) {x : Int64} (hd : decode bs pc = .ok (.lneg, 1)) (hp : pc + 1 = pn)  (hr : Go tb e below Q (T.setTop (mkF m pn ls (.long (-x) :: st)))) : Go tb e below Q (T.setTop (mkF m pc ls (.long x :: st))) := by
  subst hp; exact hr.step fun t k => XT.lneg W.1 W.2.1 rfl (hb W.2.2 hd) rfl k
theorem idiv (W : Wk tb T m c below bs) {x y : Int32} (hd : decode bs pc = .ok (.idiv, 1)) (hp : pc + 1 = pn) (hy : y ≠ 0) (hr : Go tb e below Q (T.setTop (mkF m pn ls (.int (x / y) :: st)))) : Go tb e below Q (T.setTop (mkF m pc ls (.int y :: .int x :: st))) := by
  subst hp; exact hr.step fun t k => XS.idiv W.1 W.2.1 rfl (hb W.2.2 hd) rfl hy k
theorem irem (W : Wk tb T m c below bs) {x y : Int32} (hd : decode bs pc = .ok (.irem, 1)) (hp : pc + 1 = pn) (hy : y ≠ 0) (hr : Go tb e below Q (T.setTop (mkF m pn ls (.int (x - (x / y) * y) :: st)))) : Go tb e below Q (T.setTop (mkF m pc ls (.int y :: .int x :: st))) := by
  subst hp; exact hr.step fun t k => XS.irem W.1 W.2.1 rfl (hb W.2.2 hd) rfl hy k
theorem ldiv (W : Wk tb T m c below bs) {x y : Int64} (hd : decode bs pc = .ok (.ldiv, 1)) (hp : pc + 1 = pn) (hy : y ≠ 0) (hr : Go tb e below Q (T.setTop (mkF m pn ls (.long (x / y) :: st)))) : Go tb e below Q (T.setTop (mkF m pc ls (.long y :: .long x :: st))) := by
  subst hp; exact hr.step fun t k => XT.ldiv W.1 W.2.1 rfl (hb W.2.2 hd) rfl hy k
theorem lrem (W : Wk tb T m c below bs) {x y : Int64} (hd : decode bs pc = .ok (.lrem, 1)) (hp : pc + 1 = pn) (hy : y ≠ 0) (hr : Go tb e below Q (T.setTop (mkF m pn ls (.long (x - (x / y) * y) :: st)))) : Go tb e below Q (T.setTop (mkF m pc ls (.long y :: .long x :: st))) := by
  subst hp; exact hr.step fun t k => XT.lrem W.1 W.2.1 rfl (hb W.2.2 hd) rfl hy k
theorem lcmp (W : Wk tb T m c below bs) {x y : Int64} (hd : decode bs pc = .ok (.lcmp, 1)) (hp : pc + 1 = pn)  (hr : Go tb e below Q (T.setTop (mkF m pn ls (.int (XT.cmpL x y) :: st)))) : Go tb e below Q (T.setTop (mkF m pc ls (.long y :: .long x :: st))) := by
  subst hp; exact hr.step fun t k => XT.lcmp W.1 W.2.1 rfl (hb W.2.2 hd) rfl k
theorem dup (W : Wk tb T m c below bs) {x : Value} (hd : decode bs pc = .ok (.dup, 1)) (hp : pc + 1 = pn) (hc : x.category = 1) (hr : Go tb e below Q (T.setTop (mkF m pn ls (x :: x :: st)))) : Go tb e below Q (T.setTop (mkF m pc ls (x :: st))) := by
  subst hp; exact hr.step fun t k => XS.dup W.1 W.2.1 rfl (hb W.2.2 hd) rfl hc k
theorem dup2 (W : Wk tb T m c below bs) {x y : Value} (hd : decode bs pc = .ok (.dup2, 1)) (hp : pc + 1 = pn) (hc : x.category = 1) (hc' : y.category = 1) (hr : Go tb e below Q (T.setTop (mkF m pn ls (x :: y :: x :: y :: st)))) : Go tb e below Q (T.setTop (mkF m pc ls (x :: y :: st))) := by
  subst hp; exact hr.step fun t k => XT.dup2 W.1 W.2.1 rfl (hb W.2.2 hd) rfl hc hc' k
theorem pop (W : Wk tb T m c below bs) {x : Value} (hd : decode bs pc = .ok (.pop, 1)) (hp : pc + 1 = pn) (hc : x.category = 1) (hr : Go tb e below Q (T.setTop (mkF m pn ls (st)))) : Go tb e below Q (T.setTop (mkF m pc ls (x :: st))) := by
  subst hp; exact hr.step fun t k => XT.pop W.1 W.2.1 rfl (hb W.2.2 hd) rfl hc k
theorem aconstNull (W : Wk tb T m c below bs)  (hd : decode bs pc = .ok (.aconst_null, 1)) (hp : pc + 1 = pn)  (hr : Go tb e below Q (T.setTop (mkF m pn ls (.null :: st)))) : Go tb e below Q (T.setTop (mkF m pc ls (st))) := by
  subst hp; exact hr.step fun t k => XS.aconstNull W.1 W.2.1 rfl (hb W.2.2 hd)  k
theorem iconst (W : Wk tb T m c below bs) {i : Int} {v : Int32} (hd : decode bs pc = .ok (.iconst i, 1)) (hp : pc + 1 = pn) (hv : Int32.ofInt i = v) (hr : Go tb e below Q (T.setTop (mkF m pn ls (.int v :: st)))) : Go tb e below Q (T.setTop (mkF m pc ls st)) := by
  subst hp; exact hr.step fun t k => XT.iconstV W.1 W.2.1 rfl _ (hb W.2.2 hd) hv k
theorem bipush (W : Wk tb T m c below bs) {i : Int} {v : Int32} (hd : decode bs pc = .ok (.bipush i, 2)) (hp : pc + 2 = pn) (hv : (Int8.ofInt i).toInt32 = v) (hr : Go tb e below Q (T.setTop (mkF m pn ls (.int v :: st)))) : Go tb e below Q (T.setTop (mkF m pc ls st)) := by
  subst hp; exact hr.step fun t k => XT.bipushV W.1 W.2.1 rfl _ (hb W.2.2 hd) hv k
theorem sipush (W : Wk tb T m c below bs) {i : Int} {v : Int32} (hd : decode bs pc = .ok (.sipush i, 3)) (hp : pc + 3 = pn) (hv : (Int16.ofInt i).toInt32 = v) (hr : Go tb e below Q (T.setTop (mkF m pn ls (.int v :: st)))) : Go tb e below Q (T.setTop (mkF m pc ls st)) := by
  subst hp; exact hr.step fun t k => XT.sipushV W.1 W.2.1 rfl _ (hb W.2.2 hd) hv k
theorem lconst (W : Wk tb T m c below bs) {i : Fin 2} {v : Int64} (hd : decode bs pc = .ok (.lconst i, 1)) (hp : pc + 1 = pn) (hv : Int64.ofNat i = v) (hr : Go tb e below Q (T.setTop (mkF m pn ls (.long v :: st)))) : Go tb e below Q (T.setTop (mkF m pc ls st)) := by
  subst hp; exact hr.step fun t k => XT.lconstV W.1 W.2.1 rfl _ (hb W.2.2 hd) hv k
theorem iinc (W : Wk tb T m c below bs) {k : Nat} {cst : Int} {x v : Int32} (hd : decode bs pc = .ok (.iinc k cst, 3)) (hp : pc + 3 = pn) (hv : Int32.ofInt cst = v) (hl : ls[k]? = some (.val (.int x))) (hl' : storeLocals ls k (.int (x + v)) = some l') (hr : Go tb e below Q (T.setTop (mkF m pn l' st))) : Go tb e below Q (T.setTop (mkF m pc ls st)) := by
  subst hp; exact hr.step fun t k => XT.iincV W.1 W.2.1 rfl _ (hb W.2.2 hd) hv hl hl' k
theorem goto (W : Wk tb T m c below bs) {o : Int} (hd : decode bs pc = .ok (.goto o, 3)) (ho : 0 ≤ (pc : Int) + o) (ht : ((pc : Int) + o).toNat = pt) (hr : Go tb e below Q (T.setTop (mkF m pt ls st))) : Go tb e below Q (T.setTop (mkF m pc ls st)) := by
  exact hr.step fun t k => XS.goto W.1 W.2.1 rfl (pc0 := pc) (pc' := pt) rfl (hb W.2.2 hd) ho ht k
theorem icmp_eq (W : Wk tb T m c below bs) {x y : Int32} {o : Int} (hd : decode bs pc = .ok (.if_icmp .eq o, 3)) (hp : pc + 3 = pn) (ho : 0 ≤ (pc : Int) + o) (ht : ((pc : Int) + o).toNat = pt) (h1 : x = y → Go tb e below Q (T.setTop (mkF m pt ls st))) (h2 : ¬ (x = y) → Go tb e below Q (T.setTop (mkF m pn ls st))) : Go tb e below Q (T.setTop (mkF m pc ls (.int y :: .int x :: st))) := by
  subst hp
  by_cases h : x = y
  · exact (h1 h).step fun t k => XS.icmpYes W.1 W.2.1 rfl (pc0 := pc) (pc' := pt) rfl (hb W.2.2 hd) rfl (XT.ii_eq_t h) ho ht k
  · exact (h2 h).step fun t k => XS.icmpNo W.1 W.2.1 rfl (hb W.2.2 hd) rfl (XT.ii_eq_f h) k
theorem if_eq (W : Wk tb T m c below bs) {x : Int32} {o : Int} (hd : decode bs pc = .ok (.ifCond .eq o, 3)) (hp : pc + 3 = pn) (ho : 0 ≤ (pc : Int) + o) (ht : ((pc : Int) + o).toNat = pt) (h1 : x = 0 → Go tb e below Q (T.setTop (mkF m pt ls st))) (h2 : ¬ (x = 0) → Go tb e below Q (T.setTop (mkF m pn ls st))) : Go tb e below Q (T.setTop (mkF m pc ls (.int x :: st))) := by
  subst hp
  by_cases h : x = 0
  · exact (h1 h).step fun t k => XS.ifYes W.1 W.2.1 rfl (pc0 := pc) (pc' := pt) rfl (hb W.2.2 hd) rfl (XT.i0_eq_t h) ho ht k
  · exact (h2 h).step fun t k => XS.ifNo W.1 W.2.1 rfl (hb W.2.2 hd) rfl (XT.i0_eq_f h) k
theorem lif_eq (W : Wk tb T m c below bs) {x y : Int64} {o : Int} (hd : decode bs pc = .ok (.ifCond .eq o, 3)) (hp : pc + 3 = pn) (ho : 0 ≤ (pc : Int) + o) (ht : ((pc : Int) + o).toNat = pt) (h1 : x = y → Go tb e below Q (T.setTop (mkF m pt ls st))) (h2 : ¬ (x = y) → Go tb e below Q (T.setTop (mkF m pn ls st))) : Go tb e below Q (T.setTop (mkF m pc ls (.int (XT.cmpL x y) :: st))) := by
  subst hp
  by_cases h : x = y
  · exact (h1 h).step fun t k => XS.ifYes W.1 W.2.1 rfl (pc0 := pc) (pc' := pt) rfl (hb W.2.2 hd) rfl (XT.ll_eq_t h) ho ht k
  · exact (h2 h).step fun t k => XS.ifNo W.1 W.2.1 rfl (hb W.2.2 hd) rfl (XT.ll_eq_f h) k
theorem icmp_ne (W : Wk tb T m c below bs) {x y : Int32} {o : Int} (hd : decode bs pc = .ok (.if_icmp .ne o, 3)) (hp : pc + 3 = pn) (ho : 0 ≤ (pc : Int) + o) (ht : ((pc : Int) + o).toNat = pt) (h1 : x = y → Go tb e below Q (T.setTop (mkF m pn ls st))) (h2 : ¬ (x = y) → Go tb e below Q (T.setTop (mkF m pt ls st))) : Go tb e below Q (T.setTop (mkF m pc ls (.int y :: .int x :: st))) := by
  subst hp
  by_cases h : x = y
  · exact (h1 h).step fun t k => XS.icmpNo W.1 W.2.1 rfl (hb W.2.2 hd) rfl (XT.ii_ne_f h) k
  · exact (h2 h).step fun t k => XS.icmpYes W.1 W.2.1 rfl (pc0 := pc) (pc' := pt) rfl (hb W.2.2 hd) rfl (XT.ii_ne_t h) ho ht k
theorem if_ne (W : Wk tb T m c below bs) {x : Int32} {o : Int} (hd : decode bs pc = .ok (.ifCond .ne o, 3)) (hp : pc + 3 = pn) (ho : 0 ≤ (pc : Int) + o) (ht : ((pc : Int) + o).toNat = pt) (h1 : x = 0 → Go tb e below Q (T.setTop (mkF m pn ls st))) (h2 : ¬ (x = 0) → Go tb e below Q (T.setTop (mkF m pt ls st))) : Go tb e below Q (T.setTop (mkF m pc ls (.int x :: st))) := by
  subst hp
  by_cases h : x = 0
  · exact (h1 h).step fun t k => XS.ifNo W.1 W.2.1 rfl (hb W.2.2 hd) rfl (XT.i0_ne_f h) k
  · exact (h2 h).step fun t k => XS.ifYes W.1 W.2.1 rfl (pc0 := pc) (pc' := pt) rfl (hb W.2.2 hd) rfl (XT.i0_ne_t h) ho ht k
theorem lif_ne (W : Wk tb T m c below bs) {x y : Int64} {o : Int} (hd : decode bs pc = .ok (.ifCond .ne o, 3)) (hp : pc + 3 = pn) (ho : 0 ≤ (pc : Int) + o) (ht : ((pc : Int) + o).toNat = pt) (h1 : x = y → Go tb e below Q (T.setTop (mkF m pn ls st))) (h2 : ¬ (x = y) → Go tb e below Q (T.setTop (mkF m pt ls st))) : Go tb e below Q (T.setTop (mkF m pc ls (.int (XT.cmpL x y) :: st))) := by
  subst hp
  by_cases h : x = y
  · exact (h1 h).step fun t k => XS.ifNo W.1 W.2.1 rfl (hb W.2.2 hd) rfl (XT.ll_ne_f h) k
  · exact (h2 h).step fun t k => XS.ifYes W.1 W.2.1 rfl (pc0 := pc) (pc' := pt) rfl (hb W.2.2 hd) rfl (XT.ll_ne_t h) ho ht k
theorem icmp_lt (W : Wk tb T m c below bs) {x y : Int32} {o : Int} (hd : decode bs pc = .ok (.if_icmp .lt o, 3)) (hp : pc + 3 = pn) (ho : 0 ≤ (pc : Int) + o) (ht : ((pc : Int) + o).toNat = pt) (h1 : x < y → Go tb e below Q (T.setTop (mkF m pt ls st))) (h2 : ¬ (x < y) → Go tb e below Q (T.setTop (mkF m pn ls st))) : Go tb e below Q (T.setTop (mkF m pc ls (.int y :: .int x :: st))) := by
  subst hp
  by_cases h : x < y
  · exact (h1 h).step fun t k => XS.icmpYes W.1 W.2.1 rfl (pc0 := pc) (pc' := pt) rfl (hb W.2.2 hd) rfl (XT.ii_lt_t h) ho ht k
  · exact (h2 h).step fun t k => XS.icmpNo W.1 W.2.1 rfl (hb W.2.2 hd) rfl (XT.ii_lt_f h) k
theorem if_lt (W : Wk tb T m c below bs) {x : Int32} {o : Int} (hd : decode bs pc = .ok (.ifCond .lt o, 3)) (hp : pc + 3 = pn) (ho : 0 ≤ (pc : Int) + o) (ht : ((pc : Int) + o).toNat = pt) (h1 : x < 0 → Go tb e below Q (T.setTop (mkF m pt ls st))) (h2 : ¬ (x < 0) → Go tb e below Q (T.setTop (mkF m pn ls st))) : Go tb e below Q (T.setTop (mkF m pc ls (.int x :: st))) := by
  subst hp
  by_cases h : x < 0
  · exact (h1 h).step fun t k => XS.ifYes W.1 W.2.1 rfl (pc0 := pc) (pc' := pt) rfl (hb W.2.2 hd) rfl (XT.i0_lt_t h) ho ht k
  · exact (h2 h).step fun t k => XS.ifNo W.1 W.2.1 rfl (hb W.2.2 hd) rfl (XT.i0_lt_f h) k
theorem lif_lt (W : Wk tb T m c below bs) {x y : Int64} {o : Int} (hd : decode bs pc = .ok (.ifCond .lt o, 3)) (hp : pc + 3 = pn) (ho : 0 ≤ (pc : Int) + o) (ht : ((pc : Int) + o).toNat = pt) (h1 : x < y → Go tb e below Q (T.setTop (mkF m pt ls st))) (h2 : ¬ (x < y) → Go tb e below Q (T.setTop (mkF m pn ls st))) : Go tb e below Q (T.setTop (mkF m pc ls (.int (XT.cmpL x y) :: st))) := by
  subst hp
  by_cases h : x < y
  · exact (h1 h).step fun t k => XS.ifYes W.1 W.2.1 rfl (pc0 := pc) (pc' := pt) rfl (hb W.2.2 hd) rfl (XT.ll_lt_t h) ho ht k
  · exact (h2 h).step fun t k => XS.ifNo W.1 W.2.1 rfl (hb W.2.2 hd) rfl (XT.ll_lt_f h) k
theorem icmp_ge (W : Wk tb T m c below bs) {x y : Int32} {o : Int} (hd : decode bs pc = .ok (.if_icmp .ge o, 3)) (hp : pc + 3 = pn) (ho : 0 ≤ (pc : Int) + o) (ht : ((pc : Int) + o).toNat = pt) (h1 : x < y → Go tb e below Q (T.setTop (mkF m pn ls st))) (h2 : ¬ (x < y) → Go tb e below Q (T.setTop (mkF m pt ls st))) : Go tb e below Q (T.setTop (mkF m pc ls (.int y :: .int x :: st))) := by
  subst hp
  by_cases h : x < y
  · exact (h1 h).step fun t k => XS.icmpNo W.1 W.2.1 rfl (hb W.2.2 hd) rfl (XT.ii_ge_f h) k
  · exact (h2 h).step fun t k => XS.icmpYes W.1 W.2.1 rfl (pc0 := pc) (pc' := pt) rfl (hb W.2.2 hd) rfl (XT.ii_ge_t h) ho ht k
theorem if_ge (W : Wk tb T m c below bs) {x : Int32} {o : Int} (hd : decode bs pc = .ok (.ifCond .ge o, 3)) (hp : pc + 3 = pn) (ho : 0 ≤ (pc : Int) + o) (ht : ((pc : Int) + o).toNat = pt) (h1 : x < 0 → Go tb e below Q (T.setTop (mkF m pn ls st))) (h2 : ¬ (x < 0) → Go tb e below Q (T.setTop (mkF m pt ls st))) : Go tb e below Q (T.setTop (mkF m pc ls (.int x :: st))) := by
  subst hp
  by_cases h : x < 0
  · exact (h1 h).step fun t k => XS.ifNo W.1 W.2.1 rfl (hb W.2.2 hd) rfl (XT.i0_ge_f h) k
  · exact (h2 h).step fun t k => XS.ifYes W.1 W.2.1 rfl (pc0 := pc) (pc' := pt) rfl (hb W.2.2 hd) rfl (XT.i0_ge_t h) ho ht k
theorem lif_ge (W : Wk tb T m c below bs) {x y : Int64} {o : Int} (hd : decode bs pc = .ok (.ifCond .ge o, 3)) (hp : pc + 3 = pn) (ho : 0 ≤ (pc : Int) + o) (ht : ((pc : Int) + o).toNat = pt) (h1 : x < y → Go tb e below Q (T.setTop (mkF m pn ls st))) (h2 : ¬ (x < y) → Go tb e below Q (T.setTop (mkF m pt ls st))) : Go tb e below Q (T.setTop (mkF m pc ls (.int (XT.cmpL x y) :: st))) := by
  subst hp
  by_cases h : x < y
  · exact (h1 h).step fun t k => XS.ifNo W.1 W.2.1 rfl (hb W.2.2 hd) rfl (XT.ll_ge_f h) k
  · exact (h2 h).step fun t k => XS.ifYes W.1 W.2.1 rfl (pc0 := pc) (pc' := pt) rfl (hb W.2.2 hd) rfl (XT.ll_ge_t h) ho ht k
theorem icmp_gt (W : Wk tb T m c below bs) {x y : Int32} {o : Int} (hd : decode bs pc = .ok (.if_icmp .gt o, 3)) (hp : pc + 3 = pn) (ho : 0 ≤ (pc : Int) + o) (ht : ((pc : Int) + o).toNat = pt) (h1 : y < x → Go tb e below Q (T.setTop (mkF m pt ls st))) (h2 : ¬ (y < x) → Go tb e below Q (T.setTop (mkF m pn ls st))) : Go tb e below Q (T.setTop (mkF m pc ls (.int y :: .int x :: st))) := by
  subst hp
  by_cases h : y < x
  · exact (h1 h).step fun t k => XS.icmpYes W.1 W.2.1 rfl (pc0 := pc) (pc' := pt) rfl (hb W.2.2 hd) rfl (XT.ii_gt_t h) ho ht k
  · exact (h2 h).step fun t k => XS.icmpNo W.1 W.2.1 rfl (hb W.2.2 hd) rfl (XT.ii_gt_f h) k
theorem if_gt (W : Wk tb T m c below bs) {x : Int32} {o : Int} (hd : decode bs pc = .ok (.ifCond .gt o, 3)) (hp : pc + 3 = pn) (ho : 0 ≤ (pc : Int) + o) (ht : ((pc : Int) + o).toNat = pt) (h1 : 0 < x → Go tb e below Q (T.setTop (mkF m pt ls st))) (h2 : ¬ (0 < x) → Go tb e below Q (T.setTop (mkF m pn ls st))) : Go tb e below Q (T.setTop (mkF m pc ls (.int x :: st))) := by
  subst hp
  by_cases h : 0 < x
  · exact (h1 h).step fun t k => XS.ifYes W.1 W.2.1 rfl (pc0 := pc) (pc' := pt) rfl (hb W.2.2 hd) rfl (XT.i0_gt_t h) ho ht k
  · exact (h2 h).step fun t k => XS.ifNo W.1 W.2.1 rfl (hb W.2.2 hd) rfl (XT.i0_gt_f h) k
theorem lif_gt (W : Wk tb T m c below bs) {x y : Int64} {o : Int} (hd : decode bs pc = .ok (.ifCond .gt o, 3)) (hp : pc + 3 = pn) (ho : 0 ≤ (pc : Int) + o) (ht : ((pc : Int) + o).toNat = pt) (h1 : y < x → Go tb e below Q (T.setTop (mkF m pt ls st))) (h2 : ¬ (y < x) → Go tb e below Q (T.setTop (mkF m pn ls st))) : Go tb e below Q (T.setTop (mkF m pc ls (.int (XT.cmpL x y) :: st))) := by
  subst hp
  by_cases h : y < x
  · exact (h1 h).step fun t k => XS.ifYes W.1 W.2.1 rfl (pc0 := pc) (pc' := pt) rfl (hb W.2.2 hd) rfl (XT.ll_gt_t h) ho ht k
  · exact (h2 h).step fun t k => XS.ifNo W.1 W.2.1 rfl (hb W.2.2 hd) rfl (XT.ll_gt_f h) k
theorem icmp_le (W : Wk tb T m c below bs) {x y : Int32} {o : Int} (hd : decode bs pc = .ok (.if_icmp .le o, 3)) (hp : pc + 3 = pn) (ho : 0 ≤ (pc : Int) + o) (ht : ((pc : Int) + o).toNat = pt) (h1 : y < x → Go tb e below Q (T.setTop (mkF m pn ls st))) (h2 : ¬ (y < x) → Go tb e below Q (T.setTop (mkF m pt ls st))) : Go tb e below Q (T.setTop (mkF m pc ls (.int y :: .int x :: st))) := by
  subst hp
  by_cases h : y < x
  · exact (h1 h).step fun t k => XS.icmpNo W.1 W.2.1 rfl (hb W.2.2 hd) rfl (XT.ii_le_f h) k
  · exact (h2 h).step fun t k => XS.icmpYes W.1 W.2.1 rfl (pc0 := pc) (pc' := pt) rfl (hb W.2.2 hd) rfl (XT.ii_le_t h) ho ht k
theorem if_le (W : Wk tb T m c below bs) {x : Int32} {o : Int} (hd : decode bs pc = .ok (.ifCond .le o, 3)) (hp : pc + 3 = pn) (ho : 0 ≤ (pc : Int) + o) (ht : ((pc : Int) + o).toNat = pt) (h1 : 0 < x → Go tb e below Q (T.setTop (mkF m pn ls st))) (h2 : ¬ (0 < x) → Go tb e below Q (T.setTop (mkF m pt ls st))) : Go tb e below Q (T.setTop (mkF m pc ls (.int x :: st))) := by
  subst hp
  by_cases h : 0 < x
  · exact (h1 h).step fun t k => XS.ifNo W.1 W.2.1 rfl (hb W.2.2 hd) rfl (XT.i0_le_f h) k
  · exact (h2 h).step fun t k => XS.ifYes W.1 W.2.1 rfl (pc0 := pc) (pc' := pt) rfl (hb W.2.2 hd) rfl (XT.i0_le_t h) ho ht k
theorem lif_le (W : Wk tb T m c below bs) {x y : Int64} {o : Int} (hd : decode bs pc = .ok (.ifCond .le o, 3)) (hp : pc + 3 = pn) (ho : 0 ≤ (pc : Int) + o) (ht : ((pc : Int) + o).toNat = pt) (h1 : y < x → Go tb e below Q (T.setTop (mkF m pn ls st))) (h2 : ¬ (y < x) → Go tb e below Q (T.setTop (mkF m pt ls st))) : Go tb e below Q (T.setTop (mkF m pc ls (.int (XT.cmpL x y) :: st))) := by
  subst hp
  by_cases h : y < x
  · exact (h1 h).step fun t k => XS.ifNo W.1 W.2.1 rfl (hb W.2.2 hd) rfl (XT.ll_le_f h) k
  · exact (h2 h).step fun t k => XS.ifYes W.1 W.2.1 rfl (pc0 := pc) (pc' := pt) rfl (hb W.2.2 hd) rfl (XT.ll_le_t h) ho ht k
theorem ifnullY (W : Wk tb T m c below bs) {o : Int} (hd : decode bs pc = .ok (.ifnull o, 3)) (ho : 0 ≤ (pc : Int) + o) (ht : ((pc : Int) + o).toNat = pt) (hr : Go tb e below Q (T.setTop (mkF m pt ls st))) : Go tb e below Q (T.setTop (mkF m pc ls (.null :: st))) := by
  exact hr.step fun t k => XS.ifnullYes W.1 W.2.1 rfl (pc0 := pc) (pc' := pt) rfl (hb W.2.2 hd) rfl ho ht k
theorem ifnonnullY (W : Wk tb T m c below bs) {b : Addr} {o : Int} (hd : decode bs pc = .ok (.ifnonnull o, 3)) (ho : 0 ≤ (pc : Int) + o) (ht : ((pc : Int) + o).toNat = pt) (hr : Go tb e below Q (T.setTop (mkF m pt ls st))) : Go tb e below Q (T.setTop (mkF m pc ls (.ref b :: st))) := by
  exact hr.step fun t k => XT.ifnonnullYes W.1 W.2.1 rfl (pc0 := pc) (pc' := pt) rfl (hb W.2.2 hd) rfl ho ht k
theorem ifnullN (W : Wk tb T m c below bs) {b : Addr} {o : Int} (hd : decode bs pc = .ok (.ifnull o, 3)) (hp : pc + 3 = pn) (hr : Go tb e below Q (T.setTop (mkF m pn ls st))) : Go tb e below Q (T.setTop (mkF m pc ls (.ref b :: st))) := by
  subst hp; exact hr.step fun t k => XS.ifnullNo W.1 W.2.1 rfl (hb W.2.2 hd) rfl k
theorem ifnonnullN (W : Wk tb T m c below bs) {o : Int} (hd : decode bs pc = .ok (.ifnonnull o, 3)) (hp : pc + 3 = pn) (hr : Go tb e below Q (T.setTop (mkF m pn ls st))) : Go tb e below Q (T.setTop (mkF m pc ls (.null :: st))) := by
  subst hp; exact hr.step fun t k => XT.ifnonnullNo W.1 W.2.1 rfl (hb W.2.2 hd) rfl k
end Plain
section Stands
variable {p : Program} {l : Launch} {e : Env} {R : Room} {s : State} {m : MethodId} {args : Array Value} {below : List Frame} {meth : Method} {c : Code} {T : State} {locs : List Loc} {cells slots : Nat} {Z : State} {a0 : Array Value} {h0 : Heap} {bs : ByteArray} {ls : Array Slot} {st : List Value} {pc pn : Nat} {Q : Outcome → State → Prop}
/-- the end of a body that returned -/
def Qe (s : State) (rm : Room) (QX : Option Value → Heap → List Loc → Prop) (o : Outcome) (U' : State) : Prop := ∃ v L, o = .returned v ∧ QX v U'.heap L ∧ FrameEnd s o U' L rm.cells rm.slots
/-- a body's contract: called with these arguments over this heap it returns as QX says -/
def Con (l : Launch) (y : MethodName) (bs : ByteArray) (maxL : Nat) (ret : Option FieldType) (rm : Room) (Z : State) (as' : Array Value) (h0 : Heap) (QX : Option Value → Heap → List Loc → Prop) : Prop :=
  ∀ ws : List Jvm.Cond, MetFree l y (head1 (Jvm.Cond.code y bs maxL ret :: ws) rm) (fun a U => a = as' ∧ Z.Warmed39 U.vm ∧ U.heap = h0) (fun _ _ _ _ _ => True) (fun _ U o U' => ∃ v L, o = .returned v ∧ QX v U'.heap L ∧ FrameEnd U o U' L rm.cells rm.slots)
theorem Con.intro {y : MethodName} {maxL : Nat} {ret : Option FieldType} {rm : Room} {as' : Array Value} {QX : Option Value → Heap → List Loc → Prop} (hpn : plainFor y = true)
    (body : ∀ (p : Program) (e : Env) (s : State) (m : MethodId) (below : List Frame) (meth : Method) (c : Code) (T : State), Stand p l e rm s m as' below meth c T [] 0 0 → p.tables.exec = Jvm.exec → c.code = bs → c.maxLocals = maxL → Z.Warmed39 s.vm → s.vm.findClass y.cls = some m.cls → meth.name = y.name → meth.sig.returnType = ret → meth.locks = false → T.heap = h0 →
      Go p.tables e below (Qe s rm QX) (T.setTop (entryFrame m as' maxL))) : Con l y bs maxL ret rm Z as' h0 QX := by
  intro ws
  refine MetFree.of_bodySF hpn hisR ?_
  intro p e s m args below meth c s₁ Bd hml0 hP hK
  obtain ⟨rfl, hZ, hh⟩ := hP
  obtain ⟨s2, o, h1, h2, h3, h4⟩ := body p e s m below meth c s₁ (Stand.of_body Bd) Bd.exec Bd.bytes hml0 hZ (findClass_of_methodNamed Bd.named) (name_of_methodNamed Bd.named Bd.method).1 Bd.returns Bd.notSynchronized (by rw [← hh, Bd.state]; rfl)
  exact ⟨s2, o, h1, h2, h3, h4⟩
/-- a body that only reckons: it returns V, writes and makes nothing -/
def PureQ (V : Value) (h0 : Heap) (v : Option Value) (h : Heap) (L : List Loc) : Prop := v = some V ∧ L = [] ∧ h = h0
theorem fin_of {QX : Option Value → Heap → List Loc → Prop} {z r : Int32} {h h' : Heap} {L : List Loc} (hr : z = r) (e : h = h') (hf : QX (some (.int r)) h' L) : QX (some (.int z)) h L := by subst hr e; exact hf
theorem fin_ofL {QX : Option Value → Heap → List Loc → Prop} {z r : Int64} {h h' : Heap} {L : List Loc} (hr : z = r) (e : h = h') (hf : QX (some (.long r)) h' L) : QX (some (.long z)) h L := by subst hr e; exact hf
def rmP (fr lo : Nat) : Room := { frames := fr, cells := 0, slots := 0, locals := lo }
theorem Go.leave {rm : Room} {QX : Option Value → Heap → List Loc → Prop} (X : Stand p l e R s m args below meth c T locs cells slots) {v : Option Value} {g : JFrame} (hv : meth.sig.returnType = none → v = none) (hlk : meth.locks = false) (hq : QX v T.heap locs) (hc : cells ≤ rm.cells) (hs : slots ≤ rm.slots)
    (hst : ∀ fs, (∀ (f : JFrame) (acts : List Action), f.method = m → f.locked = none → f.entered = [] → (doReturn e (T.setTop f) acts v).1 = T.setFrames fs) → Steps p.tables e below (T.setTop g) (T.setFrames fs)) : Go p.tables e below (Qe s rm QX) (T.setTop g) := by
  obtain ⟨fs, hr, hrun, hended, hW, hsame⟩ := X.leave (v := v) hv hlk
  exact ⟨_, _, hst fs hr, hrun, hended, _, _, rfl, hq, ⟨_, rfl⟩, hW, hsame.mono hc hs⟩
theorem ireturn {rm : Room} {QX : Option Value → Heap → List Loc → Prop} (X : Stand p l e R s m args below meth c T locs cells slots) (hx : p.tables.exec = Jvm.exec) (hby : c.code = bs) {w : Int32} {t : FieldType} (hret : meth.sig.returnType = some t) (hlk : meth.locks = false) (hn : narrow t (.int w) = .int w) (hti : t = .int ∨ t = .boolean ∨ t = .byte ∨ t = .char ∨ t = .short)
    (hd : decode bs pc = .ok (.ireturn, 1)) (hq : QX (some (.int w)) T.heap locs) (hc : cells ≤ rm.cells) (hs : slots ≤ rm.slots) : Go p.tables e below (Qe s rm QX) (T.setTop (mkF m pc ls [.int w])) :=
  Go.leave X (fun h => by rw [hret] at h; cases h) hlk hq hc hs fun fs hr => X.ireturnOut hx hret hn hti (hb hby hd) hr
theorem lreturn {rm : Room} {QX : Option Value → Heap → List Loc → Prop} (X : Stand p l e R s m args below meth c T locs cells slots) (hx : p.tables.exec = Jvm.exec) (hby : c.code = bs) {w : Int64} (hret : meth.sig.returnType = some .long) (hlk : meth.locks = false)
    (hd : decode bs pc = .ok (.lreturn, 1)) (hq : QX (some (.long w)) T.heap locs) (hc : cells ≤ rm.cells) (hs : slots ≤ rm.slots) : Go p.tables e below (Qe s rm QX) (T.setTop (mkF m pc ls [.long w])) :=
  Go.leave X (fun h => by rw [hret] at h; cases h) hlk hq hc hs fun fs hr => X.lreturnOut hx hret (hb hby hd) hr
theorem areturn {rm : Room} {QX : Option Value → Heap → List Loc → Prop} (X : Stand p l e R s m args below meth c T locs cells slots) (hx : p.tables.exec = Jvm.exec) (hby : c.code = bs) {w : Value} {t : FieldType} (hret : meth.sig.returnType = some t) (hlk : meth.locks = false) (hw : w.isRef = true) (ht : t.isReference = true)
    (hd : decode bs pc = .ok (.areturn, 1)) (hq : QX (some w) T.heap locs) (hc : cells ≤ rm.cells) (hs : slots ≤ rm.slots) : Go p.tables e below (Qe s rm QX) (T.setTop (mkF m pc ls [w])) :=
  Go.leave X (fun h => by rw [hret] at h; cases h) hlk hq hc hs fun fs hr => X.areturnOut hx hw hret ht (hb hby hd) hr
theorem returnV {rm : Room} {QX : Option Value → Heap → List Loc → Prop} (X : Stand p l e R s m args below meth c T locs cells slots) (hx : p.tables.exec = Jvm.exec) (hby : c.code = bs) (hret : meth.sig.returnType = none) (hlk : meth.locks = false)
    (hd : decode bs pc = .ok (.return_, 1)) (hq : QX none T.heap locs) (hc : cells ≤ rm.cells) (hs : slots ≤ rm.slots) : Go p.tables e below (Qe s rm QX) (T.setTop (mkF m pc ls [])) :=
  Go.leave X (fun _ => rfl) hlk hq hc hs fun fs hr => X.returnOut hx hret (hb hby hd) hr
theorem ldcI (X : Stand p l e R s m args below meth c T locs cells slots) (hx : p.tables.exec = Jvm.exec) (hby : c.code = bs) (hZ : Z.Warmed39 s.vm) {own : String} {index : Nat} {v : Int32} (hown : s.vm.findClass own = some m.cls) (w : (Jvm.Cond.constant own index v).before a0 Z = true) (hd : decode bs pc = .ok (.ldc index, 2)) (hp : pc + 2 = pn)
    (hr : Go p.tables e below Q (T.setTop (mkF m pn ls (.int v :: st)))) : Go p.tables e below Q (T.setTop (mkF m pc ls st)) := by
  subst hp; exact hr.step fun t k => X.ldcI hx hown (mvT hZ w) rfl (hb hby hd) k
theorem ldc2J (X : Stand p l e R s m args below meth c T locs cells slots) (hx : p.tables.exec = Jvm.exec) (hby : c.code = bs) (hZ : Z.Warmed39 s.vm) {own : String} {index : Nat} {v : Int64} (hown : s.vm.findClass own = some m.cls) (w : (Jvm.Cond.constantLong own index v).before a0 Z = true) (hd : decode bs pc = .ok (.ldc2_w index, 3)) (hp : pc + 3 = pn)
    (hr : Go p.tables e below Q (T.setTop (mkF m pn ls (.long v :: st)))) : Go p.tables e below Q (T.setTop (mkF m pc ls st)) := by
  subst hp; exact hr.step fun t k => X.ldc2J hx hown (mvT hZ w) rfl (hb hby hd) k
/-- a static call by its contract -/
theorem callS (X : Stand p l e R s m args below meth c T locs cells slots) (hx : p.tables.exec = Jvm.exec) (hby : c.code = bs) (hZ : Z.Warmed39 s.vm) {own : String} (hown : s.vm.findClass own = some m.cls) {index : Nat} {y : MethodName} {ybs : ByteArray} {yl : Nat} {yret : Option FieldType} {rm : Room} {argsL rest : List Value} {QX : Option Value → Heap → List Loc → Prop}
    (w1 : (Jvm.Cond.methodLink own index y).before a0 Z = true) (w2 : (Jvm.Cond.static y).before a0 Z = true) (w3 : (Jvm.Cond.initialized y.cls).before a0 Z = true) (w4 : (Jvm.Cond.code y ybs yl yret).before a0 Z = true) (hy : y.cls ≠ "java/lang/invoke/MethodHandle" ∧ y.cls ≠ "java/lang/invoke/VarHandle")
    (K : Con l y ybs yl yret rm Z argsL.toArray T.heap QX) (hf : rm.frames + 1 ≤ R.frames) (hl : (rest.map fun v => v.category).sum + (yl + 11) + rm.locals ≤ R.locals) (hcl : cells + rm.cells ≤ R.cells) (hsl : slots + rm.slots ≤ R.slots)
    (hlen : ∀ sig, parseMethodDescriptor y.desc = some sig → argsL.length = sig.parameters.length) (hsize : ls.size = c.maxLocals) (hst : st = argsL.reverse ++ rest) (hd : decode bs pc = .ok (.invokestatic index, 3)) (hp : pc + 3 = pn)
    (hr : ∀ (v : Option Value) (T' : State) (L : List Loc), QX v T'.heap L → Stand p l e R s m args below meth c T' (locs ++ L) (cells + rm.cells) (slots + rm.slots) → Go p.tables e below Q (T'.setTop (mkF m pn ls (v.toList ++ rest)))) : Go p.tables e below Q (T.setTop (mkF m pc ls st)) := by
  subst hp
  obtain ⟨v, _, ⟨T2, L2, k2, n2⟩, -, X2, ⟨Lc2, hQ2, l2, y2, z2⟩, st2⟩ := Jvm.LawKit.callS X hx (y := y) hown (mvT hZ w1) (mvT hZ w2) (mvT hZ w3) (mvT hZ w4) hy (backOf (W := (rest.map fun v => v.category).sum) (K []) hZ w4 w3 hf hl) (g := mkF m pc ls st) rfl hsize (argsL := argsL) (rest := rest) hlen hst (by show 2 * 0 + _ ≤ _; omega) (hb hby hd) (fun _ _ => ⟨rfl, rfl, hcl, hsl⟩)
  dsimp only [Pt.U, Pt.locs, Pt.cells, Pt.slots] at X2 l2 y2 z2 st2 hQ2
  subst l2 y2 z2
  exact (hr v T2 Lc2 hQ2 X2).step fun t k => st2 t k
/-- a static call of a body that only reckons -/
theorem callP (X : Stand p l e R s m args below meth c T locs cells slots) (hx : p.tables.exec = Jvm.exec) (hby : c.code = bs) (hZ : Z.Warmed39 s.vm) {own : String} (hown : s.vm.findClass own = some m.cls) {index : Nat} {y : MethodName} {ybs : ByteArray} {yl fr lo : Nat} {yret : Option FieldType} {argsL rest : List Value} {V : Value}
    (w1 : (Jvm.Cond.methodLink own index y).before a0 Z = true) (w2 : (Jvm.Cond.static y).before a0 Z = true) (w3 : (Jvm.Cond.initialized y.cls).before a0 Z = true) (w4 : (Jvm.Cond.code y ybs yl yret).before a0 Z = true) (hy : y.cls ≠ "java/lang/invoke/MethodHandle" ∧ y.cls ≠ "java/lang/invoke/VarHandle")
    (K : Con l y ybs yl yret (rmP fr lo) Z argsL.toArray T.heap (PureQ V T.heap)) (hf : fr + 1 ≤ R.frames) (hl : (rest.map fun v => v.category).sum + (yl + 11) + lo ≤ R.locals) (hcl : cells ≤ R.cells) (hsl : slots ≤ R.slots)
    (hlen : ∀ sig, parseMethodDescriptor y.desc = some sig → argsL.length = sig.parameters.length) (hsize : ls.size = c.maxLocals) (hst : st = argsL.reverse ++ rest) (hd : decode bs pc = .ok (.invokestatic index, 3)) (hp : pc + 3 = pn)
    (hr : ∀ (T' : State), Stand p l e R s m args below meth c T' locs cells slots → T'.heap = T.heap → Go p.tables e below Q (T'.setTop (mkF m pn ls (V :: rest)))) : Go p.tables e below Q (T.setTop (mkF m pc ls st)) := by
  refine callS X hx hby hZ hown w1 w2 w3 w4 hy K hf hl hcl hsl hlen hsize hst hd hp ?_
  intro v T' L hQ X'
  obtain ⟨rfl, rfl, eh⟩ := hQ
  exact hr T' (by simpa [rmP] using X') eh
end Stands
end Jvm.OwnGo
namespace Jvm.OwnGo
open Jvm Jvm.ClassFile Sem Op Lib Jvm.Free Jvm.Stand Jvm.LawKit Jvm.RoadKit
section Arrays
variable {p : Program} {l : Launch} {e : Env} {R : Room} {s : State} {m : MethodId} {args : Array Value} {below : List Frame} {meth : Method} {c : Code} {T : State} {locs : List Loc} {cells slots : Nat} {Z : State} {a0 : Array Value} {h h' : Heap} {bs : ByteArray} {ls : Array Slot} {st : List Value} {pc pn : Nat} {Q : Outcome → State → Prop} {a b : Addr} {ty : FieldType} {xs : List Int32} {ws : List Addr}
def Ia (Z : State) (h : Heap) (a : Addr) (ty : FieldType) (xs : List Int32) : Prop := ∃ cl : Cell, Arr Z h a cl ty ∧ cl.slots.toList = xs.map Value.int
theorem Ia.lt (F : Ia Z h a ty xs) : a < h.size := by obtain ⟨cl, A, -⟩ := F; exact A.lt
theorem Ia.ext (F : Ia Z h a ty xs) (E : Ext h h') : Ia Z h' a ty xs := by obtain ⟨cl, A, r⟩ := F; exact ⟨cl, A.ext E, r⟩
theorem Ia.other {sl : Nat} {v : Value} (F : Ia Z h b ty xs) (W : Wr h h' a sl v) (q : b ≠ a) : Ia Z h' b ty xs := by obtain ⟨cl, A, r⟩ := F; exact ⟨cl, A.other W q, r⟩
theorem Ia.keep (F : Ia Z h a ty xs) (K : Keep h h' ws) (q : a ∉ ws) : Ia Z h' a ty xs := by obtain ⟨cl, A, r⟩ := F; exact ⟨cl, ⟨K.2.1 a cl A.1 q, A.2⟩, r⟩
theorem Ia.size {cl : Cell} (r : cl.slots.toList = xs.map Value.int) : cl.slots.size = xs.length := by
  have := congrArg List.length r
  simpa using this
theorem Ia.get {cl : Cell} (r : cl.slots.toList = xs.map Value.int) (k : Nat) : cl.slots[k]? = (xs[k]?).map Value.int := by
  rw [← Array.getElem?_toList, r, List.getElem?_map]
theorem getD_of {k : Nat} (h : k < xs.length) : xs[k]? = some (xs.getD k 0) := by
  simp [List.getD, List.getElem?_eq_getElem h]
theorem getD_set {k j : Nat} {v : Int32} (h : j < xs.length) : (xs.set j v).getD k 0 = if k = j then v else xs.getD k 0 := by
  simp only [List.getD, List.getElem?_set]
  by_cases q : j = k
  · subst q; simp [h]
  · simp [q, Ne.symm q]
theorem getD_rep {k n : Nat} : (List.replicate n (0 : Int32)).getD k 0 = 0 := by
  simp only [List.getD, List.getElem?_replicate]
  split <;> rfl
theorem Ia.set {sl : Nat} {v : Int32} (F : Ia Z h a ty xs) (W : Wr h h' a sl (.int v)) : Ia Z h' a ty (xs.set sl v) := by
  obtain ⟨cl, A, r⟩ := F
  refine ⟨_, A.same W, ?_⟩
  show (cl.slots.setIfInBounds sl (.int v)).toList = _
  rw [Array.toList_setIfInBounds, r, List.map_set]
theorem Ia.new {k : ClassId} {z : Int32} (A : Arr Z h a (newA k ty z) ty) (hd : defaultValue ty = .int 0) : Ia Z h a ty (List.replicate z.toNatClampNeg 0) := by
  refine ⟨_, A, ?_⟩
  simp [newA, hd]
theorem Ia.inb {cl : Cell} {j : Int32} {v : Int32} (r : cl.slots.toList = xs.map Value.int) (hj : ¬ j < 0) (hv : xs[j.toNatClampNeg]? = some v) : ¬ (j < 0 ∨ cl.slots.size ≤ j.toNatClampNeg) := by
  rintro (q | q)
  · exact hj q
  · rw [Ia.size r] at q
    have := (List.getElem?_eq_some_iff.mp hv).1
    omega
theorem Ia.inbL {cl : Cell} {j : Int32} (r : cl.slots.toList = xs.map Value.int) (hj : ¬ j < 0) (hv : j.toNatClampNeg < xs.length) : ¬ (j < 0 ∨ cl.slots.size ≤ j.toNatClampNeg) := by
  rintro (q | q)
  · exact hj q
  · rw [Ia.size r] at q; omega
theorem iaload (X : Stand p l e R s m args below meth c T locs cells slots) (hx : p.tables.exec = Jvm.exec) (hby : c.code = bs) (hZ : Z.Warmed39 s.vm) (A : Ia Z T.heap a .int xs) {j v : Int32} (hj : ¬ j < 0) (hv : xs[j.toNatClampNeg]? = some v) (hd : decode bs pc = .ok (.iaload, 1)) (hp : pc + 1 = pn)
    (hr : Go p.tables e below Q (T.setTop (mkF m pn ls (.int v :: st)))) : Go p.tables e below Q (T.setTop (mkF m pc ls (.int j :: .ref a :: st))) := by
  subst hp
  obtain ⟨cl, Ar, r⟩ := A
  exact hr.step fun t k => X.iaload hx (j := j) (v := .int v) Ar.1 (State.isArrayOf_alike hZ.alike Ar.2.1) Ar.2.2 (Ia.inb r hj hv) (by rw [Ia.get r, hv]; rfl) (g := mkF m pc ls (.int j :: .ref a :: st)) rfl rfl (hb hby hd) t k
theorem baloadB (X : Stand p l e R s m args below meth c T locs cells slots) (hx : p.tables.exec = Jvm.exec) (hby : c.code = bs) (hZ : Z.Warmed39 s.vm) (A : Ia Z T.heap a .byte xs) {j v : Int32} (hj : ¬ j < 0) (hv : xs[j.toNatClampNeg]? = some v) (hd : decode bs pc = .ok (.baload, 1)) (hp : pc + 1 = pn)
    (hr : Go p.tables e below Q (T.setTop (mkF m pn ls (.int v :: st)))) : Go p.tables e below Q (T.setTop (mkF m pc ls (.int j :: .ref a :: st))) := by
  subst hp
  obtain ⟨cl, Ar, r⟩ := A
  exact hr.step fun t k => X.baloadBytes hx (j := j) (v := .int v) Ar.1 (State.isArrayOf_alike hZ.alike Ar.2.1) Ar.2.2 (Ia.inb r hj hv) (by rw [Ia.get r, hv]; rfl) (g := mkF m pc ls (.int j :: .ref a :: st)) rfl rfl (hb hby hd) t k
theorem baloadZ (X : Stand p l e R s m args below meth c T locs cells slots) (hx : p.tables.exec = Jvm.exec) (hby : c.code = bs) (hZ : Z.Warmed39 s.vm) (A : Ia Z T.heap a .boolean xs) {j v : Int32} (hj : ¬ j < 0) (hv : xs[j.toNatClampNeg]? = some v) (hd : decode bs pc = .ok (.baload, 1)) (hp : pc + 1 = pn)
    (hr : Go p.tables e below Q (T.setTop (mkF m pn ls (.int v :: st)))) : Go p.tables e below Q (T.setTop (mkF m pc ls (.int j :: .ref a :: st))) := by
  subst hp
  obtain ⟨cl, Ar, r⟩ := A
  exact hr.step fun t k => X.baloadBooleans hx (j := j) (v := .int v) Ar.1 (State.isArrayOf_alike hZ.alike Ar.2.1) Ar.2.2 (Ia.inb r hj hv) (by rw [Ia.get r, hv]; rfl) (g := mkF m pc ls (.int j :: .ref a :: st)) rfl rfl (hb hby hd) t k
theorem caload (X : Stand p l e R s m args below meth c T locs cells slots) (hx : p.tables.exec = Jvm.exec) (hby : c.code = bs) (hZ : Z.Warmed39 s.vm) (A : Ia Z T.heap a .char xs) {j v : Int32} (hj : ¬ j < 0) (hv : xs[j.toNatClampNeg]? = some v) (hd : decode bs pc = .ok (.caload, 1)) (hp : pc + 1 = pn)
    (hr : Go p.tables e below Q (T.setTop (mkF m pn ls (.int v :: st)))) : Go p.tables e below Q (T.setTop (mkF m pc ls (.int j :: .ref a :: st))) := by
  subst hp
  obtain ⟨cl, Ar, r⟩ := A
  exact hr.step fun t k => X.caload hx (j := j) (v := .int v) Ar.1 (State.isArrayOf_alike hZ.alike Ar.2.1) Ar.2.2 (Ia.inb r hj hv) (by rw [Ia.get r, hv]; rfl) (g := mkF m pc ls (.int j :: .ref a :: st)) rfl rfl (hb hby hd) t k
theorem iastore (X : Stand p l e R s m args below meth c T locs cells slots) (hx : p.tables.exec = Jvm.exec) (hby : c.code = bs) (hZ : Z.Warmed39 s.vm) (A : Ia Z T.heap a .int xs) {j x : Int32} (hj : ¬ j < 0) (hlt : j.toNatClampNeg < xs.length) {n0 : Nat} (hn : n0 ≤ a) (N : Fr n0 locs) (hd : decode bs pc = .ok (.iastore, 1)) (hp : pc + 1 = pn)
    (hr : ∀ (T' : State) (locs' : List Loc), Stand p l e R s m args below meth c T' locs' cells slots → Fr n0 locs' → Ia Z T'.heap a .int (xs.set j.toNatClampNeg (x)) → Wr T.heap T'.heap a j.toNatClampNeg (.int (x)) → Go p.tables e below Q (T'.setTop (mkF m pn ls st))) : Go p.tables e below Q (T.setTop (mkF m pc ls (.int x :: .int j :: .ref a :: st))) := by
  subst hp
  have A' := A
  obtain ⟨cl, Ar, r⟩ := A
  obtain ⟨T', h', X', e', W', st'⟩ := stI X hx hZ rfl Ar (j := j) (x := x) (Ia.inbL r hj hlt) (g := mkF m pc ls (.int x :: .int j :: .ref a :: st)) rfl rfl (hb hby hd)
  subst e'
  exact (hr T' _ X' (Fr.snoc X' N hn) (A'.set W') W').step fun t k => st' t k
theorem bastoreB (X : Stand p l e R s m args below meth c T locs cells slots) (hx : p.tables.exec = Jvm.exec) (hby : c.code = bs) (hZ : Z.Warmed39 s.vm) (A : Ia Z T.heap a .byte xs) {j x : Int32} (hj : ¬ j < 0) (hlt : j.toNatClampNeg < xs.length) {n0 : Nat} (hn : n0 ≤ a) (N : Fr n0 locs) (hd : decode bs pc = .ok (.bastore, 1)) (hp : pc + 1 = pn)
    (hr : ∀ (T' : State) (locs' : List Loc), Stand p l e R s m args below meth c T' locs' cells slots → Fr n0 locs' → Ia Z T'.heap a .byte (xs.set j.toNatClampNeg (nar .byte x)) → Wr T.heap T'.heap a j.toNatClampNeg (.int (nar .byte x)) → Go p.tables e below Q (T'.setTop (mkF m pn ls st))) : Go p.tables e below Q (T.setTop (mkF m pc ls (.int x :: .int j :: .ref a :: st))) := by
  subst hp
  have A' := A
  obtain ⟨cl, Ar, r⟩ := A
  obtain ⟨T', h', X', e', W', st'⟩ := stB X hx hZ rfl Ar (j := j) (x := x) (Ia.inbL r hj hlt) (g := mkF m pc ls (.int x :: .int j :: .ref a :: st)) rfl rfl (hb hby hd)
  subst e'
  exact (hr T' _ X' (Fr.snoc X' N hn) (A'.set W') W').step fun t k => st' t k
theorem castore (X : Stand p l e R s m args below meth c T locs cells slots) (hx : p.tables.exec = Jvm.exec) (hby : c.code = bs) (hZ : Z.Warmed39 s.vm) (A : Ia Z T.heap a .char xs) {j x : Int32} (hj : ¬ j < 0) (hlt : j.toNatClampNeg < xs.length) {n0 : Nat} (hn : n0 ≤ a) (N : Fr n0 locs) (hd : decode bs pc = .ok (.castore, 1)) (hp : pc + 1 = pn)
    (hr : ∀ (T' : State) (locs' : List Loc), Stand p l e R s m args below meth c T' locs' cells slots → Fr n0 locs' → Ia Z T'.heap a .char (xs.set j.toNatClampNeg (nar .char x)) → Wr T.heap T'.heap a j.toNatClampNeg (.int (nar .char x)) → Go p.tables e below Q (T'.setTop (mkF m pn ls st))) : Go p.tables e below Q (T.setTop (mkF m pc ls (.int x :: .int j :: .ref a :: st))) := by
  subst hp
  have A' := A
  obtain ⟨cl, Ar, r⟩ := A
  obtain ⟨T', h', X', e', W', st'⟩ := stC X hx hZ rfl Ar (j := j) (x := x) (Ia.inbL r hj hlt) (g := mkF m pc ls (.int x :: .int j :: .ref a :: st)) rfl rfl (hb hby hd)
  subst e'
  exact (hr T' _ X' (Fr.snoc X' N hn) (A'.set W') W').step fun t k => st' t k
theorem newarr (X : Stand p l e R s m args below meth c T locs cells slots) (hx : p.tables.exec = Jvm.exec) (hby : c.code = bs) (hZ : Z.Warmed39 s.vm) {aty : ArrayType} (w : (Jvm.Cond.arrayClass (newarray.typeOf aty)).before a0 Z = true) (hdv : defaultValue (newarray.typeOf aty) = .int 0) {n : Int32} (hn : ¬ n < 0) (cap : Nat) (hcap : n.toNatClampNeg ≤ cap) (hcb : cap * 8 ≤ 536870912) (hc : cells + 1 ≤ R.cells) (hl : slots + cap ≤ R.slots) (hd : decode bs pc = .ok (.newarray aty, 2)) (hp : pc + 2 = pn)
    (hr : ∀ (T' : State), Stand p l e R s m args below meth c T' locs (cells + 1) (slots + cap) → Ext T.heap T'.heap → Ia Z T'.heap T.heap.size (newarray.typeOf aty) (List.replicate n.toNatClampNeg 0) → Go p.tables e below Q (T'.setTop (mkF m pn ls (.ref T.heap.size :: st)))) : Go p.tables e below Q (T.setTop (mkF m pc ls (.int n :: st))) := by
  subst hp
  obtain ⟨T', h', cA, X', e', E', A', st'⟩ := newP X hx hZ w rfl (g := mkF m pc ls (.int n :: st)) rfl (hb hby hd) rfl hn hcap hcb hc hl
  subst e'
  exact (hr T' X' E' (Ia.new A' hdv)).step fun t k => st' t k
theorem arrlen (X : Stand p l e R s m args below meth c T locs cells slots) (hx : p.tables.exec = Jvm.exec) (hby : c.code = bs) (hZ : Z.Warmed39 s.vm) (A : Ia Z T.heap a ty xs) {v : Int32} (hv : xs.length.toInt32 = v) (hd : decode bs pc = .ok (.arraylength, 1)) (hp : pc + 1 = pn)
    (hr : Go p.tables e below Q (T.setTop (mkF m pn ls (.int v :: st)))) : Go p.tables e below Q (T.setTop (mkF m pc ls (.ref a :: st))) := by
  subst hp
  obtain ⟨cl, Ar, r⟩ := A
  subst hv
  rw [← Ia.size r] at hr
  exact hr.step fun t k => X.arraylength hx Ar.1 (State.isArrayOf_alike hZ.alike Ar.2.1) (g := mkF m pc ls (.ref a :: st)) rfl rfl (hb hby hd) t k
theorem getst (X : Stand p l e R s m args below meth c T locs cells slots) (hx : p.tables.exec = Jvm.exec) (hby : c.code = bs) (hZ : Z.Warmed39 s.vm) {own C n d : String} {index : Nat} {v : Value} (hown : s.vm.findClass own = some m.cls) (w : (Jvm.Cond.fieldLink own index C n d).before a0 Z = true) (F : Sta Z T.heap C n d v) (hd : decode bs pc = .ok (.getstatic index, 3)) (hp : pc + 3 = pn)
    (hr : ∀ (T' : State), Stand p l e R s m args below meth c T' locs cells slots → T'.heap = T.heap → Go p.tables e below Q (T'.setTop (mkF m pn ls (v :: st)))) : Go p.tables e below Q (T.setTop (mkF m pc ls st)) := by
  subst hp
  obtain ⟨T', X', e', st'⟩ := getS X hx hZ hown (host := "") w Via.refl rfl F (g := mkF m pc ls st) rfl (hb hby hd)
  exact (hr T' X' e').step fun t k => st' t k
end Arrays
end Jvm.OwnGo
namespace Jvm.OwnGo
open Jvm Jvm.ClassFile Sem Op Lib Jvm.Free Jvm.Stand Jvm.LawKit Jvm.RoadKit
section Tables
variable {s : State} {args : Array Value} {t : Term} {a : Addr} {cl : Cell} {ty : FieldType} {k : Nat} {x : Int32}
theorem nat32 (h : k < 2 ^ 31) : k.toInt32.toNatClampNeg = k ∧ ¬ k.toInt32 < 0 := by
  have e := len_toInt h
  constructor
  · simp only [Int32.toNatClampNeg, e]; rfl
  · simp only [Int32.lt_iff_toInt_lt, e, Int32.reduceToInt]; omega
theorem len_eq {n : Int32} (ev : t.eval args s none [] s = some (.ref a)) (hA : s.arrayAt? a = some cl) (h : (Jvm.Cond.eq (.length t) (.int n)).value args s none s [] = some true) : cl.slots.size < 2 ^ 31 ∧ cl.slots.size.toInt32 = n := by
  by_cases q : cl.slots.size < 2 ^ 31
  · refine ⟨q, ?_⟩
    simpa [Cond.value, Term.eval, ev, hA, q] using h
  · simp [Cond.value, Term.eval, ev, hA, q] at h
theorem Ia.start (hf : Fit s) (A : Arr s s.heap a cl ty) (ht : ty = .int ∨ ty = .boolean ∨ ty = .byte ∨ ty = .char ∨ ty = .short) (q : cl.slots.size < 2 ^ 31) : ∃ xs : List Int32, Ia s s.heap a ty xs ∧ xs.length = cl.slots.size ∧ ∀ k : Nat, cl.slots[k]? = (xs[k]?).map Value.int := by
  have key : ∀ k : Nat, k < cl.slots.size → ∃ x, cl.slots[k]? = some (.int x) := fun k hk => by
    have e := nat32 (show k < 2 ^ 31 by omega)
    obtain ⟨v, h1, h2⟩ := elem_fit hf A (j := k.toInt32) (by rw [e.1]; exact fun u => u.elim e.2 (fun u => by omega))
    obtain ⟨x, rfl⟩ := fit_I h2 ht
    rw [e.1] at h1
    exact ⟨x, h1⟩
  have r : cl.slots.toList = (cl.slots.toList.map fun v => match v with | .int x => x | _ => (0 : Int32)).map Value.int := by
    apply List.ext_getElem?
    intro k
    rw [List.getElem?_map, List.getElem?_map, Array.getElem?_toList]
    by_cases hk : k < cl.slots.size
    · obtain ⟨x, hx⟩ := key k hk
      rw [hx]; rfl
    · rw [Array.getElem?_eq_none (by omega)]; rfl
  exact ⟨_, ⟨cl, A, r⟩, by simp, fun k => Ia.get r k⟩
theorem tab_up (ev : ∀ idx, t.eval args s none idx s = some (.ref a)) (hA : s.arrayAt? a = some cl) (q : cl.slots.size < 2 ^ 31) (hk : k < cl.slots.size) (hx : cl.slots[k]? = some (.int x)) {lo v : Int32}
    (h : (Jvm.Cond.all t (.or (.le (.int lo) (.index 0)) (.eq (.elem t (.index 0)) (.int v)))).value args s none s [] = some true) : lo.toInt ≤ k ∨ x = v := by
  have h2 := Cond.all_elim (ev []) hA h k hk
  have e := nat32 (show k < 2 ^ 31 by omega)
  have i1 : (Term.index 0).eval args s none [k] s = some (.int k.toInt32) := Term.index_eval _
  have e1 : (Term.elem t (.index 0)).eval args s none [k] s = some (.int x) := by rw [elem_f (ev _) i1 hA e.2, e.1, hx]
  by_cases c : lo ≤ k.toInt32
  · left; rw [Int32.le_iff_toInt_le, len_toInt (by omega)] at c; exact c
  · right; simpa [Cond.value, i1, e1, c, Term.int_eval] using h2
theorem tab_in (ev : ∀ idx, t.eval args s none idx s = some (.ref a)) (hA : s.arrayAt? a = some cl) (q : cl.slots.size < 2 ^ 31) (hk : k < cl.slots.size) (hx : cl.slots[k]? = some (.int x)) {lo hi v : Int32}
    (h : (Jvm.Cond.all t (.or (.lt (.index 0) (.int lo)) (.or (.le (.int hi) (.index 0)) (.eq (.elem t (.index 0)) (.int v))))).value args s none s [] = some true) : (k : Int) < lo.toInt ∨ hi.toInt ≤ k ∨ x = v := by
  have h2 := Cond.all_elim (ev []) hA h k hk
  have e := nat32 (show k < 2 ^ 31 by omega)
  have i1 : (Term.index 0).eval args s none [k] s = some (.int k.toInt32) := Term.index_eval _
  have e1 : (Term.elem t (.index 0)).eval args s none [k] s = some (.int x) := by rw [elem_f (ev _) i1 hA e.2, e.1, hx]
  by_cases c1 : k.toInt32 < lo
  · left; rw [Int32.lt_iff_toInt_lt, len_toInt (by omega)] at c1; exact c1
  · right
    by_cases c : hi ≤ k.toInt32
    · left; rw [Int32.le_iff_toInt_le, len_toInt (by omega)] at c; exact c
    · right; simpa [Cond.value, i1, e1, c, c1, Term.int_eval] using h2
theorem tab_fr (ev : ∀ idx, t.eval args s none idx s = some (.ref a)) (hA : s.arrayAt? a = some cl) (q : cl.slots.size < 2 ^ 31) (hk : k < cl.slots.size) (hx : cl.slots[k]? = some (.int x)) {lo v : Int32}
    (h : (Jvm.Cond.all t (.or (.lt (.index 0) (.int lo)) (.eq (.elem t (.index 0)) (.int v)))).value args s none s [] = some true) : (k : Int) < lo.toInt ∨ x = v := by
  have h2 := Cond.all_elim (ev []) hA h k hk
  have e := nat32 (show k < 2 ^ 31 by omega)
  have i1 : (Term.index 0).eval args s none [k] s = some (.int k.toInt32) := Term.index_eval _
  have e1 : (Term.elem t (.index 0)).eval args s none [k] s = some (.int x) := by rw [elem_f (ev _) i1 hA e.2, e.1, hx]
  by_cases c1 : k.toInt32 < lo
  · left; rw [Int32.lt_iff_toInt_lt, len_toInt (by omega)] at c1; exact c1
  · right; simpa [Cond.value, i1, e1, c1, Term.int_eval] using h2
theorem tab_at (ev : ∀ idx, t.eval args s none idx s = some (.ref a)) (hA : s.arrayAt? a = some cl) {j v : Int32} (hj : ¬ j < 0) (hx : cl.slots[j.toNatClampNeg]? = some (.int x))
    (h : (Jvm.Cond.eq (.elem t (.int j)) (.int v)).value args s none s [] = some true) : x = v := by
  have e1 : (Term.elem t (.int j)).eval args s none [] s = some (.int x) := by rw [elem_f (ev _) (Term.int_eval j) hA hj, hx]
  simpa [Cond.value, e1, Term.int_eval] using h
end Tables
end Jvm.OwnGo
namespace Jvm.Pilot.@@N@@
open Jvm Jvm.ClassFile Sem Op Lib Jvm.Free Jvm.Stand Jvm.LawKit Jvm.RoadKit Bundle Jvm.Pilot.@@N@@.Jvm.D
def own_f1_16 : Int32 := (0 : Int32)
def own_f1 (xs : List Int32) (p0 : Int32) : Int32 := (if p0 < (0 : Int32) then (own_f1_16) else (if (xs.getD (p0).toNatClampNeg 0) = (0 : Int32) then (own_f1_16) else (1 : Int32)))
theorem d1_0 : decode prog_13_method_23_code 0 = .ok (.iload_n 0, 1) := by decide +kernel
theorem d1_1 : decode prog_13_method_23_code 1 = .ok (.ifCond .lt 15, 3) := by decide +kernel
theorem d1_4 : decode prog_13_method_23_code 4 = .ok (.getstatic 316, 3) := by decide +kernel
theorem d1_7 : decode prog_13_method_23_code 7 = .ok (.iload_n 0, 1) := by decide +kernel
theorem d1_8 : decode prog_13_method_23_code 8 = .ok (.baload, 1) := by decide +kernel
theorem d1_9 : decode prog_13_method_23_code 9 = .ok (.ifCond .eq 7, 3) := by decide +kernel
theorem d1_12 : decode prog_13_method_23_code 12 = .ok (.iconst 1, 1) := by decide +kernel
theorem d1_13 : decode prog_13_method_23_code 13 = .ok (.goto 4, 3) := by decide +kernel
theorem d1_16 : decode prog_13_method_23_code 16 = .ok (.iconst 0, 1) := by decide +kernel
theorem d1_17 : decode prog_13_method_23_code 17 = .ok (.ireturn, 1) := by decide +kernel
theorem pn_0 : plainName "tenantry/RequestHead" = true := by first | (simp [plainName, overriddenIn]; done) | decide +kernel
theorem ef_1 (m : MethodId) (p0 : Int32) : entryFrame m #[(.int p0)] 1 = mkF m 0 #[.val (.int p0)] [] := by first | (simp [entryFrame, mkF, argsToLocals, Value.category]; done) | rfl
set_option maxRecDepth 65536 in
set_option maxHeartbeats 40000000 in
theorem rm_own_f1 (l : Launch) (Z : State) (a0 : Array Value) (hw : ∀ d ∈ tables_1, d.before a0 Z = true) (p0 : Int32) (xs : List Int32) (h0 : Heap) (w : Addr) (S : Sta Z h0 "tenantry/RequestHead" "TOKEN" "[Z" (.ref w)) (A : OwnGo.Ia Z h0 w .boolean xs) (hlen : xs.length = 128) (hb : p0.toInt < 128) :
    OwnGo.Con l (⟨"tenantry/RequestHead", "isToken", "(B)Z"⟩ : MethodName) prog_13_method_23_code 1 (some .boolean) (OwnGo.rmP 0 0) Z #[(.int p0)] h0 (OwnGo.PureQ (.int (own_f1 xs p0)) h0) := by
  refine OwnGo.Con.intro (plainFor_of_name pn_0) ?_
  intro p e s m below meth c T0 X0 hx hby hml hZ hown hnm hret hlk e0
  refine OwnGo.Go.cast (ef_1 m p0) ?_
  obtain ⟨r, hr⟩ : ∃ r, own_f1 xs p0 = r := ⟨_, rfl⟩
  rw [hr]
  have hfin : OwnGo.PureQ (.int r) h0 (some (.int r)) h0 [] := ⟨rfl, rfl, rfl⟩
  have B16 : ∀ (T0 : State) (X0 : Stand p l e (OwnGo.rmP 0 0) s m #[(.int p0)] below meth c T0 [] 0 0) (e0 : T0.heap = h0), own_f1_16 = r → OwnGo.Go p.tables e below (OwnGo.Qe s (OwnGo.rmP 0 0) (OwnGo.PureQ (.int r) h0)) (T0.setTop (mkF m 16 #[.val (.int p0)] [])) := by
    intro T0 X0 e0 hr
    unfold own_f1_16 at hr
    have W0 : OwnGo.Wk p.tables T0 m c below prog_13_method_23_code := ⟨X0.here, hx, hby⟩
    refine OwnGo.iconst (v := (0 : Int32)) W0 (pn := 17) d1_16 rfl rfl ?_
    exact OwnGo.ireturn X0 hx hby hret hlk rfl (by simp) d1_17 (OwnGo.fin_of hr e0 hfin) (by decide) (by decide)
  unfold own_f1 at hr
  have W0 : OwnGo.Wk p.tables T0 m c below prog_13_method_23_code := ⟨X0.here, hx, hby⟩
  refine OwnGo.iloadN W0 (pn := 1) d1_0 rfl rfl ?_
  refine OwnGo.if_lt W0 (pn := 4) (pt := 16) d1_1 rfl (by decide) (by decide) (fun h1 => ?_) (fun h1 => ?_)
  · rw [if_pos h1] at hr
    exact B16 _ X0 e0 hr
  · rw [if_neg h1] at hr
    refine OwnGo.getst X0 hx hby hZ hown (pn := 7) (hw _ (List.mem_of_getElem? (i := 4) rfl)) (v := .ref w) (by rw [e0]; exact S) d1_4 rfl (fun T1 X1 f1 => ?_)
    have e1 := f1.trans e0
    have W1 : OwnGo.Wk p.tables T1 m c below prog_13_method_23_code := ⟨X1.here, hx, hby⟩
    refine OwnGo.iloadN W1 (pn := 8) d1_7 rfl rfl ?_
    refine OwnGo.baloadZ X1 hx hby hZ (pn := 9) (by rw [e1]; exact A : OwnGo.Ia Z _ w .boolean xs) h1 (OwnGo.getD_of (by simp only [Int32.lt_iff_toInt_lt, Int32.reduceToInt, Int32.toNatClampNeg] at *; omega)) d1_8 rfl ?_
    refine OwnGo.if_eq W1 (pn := 12) (pt := 16) d1_9 rfl (by decide) (by decide) (fun h9 => ?_) (fun h9 => ?_)
    · rw [if_pos h9] at hr
      exact B16 _ X1 e1 hr
    · rw [if_neg h9] at hr
      refine OwnGo.iconst (v := (1 : Int32)) W1 (pn := 13) d1_12 rfl rfl ?_
      refine OwnGo.goto W1 (pt := 17) d1_13 (by decide) (by decide) ?_
      exact OwnGo.ireturn X1 hx hby hret hlk rfl (by simp) d1_17 (OwnGo.fin_of hr e1 hfin) (by decide) (by decide)
def own_f2_66 : Int32 := (1 : Int32)
def own_f2_54 (p0 : Int32) : Int32 := (if p0 = (123 : Int32) then (own_f2_66) else (if p0 = (125 : Int32) then (own_f2_66) else (0 : Int32)))
def own_f2_42 (p0 : Int32) : Int32 := (if p0 < (91 : Int32) then (own_f2_54 p0) else (if (93 : Int32) < p0 then (own_f2_54 p0) else (own_f2_66)))
def own_f2 (p0 : Int32) : Int32 := (if p0 = (34 : Int32) then (own_f2_66) else (if p0 = (40 : Int32) then (own_f2_66) else (if p0 = (41 : Int32) then (own_f2_66) else (if p0 = (44 : Int32) then (own_f2_66) else (if p0 = (47 : Int32) then (own_f2_66) else (if p0 < (58 : Int32) then (own_f2_42 p0) else (if (64 : Int32) < p0 then (own_f2_42 p0) else (own_f2_66))))))))
theorem d2_0 : decode method_2_code 0 = .ok (.iload_n 0, 1) := by decide +kernel
theorem d2_1 : decode method_2_code 1 = .ok (.bipush 34, 2) := by decide +kernel
theorem d2_3 : decode method_2_code 3 = .ok (.if_icmp .eq 63, 3) := by decide +kernel
theorem d2_6 : decode method_2_code 6 = .ok (.iload_n 0, 1) := by decide +kernel
theorem d2_7 : decode method_2_code 7 = .ok (.bipush 40, 2) := by decide +kernel
theorem d2_9 : decode method_2_code 9 = .ok (.if_icmp .eq 57, 3) := by decide +kernel
theorem d2_12 : decode method_2_code 12 = .ok (.iload_n 0, 1) := by decide +kernel
theorem d2_13 : decode method_2_code 13 = .ok (.bipush 41, 2) := by decide +kernel
theorem d2_15 : decode method_2_code 15 = .ok (.if_icmp .eq 51, 3) := by decide +kernel
theorem d2_18 : decode method_2_code 18 = .ok (.iload_n 0, 1) := by decide +kernel
theorem d2_19 : decode method_2_code 19 = .ok (.bipush 44, 2) := by decide +kernel
theorem d2_21 : decode method_2_code 21 = .ok (.if_icmp .eq 45, 3) := by decide +kernel
theorem d2_24 : decode method_2_code 24 = .ok (.iload_n 0, 1) := by decide +kernel
theorem d2_25 : decode method_2_code 25 = .ok (.bipush 47, 2) := by decide +kernel
theorem d2_27 : decode method_2_code 27 = .ok (.if_icmp .eq 39, 3) := by decide +kernel
theorem d2_30 : decode method_2_code 30 = .ok (.iload_n 0, 1) := by decide +kernel
theorem d2_31 : decode method_2_code 31 = .ok (.bipush 58, 2) := by decide +kernel
theorem d2_33 : decode method_2_code 33 = .ok (.if_icmp .lt 9, 3) := by decide +kernel
theorem d2_36 : decode method_2_code 36 = .ok (.iload_n 0, 1) := by decide +kernel
theorem d2_37 : decode method_2_code 37 = .ok (.bipush 64, 2) := by decide +kernel
theorem d2_39 : decode method_2_code 39 = .ok (.if_icmp .le 27, 3) := by decide +kernel
theorem d2_42 : decode method_2_code 42 = .ok (.iload_n 0, 1) := by decide +kernel
theorem d2_43 : decode method_2_code 43 = .ok (.bipush 91, 2) := by decide +kernel
theorem d2_45 : decode method_2_code 45 = .ok (.if_icmp .lt 9, 3) := by decide +kernel
theorem d2_48 : decode method_2_code 48 = .ok (.iload_n 0, 1) := by decide +kernel
theorem d2_49 : decode method_2_code 49 = .ok (.bipush 93, 2) := by decide +kernel
theorem d2_51 : decode method_2_code 51 = .ok (.if_icmp .le 15, 3) := by decide +kernel
theorem d2_54 : decode method_2_code 54 = .ok (.iload_n 0, 1) := by decide +kernel
theorem d2_55 : decode method_2_code 55 = .ok (.bipush 123, 2) := by decide +kernel
theorem d2_57 : decode method_2_code 57 = .ok (.if_icmp .eq 9, 3) := by decide +kernel
theorem d2_60 : decode method_2_code 60 = .ok (.iload_n 0, 1) := by decide +kernel
theorem d2_61 : decode method_2_code 61 = .ok (.bipush 125, 2) := by decide +kernel
theorem d2_63 : decode method_2_code 63 = .ok (.if_icmp .ne 7, 3) := by decide +kernel
theorem d2_66 : decode method_2_code 66 = .ok (.iconst 1, 1) := by decide +kernel
theorem d2_67 : decode method_2_code 67 = .ok (.goto 4, 3) := by decide +kernel
theorem d2_70 : decode method_2_code 70 = .ok (.iconst 0, 1) := by decide +kernel
theorem d2_71 : decode method_2_code 71 = .ok (.ireturn, 1) := by decide +kernel
theorem pn_1 : plainName "tenantry/RequestHeadIsTokenPinLaw" = true := by first | (simp [plainName, overriddenIn]; done) | decide +kernel
theorem ef_2 (m : MethodId) (p0 : Int32) : entryFrame m #[(.int p0)] 1 = mkF m 0 #[.val (.int p0)] [] := by first | (simp [entryFrame, mkF, argsToLocals, Value.category]; done) | rfl
set_option maxRecDepth 65536 in
set_option maxHeartbeats 40000000 in
theorem rm_own_f2 (l : Launch) (Z : State) (a0 : Array Value) (hw : ∀ d ∈ tables_1, d.before a0 Z = true) (p0 : Int32) (h0 : Heap) :
    OwnGo.Con l (⟨"tenantry/RequestHeadIsTokenPinLaw", "delimiter", "(I)Z"⟩ : MethodName) method_2_code 1 (some .boolean) (OwnGo.rmP 0 0) Z #[(.int p0)] h0 (OwnGo.PureQ (.int (own_f2 p0)) h0) := by
  refine OwnGo.Con.intro (plainFor_of_name pn_1) ?_
  intro p e s m below meth c T0 X0 hx hby hml hZ hown hnm hret hlk e0
  refine OwnGo.Go.cast (ef_2 m p0) ?_
  obtain ⟨r, hr⟩ : ∃ r, own_f2 p0 = r := ⟨_, rfl⟩
  rw [hr]
  have hfin : OwnGo.PureQ (.int r) h0 (some (.int r)) h0 [] := ⟨rfl, rfl, rfl⟩
  have B66 : ∀ (T0 : State) (X0 : Stand p l e (OwnGo.rmP 0 0) s m #[(.int p0)] below meth c T0 [] 0 0) (e0 : T0.heap = h0), own_f2_66 = r → OwnGo.Go p.tables e below (OwnGo.Qe s (OwnGo.rmP 0 0) (OwnGo.PureQ (.int r) h0)) (T0.setTop (mkF m 66 #[.val (.int p0)] [])) := by
    intro T0 X0 e0 hr
    unfold own_f2_66 at hr
    have W0 : OwnGo.Wk p.tables T0 m c below method_2_code := ⟨X0.here, hx, hby⟩
    refine OwnGo.iconst (v := (1 : Int32)) W0 (pn := 67) d2_66 rfl rfl ?_
    refine OwnGo.goto W0 (pt := 71) d2_67 (by decide) (by decide) ?_
    exact OwnGo.ireturn X0 hx hby hret hlk rfl (by simp) d2_71 (OwnGo.fin_of hr e0 hfin) (by decide) (by decide)
  have B54 : ∀ (T0 : State) (X0 : Stand p l e (OwnGo.rmP 0 0) s m #[(.int p0)] below meth c T0 [] 0 0) (e0 : T0.heap = h0), own_f2_54 p0 = r → OwnGo.Go p.tables e below (OwnGo.Qe s (OwnGo.rmP 0 0) (OwnGo.PureQ (.int r) h0)) (T0.setTop (mkF m 54 #[.val (.int p0)] [])) := by
    intro T0 X0 e0 hr
    unfold own_f2_54 at hr
    have W0 : OwnGo.Wk p.tables T0 m c below method_2_code := ⟨X0.here, hx, hby⟩
    refine OwnGo.iloadN W0 (pn := 55) d2_54 rfl rfl ?_
    refine OwnGo.bipush (v := (123 : Int32)) W0 (pn := 57) d2_55 rfl rfl ?_
    refine OwnGo.icmp_eq W0 (pn := 60) (pt := 66) d2_57 rfl (by decide) (by decide) (fun h57 => ?_) (fun h57 => ?_)
    · rw [if_pos h57] at hr
      exact B66 _ X0 e0 hr
    · rw [if_neg h57] at hr
      refine OwnGo.iloadN W0 (pn := 61) d2_60 rfl rfl ?_
      refine OwnGo.bipush (v := (125 : Int32)) W0 (pn := 63) d2_61 rfl rfl ?_
      refine OwnGo.icmp_ne W0 (pn := 66) (pt := 70) d2_63 rfl (by decide) (by decide) (fun h63 => ?_) (fun h63 => ?_)
      · rw [if_pos h63] at hr
        exact B66 _ X0 e0 hr
      · rw [if_neg h63] at hr
        refine OwnGo.iconst (v := (0 : Int32)) W0 (pn := 71) d2_70 rfl rfl ?_
        exact OwnGo.ireturn X0 hx hby hret hlk rfl (by simp) d2_71 (OwnGo.fin_of hr e0 hfin) (by decide) (by decide)
  have B42 : ∀ (T0 : State) (X0 : Stand p l e (OwnGo.rmP 0 0) s m #[(.int p0)] below meth c T0 [] 0 0) (e0 : T0.heap = h0), own_f2_42 p0 = r → OwnGo.Go p.tables e below (OwnGo.Qe s (OwnGo.rmP 0 0) (OwnGo.PureQ (.int r) h0)) (T0.setTop (mkF m 42 #[.val (.int p0)] [])) := by
    intro T0 X0 e0 hr
    unfold own_f2_42 at hr
    have W0 : OwnGo.Wk p.tables T0 m c below method_2_code := ⟨X0.here, hx, hby⟩
    refine OwnGo.iloadN W0 (pn := 43) d2_42 rfl rfl ?_
    refine OwnGo.bipush (v := (91 : Int32)) W0 (pn := 45) d2_43 rfl rfl ?_
    refine OwnGo.icmp_lt W0 (pn := 48) (pt := 54) d2_45 rfl (by decide) (by decide) (fun h45 => ?_) (fun h45 => ?_)
    · rw [if_pos h45] at hr
      exact B54 _ X0 e0 hr
    · rw [if_neg h45] at hr
      refine OwnGo.iloadN W0 (pn := 49) d2_48 rfl rfl ?_
      refine OwnGo.bipush (v := (93 : Int32)) W0 (pn := 51) d2_49 rfl rfl ?_
      refine OwnGo.icmp_le W0 (pn := 54) (pt := 66) d2_51 rfl (by decide) (by decide) (fun h51 => ?_) (fun h51 => ?_)
      · rw [if_pos h51] at hr
        exact B54 _ X0 e0 hr
      · rw [if_neg h51] at hr
        exact B66 _ X0 e0 hr
  unfold own_f2 at hr
  have W0 : OwnGo.Wk p.tables T0 m c below method_2_code := ⟨X0.here, hx, hby⟩
  refine OwnGo.iloadN W0 (pn := 1) d2_0 rfl rfl ?_
  refine OwnGo.bipush (v := (34 : Int32)) W0 (pn := 3) d2_1 rfl rfl ?_
  refine OwnGo.icmp_eq W0 (pn := 6) (pt := 66) d2_3 rfl (by decide) (by decide) (fun h3 => ?_) (fun h3 => ?_)
  · rw [if_pos h3] at hr
    exact B66 _ X0 e0 hr
  · rw [if_neg h3] at hr
    refine OwnGo.iloadN W0 (pn := 7) d2_6 rfl rfl ?_
    refine OwnGo.bipush (v := (40 : Int32)) W0 (pn := 9) d2_7 rfl rfl ?_
    refine OwnGo.icmp_eq W0 (pn := 12) (pt := 66) d2_9 rfl (by decide) (by decide) (fun h9 => ?_) (fun h9 => ?_)
    · rw [if_pos h9] at hr
      exact B66 _ X0 e0 hr
    · rw [if_neg h9] at hr
      refine OwnGo.iloadN W0 (pn := 13) d2_12 rfl rfl ?_
      refine OwnGo.bipush (v := (41 : Int32)) W0 (pn := 15) d2_13 rfl rfl ?_
      refine OwnGo.icmp_eq W0 (pn := 18) (pt := 66) d2_15 rfl (by decide) (by decide) (fun h15 => ?_) (fun h15 => ?_)
      · rw [if_pos h15] at hr
        exact B66 _ X0 e0 hr
      · rw [if_neg h15] at hr
        refine OwnGo.iloadN W0 (pn := 19) d2_18 rfl rfl ?_
        refine OwnGo.bipush (v := (44 : Int32)) W0 (pn := 21) d2_19 rfl rfl ?_
        refine OwnGo.icmp_eq W0 (pn := 24) (pt := 66) d2_21 rfl (by decide) (by decide) (fun h21 => ?_) (fun h21 => ?_)
        · rw [if_pos h21] at hr
          exact B66 _ X0 e0 hr
        · rw [if_neg h21] at hr
          refine OwnGo.iloadN W0 (pn := 25) d2_24 rfl rfl ?_
          refine OwnGo.bipush (v := (47 : Int32)) W0 (pn := 27) d2_25 rfl rfl ?_
          refine OwnGo.icmp_eq W0 (pn := 30) (pt := 66) d2_27 rfl (by decide) (by decide) (fun h27 => ?_) (fun h27 => ?_)
          · rw [if_pos h27] at hr
            exact B66 _ X0 e0 hr
          · rw [if_neg h27] at hr
            refine OwnGo.iloadN W0 (pn := 31) d2_30 rfl rfl ?_
            refine OwnGo.bipush (v := (58 : Int32)) W0 (pn := 33) d2_31 rfl rfl ?_
            refine OwnGo.icmp_lt W0 (pn := 36) (pt := 42) d2_33 rfl (by decide) (by decide) (fun h33 => ?_) (fun h33 => ?_)
            · rw [if_pos h33] at hr
              exact B42 _ X0 e0 hr
            · rw [if_neg h33] at hr
              refine OwnGo.iloadN W0 (pn := 37) d2_36 rfl rfl ?_
              refine OwnGo.bipush (v := (64 : Int32)) W0 (pn := 39) d2_37 rfl rfl ?_
              refine OwnGo.icmp_le W0 (pn := 42) (pt := 66) d2_39 rfl (by decide) (by decide) (fun h39 => ?_) (fun h39 => ?_)
              · rw [if_pos h39] at hr
                exact B42 _ X0 e0 hr
              · rw [if_neg h39] at hr
                exact B66 _ X0 e0 hr
def own_f0_39 (xs : List Int32) (p0 : Int32) (s0 : Int32) : Int32 := (if (own_f1 xs (p0.toInt8.toInt32)) = s0 then (1 : Int32) else (0 : Int32))
def own_f0_38 (xs : List Int32) (p0 : Int32) : Int32 := (own_f0_39 xs p0 (0 : Int32))
def own_f0_22 (xs : List Int32) (p0 : Int32) (s0 : Int32) : Int32 := (if s0 = (0 : Int32) then (own_f0_38 xs p0) else (if (own_f2 (p0.toInt8.toInt32)) = (0 : Int32) then (own_f0_39 xs p0 (1 : Int32)) else (own_f0_38 xs p0)))
def own_f0_21 (xs : List Int32) (p0 : Int32) : Int32 := (own_f0_22 xs p0 (0 : Int32))
def own_f0 (xs : List Int32) (p0 : Int32) : Int32 := (if (p0.toInt8.toInt32) < (33 : Int32) then (own_f0_21 xs p0) else (if (126 : Int32) < (p0.toInt8.toInt32) then (own_f0_21 xs p0) else (own_f0_22 xs p0 (1 : Int32))))
theorem pd_0 : parseMethodDescriptor "(I)Z" = some ⟨[.int], some .boolean⟩ := by decide +kernel
theorem pd_1 : parseMethodDescriptor "(B)Z" = some ⟨[.byte], some .boolean⟩ := by decide +kernel
theorem ef_0 (m : MethodId) (p0 : Int32) : entryFrame m #[(.int p0)] maxLocals = mkF m 0 #[.val (.int p0), .unset, .unset, .unset, .unset] [] := by first | (simp [entryFrame, mkF, argsToLocals, Value.category, maxLocals]; done) | rfl
set_option maxRecDepth 65536 in
set_option maxHeartbeats 40000000 in
theorem rm_own_f0 (l : Launch) (Z : State) (a0 : Array Value) (hw : ∀ d ∈ tables_1, d.before a0 Z = true) (p0 : Int32) (xs : List Int32) (h0 : Heap) (w : Addr) (S : Sta Z h0 "tenantry/RequestHead" "TOKEN" "[Z" (.ref w)) (A : OwnGo.Ia Z h0 w .boolean xs) (hlen : xs.length = 128) :
    OwnGo.Con l x code maxLocals ret room_1 Z #[(.int p0)] h0 (OwnGo.PureQ (.int (own_f0 xs p0)) h0) := by
  refine OwnGo.Con.intro (plainFor_of_name pn_1) ?_
  intro p e s m below meth c T0 X0 hx hby hml hZ hown hnm hret hlk e0
  refine OwnGo.Go.cast (ef_0 m p0) ?_
  obtain ⟨r, hr⟩ : ∃ r, own_f0 xs p0 = r := ⟨_, rfl⟩
  rw [hr]
  have hfin : OwnGo.PureQ (.int r) h0 (some (.int r)) h0 [] := ⟨rfl, rfl, rfl⟩
  have B39 : ∀ (T0 : State) (X0 : Stand p l e room_1 s m #[(.int p0)] below meth c T0 [] 0 0) (e0 : T0.heap = h0) (v3 : Int32) (s0 : Int32), own_f0_39 xs p0 s0 = r → OwnGo.Go p.tables e below (OwnGo.Qe s room_1 (OwnGo.PureQ (.int r) h0)) (T0.setTop (mkF m 39 #[.val (.int p0), .val (.int (p0.toInt8.toInt32)), .val (.int (p0.toInt8.toInt32)), .val (.int v3), .unset] [(.int s0)])) := by
    intro T0 X0 e0 v3 s0 hr
    unfold own_f0_39 at hr
    have W0 : OwnGo.Wk p.tables T0 m c below code := ⟨X0.here, hx, hby⟩
    refine OwnGo.istore W0 (pn := 41) (l' := #[.val (.int p0), .val (.int (p0.toInt8.toInt32)), .val (.int (p0.toInt8.toInt32)), .val (.int v3), .val (.int s0)]) at_39 rfl rfl ?_
    refine OwnGo.iloadN W0 (pn := 42) at_41 rfl rfl ?_
    refine OwnGo.callP X0 hx hby hZ hown (argsL := [(.int (p0.toInt8.toInt32))]) (rest := []) (pn := 45) (hw _ (List.mem_of_getElem? (i := 0) rfl)) (hw _ (List.mem_of_getElem? (i := 1) rfl)) (hw _ (List.mem_of_getElem? (i := 2) rfl)) (hw _ (List.mem_of_getElem? (i := 3) rfl)) (by decide) (rm_own_f1 l Z a0 hw (p0.toInt8.toInt32) xs _ w (by rw [e0]; exact S) (by rw [e0]; exact A) hlen (by have := c_i2b p0; omega)) (by decide) (Nat.le_of_ble_eq_true rfl) (by decide) (by decide) (lenOf pd_1 rfl) (by rw [hml]; rfl) rfl at_42 rfl (fun T1 X1 f1 => ?_)
    have e1 := f1.trans e0
    have W1 : OwnGo.Wk p.tables T1 m c below code := ⟨X1.here, hx, hby⟩
    refine OwnGo.iload W1 (pn := 47) at_45 rfl rfl ?_
    refine OwnGo.icmp_ne W1 (pn := 50) (pt := 54) at_47 rfl (by decide) (by decide) (fun h47 => ?_) (fun h47 => ?_)
    · rw [if_pos h47] at hr
      refine OwnGo.iconst (v := (1 : Int32)) W1 (pn := 51) at_50 rfl rfl ?_
      refine OwnGo.goto W1 (pt := 55) at_51 (by decide) (by decide) ?_
      exact OwnGo.ireturn X1 hx hby hret hlk rfl (by simp) at_55 (OwnGo.fin_of hr e1 hfin) (by decide) (by decide)
    · rw [if_neg h47] at hr
      refine OwnGo.iconst (v := (0 : Int32)) W1 (pn := 55) at_54 rfl rfl ?_
      exact OwnGo.ireturn X1 hx hby hret hlk rfl (by simp) at_55 (OwnGo.fin_of hr e1 hfin) (by decide) (by decide)
  have B38 : ∀ (T0 : State) (X0 : Stand p l e room_1 s m #[(.int p0)] below meth c T0 [] 0 0) (e0 : T0.heap = h0) (v3 : Int32), own_f0_38 xs p0 = r → OwnGo.Go p.tables e below (OwnGo.Qe s room_1 (OwnGo.PureQ (.int r) h0)) (T0.setTop (mkF m 38 #[.val (.int p0), .val (.int (p0.toInt8.toInt32)), .val (.int (p0.toInt8.toInt32)), .val (.int v3), .unset] [])) := by
    intro T0 X0 e0 v3 hr
    unfold own_f0_38 at hr
    have W0 : OwnGo.Wk p.tables T0 m c below code := ⟨X0.here, hx, hby⟩
    refine OwnGo.iconst (v := (0 : Int32)) W0 (pn := 39) at_38 rfl rfl ?_
    exact B39 _ X0 e0 (v3) ((0 : Int32)) hr
  have B22 : ∀ (T0 : State) (X0 : Stand p l e room_1 s m #[(.int p0)] below meth c T0 [] 0 0) (e0 : T0.heap = h0) (s0 : Int32), own_f0_22 xs p0 s0 = r → OwnGo.Go p.tables e below (OwnGo.Qe s room_1 (OwnGo.PureQ (.int r) h0)) (T0.setTop (mkF m 22 #[.val (.int p0), .val (.int (p0.toInt8.toInt32)), .val (.int (p0.toInt8.toInt32)), .unset, .unset] [(.int s0)])) := by
    intro T0 X0 e0 s0 hr
    unfold own_f0_22 at hr
    have W0 : OwnGo.Wk p.tables T0 m c below code := ⟨X0.here, hx, hby⟩
    refine OwnGo.istoreN W0 (pn := 23) (l' := #[.val (.int p0), .val (.int (p0.toInt8.toInt32)), .val (.int (p0.toInt8.toInt32)), .val (.int s0), .unset]) at_22 rfl rfl ?_
    refine OwnGo.iloadN W0 (pn := 24) at_23 rfl rfl ?_
    refine OwnGo.if_eq W0 (pn := 27) (pt := 38) at_24 rfl (by decide) (by decide) (fun h24 => ?_) (fun h24 => ?_)
    · rw [if_pos h24] at hr
      exact B38 _ X0 e0 (s0) hr
    · rw [if_neg h24] at hr
      refine OwnGo.iloadN W0 (pn := 28) at_27 rfl rfl ?_
      refine OwnGo.callP X0 hx hby hZ hown (argsL := [(.int (p0.toInt8.toInt32))]) (rest := []) (pn := 31) (hw _ (List.mem_of_getElem? (i := 6) rfl)) (hw _ (List.mem_of_getElem? (i := 7) rfl)) (hw _ (List.mem_of_getElem? (i := 8) rfl)) (hw _ (List.mem_of_getElem? (i := 9) rfl)) (by decide) (rm_own_f2 l Z a0 hw (p0.toInt8.toInt32) _) (by decide) (Nat.le_of_ble_eq_true rfl) (by decide) (by decide) (lenOf pd_0 rfl) (by rw [hml]; rfl) rfl at_28 rfl (fun T1 X1 f1 => ?_)
      have e1 := f1.trans e0
      have W1 : OwnGo.Wk p.tables T1 m c below code := ⟨X1.here, hx, hby⟩
      refine OwnGo.if_ne W1 (pn := 34) (pt := 38) at_31 rfl (by decide) (by decide) (fun h31 => ?_) (fun h31 => ?_)
      · rw [if_pos h31] at hr
        refine OwnGo.iconst (v := (1 : Int32)) W1 (pn := 35) at_34 rfl rfl ?_
        refine OwnGo.goto W1 (pt := 39) at_35 (by decide) (by decide) ?_
        exact B39 _ X1 e1 (s0) ((1 : Int32)) hr
      · rw [if_neg h31] at hr
        exact B38 _ X1 e1 (s0) hr
  have B21 : ∀ (T0 : State) (X0 : Stand p l e room_1 s m #[(.int p0)] below meth c T0 [] 0 0) (e0 : T0.heap = h0), own_f0_21 xs p0 = r → OwnGo.Go p.tables e below (OwnGo.Qe s room_1 (OwnGo.PureQ (.int r) h0)) (T0.setTop (mkF m 21 #[.val (.int p0), .val (.int (p0.toInt8.toInt32)), .val (.int (p0.toInt8.toInt32)), .unset, .unset] [])) := by
    intro T0 X0 e0 hr
    unfold own_f0_21 at hr
    have W0 : OwnGo.Wk p.tables T0 m c below code := ⟨X0.here, hx, hby⟩
    refine OwnGo.iconst (v := (0 : Int32)) W0 (pn := 22) at_21 rfl rfl ?_
    exact B22 _ X0 e0 ((0 : Int32)) hr
  unfold own_f0 at hr
  have W0 : OwnGo.Wk p.tables T0 m c below code := ⟨X0.here, hx, hby⟩
  refine OwnGo.iloadN W0 (pn := 1) at_0 rfl rfl ?_
  refine OwnGo.i2b W0 (pn := 2) at_1 rfl ?_
  refine OwnGo.istoreN W0 (pn := 3) (l' := #[.val (.int p0), .val (.int (p0.toInt8.toInt32)), .unset, .unset, .unset]) at_2 rfl rfl ?_
  refine OwnGo.iloadN W0 (pn := 4) at_3 rfl rfl ?_
  refine OwnGo.istoreN W0 (pn := 5) (l' := #[.val (.int p0), .val (.int (p0.toInt8.toInt32)), .val (.int (p0.toInt8.toInt32)), .unset, .unset]) at_4 rfl rfl ?_
  refine OwnGo.iloadN W0 (pn := 6) at_5 rfl rfl ?_
  refine OwnGo.bipush (v := (33 : Int32)) W0 (pn := 8) at_6 rfl rfl ?_
  refine OwnGo.icmp_lt W0 (pn := 11) (pt := 21) at_8 rfl (by decide) (by decide) (fun h8 => ?_) (fun h8 => ?_)
  · rw [if_pos h8] at hr
    exact B21 _ X0 e0 hr
  · rw [if_neg h8] at hr
    refine OwnGo.iloadN W0 (pn := 12) at_11 rfl rfl ?_
    refine OwnGo.bipush (v := (126 : Int32)) W0 (pn := 14) at_12 rfl rfl ?_
    refine OwnGo.icmp_gt W0 (pn := 17) (pt := 21) at_14 rfl (by decide) (by decide) (fun h14 => ?_) (fun h14 => ?_)
    · rw [if_pos h14] at hr
      exact B21 _ X0 e0 hr
    · rw [if_neg h14] at hr
      refine OwnGo.iconst (v := (1 : Int32)) W0 (pn := 18) at_17 rfl rfl ?_
      refine OwnGo.goto W0 (pt := 22) at_18 (by decide) (by decide) ?_
      exact B22 _ X0 e0 ((1 : Int32)) hr
theorem own_c1 (xs : List Int32) (b : Int32) : ((own_f1 xs b).toInt = 1 ∧ (0 ≤ b.toInt ∧ (xs.getD b.toNatClampNeg 0).toInt ≠ 0)) ∨ ((own_f1 xs b).toInt = 0 ∧ ¬ (0 ≤ b.toInt ∧ (xs.getD b.toNatClampNeg 0).toInt ≠ 0)) := by
  simp only [own_f1_16, own_f1]
  repeat' split
  all_goals (simp only [Int32.lt_iff_toInt_lt, Int32.reduceToInt, ← Int32.toInt_inj, true_and, and_true, false_and, and_false, true_or, or_true, false_or, or_false, not_true_eq_false, not_false_eq_true] at * <;> omega)
theorem own_c2 (b : Int32) : ((own_f2 b).toInt = 1 ∧ (b.toInt = 34 ∨ b.toInt = 40 ∨ b.toInt = 41 ∨ b.toInt = 44 ∨ b.toInt = 47 ∨ (58 ≤ b.toInt ∧ b.toInt ≤ 64) ∨ (91 ≤ b.toInt ∧ b.toInt ≤ 93) ∨ b.toInt = 123 ∨ b.toInt = 125)) ∨ ((own_f2 b).toInt = 0 ∧ ¬ (b.toInt = 34 ∨ b.toInt = 40 ∨ b.toInt = 41 ∨ b.toInt = 44 ∨ b.toInt = 47 ∨ (58 ≤ b.toInt ∧ b.toInt ≤ 64) ∨ (91 ≤ b.toInt ∧ b.toInt ≤ 93) ∨ b.toInt = 123 ∨ b.toInt = 125)) := by
  simp only [own_f2_66, own_f2_54, own_f2_42, own_f2]
  repeat' split
  all_goals (simp only [Int32.lt_iff_toInt_lt, Int32.reduceToInt, ← Int32.toInt_inj, true_and, and_true, false_and, and_false, true_or, or_true, false_or, or_false, not_true_eq_false, not_false_eq_true] at * <;> omega)
theorem own_plain (xs : List Int32) (p0 : Int32) (hx : ∀ k : Nat, k < 128 → (¬ (k = 34 ∨ k = 40 ∨ k = 41 ∨ k = 44 ∨ k = 47 ∨ (58 ≤ k ∧ k ≤ 64) ∨ (91 ≤ k ∧ k ≤ 93) ∨ k = 123 ∨ k ≥ 125 ∧ k ≠ 126 ∨ k < 33) ∧ (xs.getD k 0).toInt = 1) ∨ ((k = 34 ∨ k = 40 ∨ k = 41 ∨ k = 44 ∨ k = 47 ∨ (58 ≤ k ∧ k ≤ 64) ∨ (91 ≤ k ∧ k ≤ 93) ∨ k = 123 ∨ k ≥ 125 ∧ k ≠ 126 ∨ k < 33) ∧ (xs.getD k 0).toInt = 0)) : own_f0 xs p0 = 1 := by
  have hb := c_i2b p0
  have hk := hx p0.toInt8.toInt32.toNatClampNeg
  have hn : p0.toInt8.toInt32.toNatClampNeg = p0.toInt8.toInt32.toInt.toNat := rfl
  have h1 := own_c1 xs p0.toInt8.toInt32
  have h2 := own_c2 p0.toInt8.toInt32
  simp only [own_f0_39, own_f0_38, own_f0_22, own_f0_21, own_f0]
  generalize own_f1 xs p0.toInt8.toInt32 = r1 at *
  generalize own_f2 p0.toInt8.toInt32 = r2 at *
  generalize xs.getD p0.toInt8.toInt32.toNatClampNeg 0 = r at *
  generalize p0.toInt8.toInt32.toNatClampNeg = k at *
  generalize p0.toInt8.toInt32 = b at *
  clear hx
  repeat' split
  all_goals first | rfl | (exfalso; simp only [Int32.lt_iff_toInt_lt, Int32.reduceToInt, ← Int32.toInt_inj, true_and, and_true, false_and, and_false, true_or, or_true, false_or, or_false, not_true_eq_false, not_false_eq_true] at * <;> omega)
set_option maxRecDepth 65536 in
set_option maxHeartbeats 40000000 in
theorem comes_1 {Post : Tables → Env → Array Value → State → Outcome → State → Prop} (hpost : ∀ tb e args s v u, (limb_1_1.after args s (.returned v) u = true ∧ limb_1_2.after args s (.returned v) u = true ∧ True) → FrameEnd s (.returned v) u (Jvm.fieldLocs frame_1_writes args s ++ Jvm.arrayLocs frame_1_arrays args s ++ Jvm.staticLocs frame_1_statics s) 0 0 → Post tb e args s (.returned v) u) :
    ArmFor flags0 classFile x code maxLocals ret World_1 tables_1 room_1 Calls_1 rest_1 Pre_1 Post := by
  intro l hfl _ _ p e ha hc hk s m args below hf hA hF happ hP
  obtain ⟨hcalls, hrest, hpre⟩ := hP
  obtain ⟨-, -, -, hnamed, -, -, -, hat⟩ := (Spec.applies_iff hf).mp happ
  obtain ⟨hg, hn⟩ := and_e (Cond.before_iff.mp (show (Jvm.Cond.and given_1 narrow_1).before args s = true from hpre))
  obtain ⟨g0, k0⟩ := and_e hg
  obtain ⟨w0, rfl⟩ : ∃ w0 : Value, args = #[w0] := by
    have hs : args.size = 1 := by simpa [Cond.value, given_1] using g0
    obtain ⟨L⟩ := args
    match L, hs with
    | [w0], _ => exact ⟨w0, rfl⟩
  have hw := fun d (hd : d ∈ tables_1) => atoms_spec (ws := Jvm.Cond.code x code maxLocals ret :: tables_1) hat d (List.mem_cons_of_mem _ hd)
  have hfit : Fit s := fun {y c} hc i hi => by
    obtain ⟨ha, rfl⟩ := Array.getElem?_eq_some_iff.mp hc
    have q := List.all_eq_true.mp ((Array.all_eq_true_iff_forall_mem.mp hF) _ (Array.getElem_mem ha)) i (List.mem_range.mpr hi)
    simpa [Array.getElem?_eq_getElem hi] using q
  obtain ⟨i0, ei0⟩ := is_v k0
  obtain rfl : w0 = (.int i0) := Option.some.inj ei0
  obtain ⟨t1, n1⟩ := and_e hn
  obtain ⟨t2, n2⟩ := and_e n1
  obtain ⟨t3, n3⟩ := and_e n2
  obtain ⟨t4, n4⟩ := and_e n3
  obtain ⟨t5, n5⟩ := and_e n4
  obtain ⟨t6, n6⟩ := and_e n5
  obtain ⟨t7, n7⟩ := and_e n6
  obtain ⟨t8, n8⟩ := and_e n7
  obtain ⟨t9, n9⟩ := and_e n8
  obtain ⟨t10, n10⟩ := and_e n9
  obtain ⟨t11, n11⟩ := and_e n10
  obtain ⟨t12, n12⟩ := and_e n11
  obtain ⟨t13, n13⟩ := and_e n12
  obtain ⟨t14, n14⟩ := and_e n13
  obtain ⟨t15, n15⟩ := and_e n14
  obtain ⟨t16, n16⟩ := and_e n15
  obtain ⟨t17, n17⟩ := and_e n16
  obtain ⟨t18, n18⟩ := and_e n17
  obtain ⟨t19, n19⟩ := and_e n18
  obtain ⟨t20, n20⟩ := and_e n19
  obtain ⟨t21, n21⟩ := and_e n20
  obtain ⟨t22, n22⟩ := and_e n21
  obtain ⟨t23, n23⟩ := and_e n22
  obtain ⟨t24, n24⟩ := and_e n23
  obtain ⟨t25, n25⟩ := and_e n24
  have t26 := n25
  obtain ⟨w, ev⟩ := arr_v t1
  obtain ⟨cl, Ar⟩ := Arr.start ev t1
  have hA := Ar.fin (Vm.Alike.refl _)
  obtain ⟨q, ql⟩ := OwnGo.len_eq ev hA t2
  obtain ⟨xs, A, hl, hget⟩ := OwnGo.Ia.start hfit Ar (by simp) q
  have hsz : cl.slots.size = 128 := by have e := len_toInt q; rw [ql] at e; simp only [Int32.reduceToInt] at e; omega
  have hlen : xs.length = 128 := by rw [hl, hsz]
  have S := Sta.start ev (Or.inr ⟨(hw _ (List.mem_of_getElem? (i := 2) rfl)), (hw _ (List.mem_of_getElem? (i := 5) rfl))⟩)
  have ev' : ∀ idx, (Jvm.Term.static "tenantry/RequestHead" "TOKEN" "[Z").eval #[.int i0] s none idx s = some (.ref w) := fun _ => ev
  have hx0 : ∀ k : Nat, k < 128 → cl.slots[k]? = some (.int (xs.getD k 0)) := fun k hk => by rw [hget, OwnGo.getD_of (by omega)]; rfl
  have a33 := OwnGo.tab_at (j := (33 : Int32)) ev' hA (by decide) (hx0 33 (by decide)) t4
  have a34 := OwnGo.tab_at (j := (34 : Int32)) ev' hA (by decide) (hx0 34 (by decide)) t5
  have a40 := OwnGo.tab_at (j := (40 : Int32)) ev' hA (by decide) (hx0 40 (by decide)) t7
  have a41 := OwnGo.tab_at (j := (41 : Int32)) ev' hA (by decide) (hx0 41 (by decide)) t8
  have a42 := OwnGo.tab_at (j := (42 : Int32)) ev' hA (by decide) (hx0 42 (by decide)) t9
  have a43 := OwnGo.tab_at (j := (43 : Int32)) ev' hA (by decide) (hx0 43 (by decide)) t10
  have a44 := OwnGo.tab_at (j := (44 : Int32)) ev' hA (by decide) (hx0 44 (by decide)) t11
  have a45 := OwnGo.tab_at (j := (45 : Int32)) ev' hA (by decide) (hx0 45 (by decide)) t12
  have a46 := OwnGo.tab_at (j := (46 : Int32)) ev' hA (by decide) (hx0 46 (by decide)) t13
  have a47 := OwnGo.tab_at (j := (47 : Int32)) ev' hA (by decide) (hx0 47 (by decide)) t14
  have a91 := OwnGo.tab_at (j := (91 : Int32)) ev' hA (by decide) (hx0 91 (by decide)) t18
  have a92 := OwnGo.tab_at (j := (92 : Int32)) ev' hA (by decide) (hx0 92 (by decide)) t19
  have a93 := OwnGo.tab_at (j := (93 : Int32)) ev' hA (by decide) (hx0 93 (by decide)) t20
  have a123 := OwnGo.tab_at (j := (123 : Int32)) ev' hA (by decide) (hx0 123 (by decide)) t22
  have a124 := OwnGo.tab_at (j := (124 : Int32)) ev' hA (by decide) (hx0 124 (by decide)) t23
  have a125 := OwnGo.tab_at (j := (125 : Int32)) ev' hA (by decide) (hx0 125 (by decide)) t24
  have a126 := OwnGo.tab_at (j := (126 : Int32)) ev' hA (by decide) (hx0 126 (by decide)) t25
  have a127 := OwnGo.tab_at (j := (127 : Int32)) ev' hA (by decide) (hx0 127 (by decide)) t26
  have hx : ∀ k : Nat, k < 128 → (¬ (k = 34 ∨ k = 40 ∨ k = 41 ∨ k = 44 ∨ k = 47 ∨ (58 ≤ k ∧ k ≤ 64) ∨ (91 ≤ k ∧ k ≤ 93) ∨ k = 123 ∨ k ≥ 125 ∧ k ≠ 126 ∨ k < 33) ∧ (xs.getD k 0).toInt = 1) ∨ ((k = 34 ∨ k = 40 ∨ k = 41 ∨ k = 44 ∨ k = 47 ∨ (58 ≤ k ∧ k ≤ 64) ∨ (91 ≤ k ∧ k ≤ 93) ∨ k = 123 ∨ k ≥ 125 ∧ k ≠ 126 ∨ k < 33) ∧ (xs.getD k 0).toInt = 0) := by
    intro k hk
    have hkc : k < cl.slots.size := by omega
    have hx := hx0 k hk
    have u3 := OwnGo.tab_up ev' hA q hkc hx t3
    have u6 := OwnGo.tab_in ev' hA q hkc hx t6
    have u15 := OwnGo.tab_in ev' hA q hkc hx t15
    have u16 := OwnGo.tab_in ev' hA q hkc hx t16
    have u17 := OwnGo.tab_in ev' hA q hkc hx t17
    have u21 := OwnGo.tab_in ev' hA q hkc hx t21
    by_cases z33 : k = 33
    · subst z33; rw [a33]; decide
    by_cases z34 : k = 34
    · subst z34; rw [a34]; decide
    by_cases z40 : k = 40
    · subst z40; rw [a40]; decide
    by_cases z41 : k = 41
    · subst z41; rw [a41]; decide
    by_cases z42 : k = 42
    · subst z42; rw [a42]; decide
    by_cases z43 : k = 43
    · subst z43; rw [a43]; decide
    by_cases z44 : k = 44
    · subst z44; rw [a44]; decide
    by_cases z45 : k = 45
    · subst z45; rw [a45]; decide
    by_cases z46 : k = 46
    · subst z46; rw [a46]; decide
    by_cases z47 : k = 47
    · subst z47; rw [a47]; decide
    by_cases z91 : k = 91
    · subst z91; rw [a91]; decide
    by_cases z92 : k = 92
    · subst z92; rw [a92]; decide
    by_cases z93 : k = 93
    · subst z93; rw [a93]; decide
    by_cases z123 : k = 123
    · subst z123; rw [a123]; decide
    by_cases z124 : k = 124
    · subst z124; rw [a124]; decide
    by_cases z125 : k = 125
    · subst z125; rw [a125]; decide
    by_cases z126 : k = 126
    · subst z126; rw [a126]; decide
    by_cases z127 : k = 127
    · subst z127; rw [a127]; decide
    generalize xs.getD k 0 = r at *
    simp only [← Int32.toInt_inj, Int32.reduceToInt] at u3 u6 u15 u16 u17 u21
    clear a33 a34 a40 a41 a42 a43 a44 a45 a46 a47 a91 a92 a93 a123 a124 a125 a126 a127
    omega
  obtain ⟨n, o, h1, h2, h3, _, L, rfl, ⟨rfl, rfl, -⟩, hq⟩ := rm_own_f0 l s _ hw i0 xs s.heap w S A hlen tables_1 p e ha hc hk s m _ below hf ((Spec.applies_iff_loose hf).mp happ).1 ⟨rfl, State.Warmed39.refl s, rfl⟩ trivial
  refine ⟨n, _, h1, h2, h3, hpost _ _ _ _ _ _ ⟨Cond.after_iff.mpr rfl, Cond.after_iff.mpr (eq_i res_at (Term.int_eval (1)) (congrArg Value.int (own_plain xs i0 hx))), trivial⟩ ⟨hq.1, hq.2.1, (hq.2.2.sift fun y hy => Or.inr (nomatch hy)).mono (by decide) (by decide)⟩⟩
theorem main_1_1 : Claimed_1_1 := comes_1 fun _ _ _ _ _ _ h hF => ⟨h.1, hF⟩
theorem main_1_2 : Claimed_1_2 := comes_1 fun _ _ _ _ _ _ h hF => ⟨h.2.1, hF⟩
end Jvm.Pilot.@@N@@
namespace Jvm.Pilot.@@N@@
open Jvm Jvm.ClassFile Sem Op Lib Jvm.Free Jvm.Stand Jvm.Pilot.@@N@@.Jvm.D
/-! MADE BY PROGRAM (witnessworld.py) out of the Statement's table words and the real class files: 11 classes; the members and pool entries that the words name. The judged class is class 1, her method 2. -/
namespace start1
open Jvm.ClassFile
def u (s : String) : CpInfo := .utf8 (stringToUtf16 s)
/-- a pool by its gaps: so many unusable entries, then the entry; so many at the end -/
def gap : Nat → List CpInfo → List CpInfo
  | 0, r => r
  | n + 1, r => .unusable :: gap n r
def poolList (es : List (Nat × CpInfo)) (last : Nat) : List CpInfo := es.foldr (fun e r => gap e.1 (e.2 :: r)) (gap last [])
def pool (es : List (Nat × CpInfo)) (last : Nat) : Array CpInfo := ⟨poolList es last⟩
def fileOf (pool : Array CpInfo) (this : Nat) (attrs : Array Attribute := #[]) (ms : Array MethodInfo := #[]) (fl : Nat := 33) (sup : Nat := 0) (ifs : Array Nat := #[]) (fds : Array FieldInfo := #[]) : ClassFile where
  minorVersion := 0
  majorVersion := 65
  constantPool := pool
  accessFlags := fl
  thisClass := this
  superClass := sup
  interfaces := ifs
  fields := fds
  methods := ms
  attributes := attrs
def plain (name : String) (sup : Option ClassId) : Class where
  name := name
  kind := .ordinary
  loader := none
  accessFlags := 33
  super := sup
  interfaces := #[]
  cf := none
  fields := #[]
  methods := #[]
  instanceTypes := #[]
  staticTypes := #[]
  resolved := #[]
  callSites := []
  init := .initialized
  statics := none
  mirror := none

def pool0 : Array CpInfo := pool [(5, u "<init>"), (0, u "()V"), (1, .class_ 10), (1, u "java/lang/Object")] 113

def k0m0 : Method := { name := "<init>", desc := "()V", sig := { parameters := [], returnType := none }, accessFlags := 1, code := none }
/-- java/lang/Object -/
def k0 : Class := { plain "java/lang/Object" none with
  accessFlags := 33
  interfaces := #[]
  cf := some (fileOf pool0 8 #[] #[{ accessFlags := 1, nameIndex := 5, descriptorIndex := 6, attributes := #[] }] 33 0 #[] #[])
  fields := #[]
  methods := #[k0m0]
  instanceTypes := #[]
  staticTypes := #[]
  resolved := Array.replicate 124 none
  statics := none }

def pool1 : Array CpInfo := pool [(2, .class_ 4), (1, u "java/lang/Object"), (0, u "<init>"), (0, u "()V"), (0, .methodref 8 9), (0, .class_ 10), (0, .nameAndType 11 12), (0, u "tenantry/RequestHeadIsTokenPinLaw"), (0, u "delimiter"), (0, u "(I)Z"), (0, .methodref 14 15), (0, .class_ 16), (0, .nameAndType 17 18), (0, u "tenantry/RequestHead"), (0, u "isToken"), (0, u "(B)Z"), (3, u "law")] 2

def k1m0 : Method := { name := "<init>", desc := "()V", sig := { parameters := [], returnType := none }, accessFlags := 2, code := none }
def k1c1 : Code := { maxStack := 2, maxLocals := 1, code := method_2_code, exceptionTable := #[], attributes := #[] }
def k1m1 : Method := { name := "delimiter", desc := "(I)Z", sig := { parameters := [.int], returnType := some .boolean }, accessFlags := 10, code := some k1c1 }
def k1c2 : Code := { maxStack := 2, maxLocals := 5, code := code, exceptionTable := #[], attributes := #[] }
def k1m2 : Method := { name := "law", desc := "(I)Z", sig := { parameters := [.int], returnType := some .boolean }, accessFlags := 9, code := some k1c2 }
/-- tenantry/RequestHeadIsTokenPinLaw -/
def k1 : Class := { plain "tenantry/RequestHeadIsTokenPinLaw" (some 0) with
  accessFlags := 49
  interfaces := #[]
  cf := some (fileOf pool1 8 #[] #[{ accessFlags := 2, nameIndex := 5, descriptorIndex := 6, attributes := #[] }, { accessFlags := 10, nameIndex := 11, descriptorIndex := 12, attributes := #[] }, { accessFlags := 9, nameIndex := 22, descriptorIndex := 12, attributes := #[] }] 49 2 #[] #[])
  fields := #[]
  methods := #[k1m0, k1m1, k1m2]
  instanceTypes := #[]
  staticTypes := #[]
  resolved := Array.replicate 25 none
  statics := none }

def pool2 : Array CpInfo := pool [(2, .class_ 4), (1, u "java/lang/Object"), (3, .class_ 10), (1, u "tenantry/RequestHead"), (0, u "method"), (0, u "Ljava/lang/String;"), (2, u "path"), (2, u "query"), (2, u "names"), (0, u "Ljava/util/List;"), (2, u "values"), (2, u "contentLength"), (0, u "J"), (2, u "chunked"), (0, u "Z"), (2, u "closes"), (2, u "expectsContinue"), (17, u "memory"), (0, u "I"), (16, u "(B)Z"), (17, u "isToken"), (222, .fieldref 8 317), (0, .nameAndType 318 319), (0, u "TOKEN"), (0, u "[Z"), (4, u "MAX"), (2, u "FIELD_MEMORY"), (1, u "REQUEST_LINE"), (0, u "FIELD_LINE"), (0, u "CONTENT_LENGTH")] 44

def k2c0 : Code := { maxStack := 2, maxLocals := 1, code := prog_13_method_23_code, exceptionTable := #[], attributes := #[] }
def k2m0 : Method := { name := "isToken", desc := "(B)Z", sig := { parameters := [.byte], returnType := some .boolean }, accessFlags := 8, code := some k2c0 }
/-- tenantry/RequestHead -/
def k2 : Class := { plain "tenantry/RequestHead" (some 0) with
  accessFlags := 48
  interfaces := #[]
  cf := some (fileOf pool2 8 #[] #[{ accessFlags := 8, nameIndex := 93, descriptorIndex := 75, attributes := #[] }] 48 2 #[] #[{ accessFlags := 24, nameIndex := 324, descriptorIndex := 58, attributes := #[] }, { accessFlags := 26, nameIndex := 327, descriptorIndex := 58, attributes := #[] }, { accessFlags := 26, nameIndex := 318, descriptorIndex := 319, attributes := #[] }, { accessFlags := 26, nameIndex := 329, descriptorIndex := 12, attributes := #[] }, { accessFlags := 26, nameIndex := 330, descriptorIndex := 12, attributes := #[] }, { accessFlags := 26, nameIndex := 331, descriptorIndex := 12, attributes := #[] }, { accessFlags := 18, nameIndex := 11, descriptorIndex := 12, attributes := #[] }, { accessFlags := 18, nameIndex := 15, descriptorIndex := 12, attributes := #[] }, { accessFlags := 18, nameIndex := 18, descriptorIndex := 12, attributes := #[] }, { accessFlags := 18, nameIndex := 21, descriptorIndex := 22, attributes := #[] }, { accessFlags := 18, nameIndex := 25, descriptorIndex := 22, attributes := #[] }, { accessFlags := 18, nameIndex := 28, descriptorIndex := 29, attributes := #[] }, { accessFlags := 18, nameIndex := 32, descriptorIndex := 33, attributes := #[] }, { accessFlags := 18, nameIndex := 36, descriptorIndex := 33, attributes := #[] }, { accessFlags := 18, nameIndex := 39, descriptorIndex := 33, attributes := #[] }, { accessFlags := 18, nameIndex := 57, descriptorIndex := 58, attributes := #[] }])
  fields := #[{ name := "MAX", type := .int, accessFlags := 24, slot := 0, constantValue := 0 }, { name := "FIELD_MEMORY", type := .int, accessFlags := 26, slot := 1, constantValue := 0 }, { name := "TOKEN", type := (.array .boolean), accessFlags := 26, slot := 2, constantValue := 0 }, { name := "REQUEST_LINE", type := (.object "java/lang/String"), accessFlags := 26, slot := 3, constantValue := 0 }, { name := "FIELD_LINE", type := (.object "java/lang/String"), accessFlags := 26, slot := 4, constantValue := 0 }, { name := "CONTENT_LENGTH", type := (.object "java/lang/String"), accessFlags := 26, slot := 5, constantValue := 0 }, { name := "method", type := (.object "java/lang/String"), accessFlags := 18, slot := 0, constantValue := 0 }, { name := "path", type := (.object "java/lang/String"), accessFlags := 18, slot := 1, constantValue := 0 }, { name := "query", type := (.object "java/lang/String"), accessFlags := 18, slot := 2, constantValue := 0 }, { name := "names", type := (.object "java/util/List"), accessFlags := 18, slot := 3, constantValue := 0 }, { name := "values", type := (.object "java/util/List"), accessFlags := 18, slot := 4, constantValue := 0 }, { name := "contentLength", type := .long, accessFlags := 18, slot := 5, constantValue := 0 }, { name := "chunked", type := .boolean, accessFlags := 18, slot := 6, constantValue := 0 }, { name := "closes", type := .boolean, accessFlags := 18, slot := 7, constantValue := 0 }, { name := "expectsContinue", type := .boolean, accessFlags := 18, slot := 8, constantValue := 0 }, { name := "memory", type := .int, accessFlags := 18, slot := 9, constantValue := 0 }]
  methods := #[k2m0]
  instanceTypes := #[(.object "java/lang/String"), (.object "java/lang/String"), (.object "java/lang/String"), (.object "java/util/List"), (.object "java/util/List"), .long, .boolean, .boolean, .boolean, .int]
  staticTypes := #[.int, .int, (.array .boolean), (.object "java/lang/String"), (.object "java/lang/String"), (.object "java/lang/String")]
  resolved := Array.replicate 376 none
  statics := some 0 }

def pool3 : Array CpInfo := pool [(1, u "java/lang/Cloneable"), (0, .class_ 1), (0, u "java/lang/Object"), (0, .class_ 3)] 3

/-- java/lang/Cloneable -/
def k3 : Class := { plain "java/lang/Cloneable" (some 0) with
  accessFlags := 1537
  interfaces := #[]
  cf := some (fileOf pool3 2 #[] #[] 1537 4 #[] #[])
  fields := #[]
  methods := #[]
  instanceTypes := #[]
  staticTypes := #[]
  resolved := Array.replicate 8 none
  statics := none }

def pool4 : Array CpInfo := pool [(1, u "java/io/Serializable"), (0, .class_ 1), (0, u "java/lang/Object"), (0, .class_ 3)] 3

/-- java/io/Serializable -/
def k4 : Class := { plain "java/io/Serializable" (some 0) with
  accessFlags := 1537
  interfaces := #[]
  cf := some (fileOf pool4 2 #[] #[] 1537 4 #[] #[])
  fields := #[]
  methods := #[]
  instanceTypes := #[]
  staticTypes := #[]
  resolved := Array.replicate 8 none
  statics := none }

/-- the primitive boolean -/
def k5 : Class := { plain "boolean" none with kind := .primitive 'Z', accessFlags := 0x411 }
/-- [Z -/
def k6 : Class := { plain "[Z" (some 0) with kind := .array 5 .boolean, interfaces := #[3, 4], accessFlags := 1041 }

/-- the primitive byte -/
def k7 : Class := { plain "byte" none with kind := .primitive 'B', accessFlags := 0x411 }
/-- [B -/
def k8 : Class := { plain "[B" (some 0) with kind := .array 7 .byte, interfaces := #[3, 4], accessFlags := 1041 }

/-- the primitive int -/
def k9 : Class := { plain "int" none with kind := .primitive 'I', accessFlags := 0x411 }
/-- [I -/
def k10 : Class := { plain "[I" (some 0) with kind := .array 9 .int, interfaces := #[3, 4], accessFlags := 1041 }

def heap : Heap := #[{ cls := 2, slots := #[.int 0, .int 0, .ref 1, .null, .null, .null], vm := .statics 2 },
  { cls := 6, slots := #[.int 0, .int 0, .int 0, .int 0, .int 0, .int 0, .int 0, .int 0, .int 0, .int 0, .int 0, .int 0, .int 0, .int 0, .int 0, .int 0, .int 0, .int 0, .int 0, .int 0, .int 0, .int 0, .int 0, .int 0, .int 0, .int 0, .int 0, .int 0, .int 0, .int 0, .int 0, .int 0, .int 0, .int 1, .int 0, .int 1, .int 1, .int 1, .int 1, .int 1, .int 0, .int 0, .int 1, .int 1, .int 0, .int 1, .int 1, .int 0, .int 1, .int 1, .int 1, .int 1, .int 1, .int 1, .int 1, .int 1, .int 1, .int 1, .int 0, .int 0, .int 0, .int 0, .int 0, .int 0, .int 0, .int 1, .int 1, .int 1, .int 1, .int 1, .int 1, .int 1, .int 1, .int 1, .int 1, .int 1, .int 1, .int 1, .int 1, .int 1, .int 1, .int 1, .int 1, .int 1, .int 1, .int 1, .int 1, .int 1, .int 1, .int 1, .int 1, .int 0, .int 0, .int 0, .int 1, .int 1, .int 1, .int 1, .int 1, .int 1, .int 1, .int 1, .int 1, .int 1, .int 1, .int 1, .int 1, .int 1, .int 1, .int 1, .int 1, .int 1, .int 1, .int 1, .int 1, .int 1, .int 1, .int 1, .int 1, .int 1, .int 1, .int 1, .int 1, .int 0, .int 1, .int 0, .int 1, .int 0], vm := .none }]
def classes : Array Class := #[k0, k1, k2, k3, k4, k5, k6, k7, k8, k9, k10]
def interned : List (Array UInt16 × Addr) := []
def slotsUsed : Nat := 134
def theMethod : MethodId := ⟨1, 2⟩
def args0 : Array Value := #[.int 5]
def aboutOver (below : List Frame) : State where
  vm := { classes := classes, interned := interned.toArray }
  heap := heap
  slotsUsed := slotsUsed
  threads := #[{ frames := .invoking theMethod args0 :: below }]
def below0 : List Frame := [.native { method := ⟨0, 0⟩, args := #[] }]
def about1 : State := aboutOver below0
def p0 : Program := .bare "" "" ""
def e0 : Env := launch0.env 0 0 0
theorem w_frames : about1.frames = Frame.invoking theMethod args0 :: below0 := rfl
set_option maxRecDepth 65536 in
theorem w_args : argsFit about1.vm theMethod args0 = true := by decide +kernel
set_option maxRecDepth 65536 in
theorem w_heap : heapFits about1 = true := by decide +kernel
set_option maxRecDepth 65536 in
theorem w_runnable : about1.curStatus? = some .runnable := by decide +kernel
set_option maxRecDepth 65536 in
theorem w_alone : about1.alone = true := by decide +kernel
set_option maxRecDepth 65536 in
theorem w_named : about1.methodNamed? x = some theMethod := by decide +kernel
set_option maxRecDepth 65536 in
theorem w_hears : about1.hears theMethod below0 = true := by decide +kernel
set_option maxRecDepth 65536 in
theorem w_ripe : about1.ripe theMethod args0 below0 = true := by decide +kernel
theorem w_running : about1.status = .running := rfl
set_option maxRecDepth 65536 in
theorem w_room : about1.hasRoom e0.platform room_1 = true :=
  launch0.hasRoom_least _ room_1 (by decide +kernel) (by decide +kernel) (by decide +kernel) (by decide +kernel) (by decide +kernel) (by decide +kernel)
theorem allAtoms_all (ts : List Jvm.Cond) (a : Array Jvm.Value) (st : Jvm.State) : (allAtoms ts).before a st = ts.all (fun c => c.before a st) := by
  induction ts with
  | nil => rfl
  | cons c t ih =>
    show (Jvm.Cond.and c (allAtoms t)).before a st = _
    rw [Jvm.Cond.before_and, ih, List.all_cons]
def words1 : List Jvm.Cond := Jvm.Cond.code x code maxLocals ret :: tables_1
/-- a 'code' word, met by the world's own term for the bytes: nothing is compared byte by byte -/
theorem code_word {y : MethodName} {bytes : ByteArray} {mx : Nat} {rt : Option FieldType} {a : Array Value} {s : State} {m : MethodId} {meth : Method} {c : Code} (h1 : s.methodNamed? y = some m) (h2 : s.vm.method? m = some meth) (h3 : meth.code = some c) (h4 : c.code = bytes)
    (h5 : (c.maxLocals == mx && c.exceptionTable.isEmpty && decide (c.maxStack ≤ mostOperands) && decide (meth.sig.returnType = rt) && !meth.locks && decide (parseMethodDescriptor y.desc = some meth.sig)) = true) : (Jvm.Cond.code y bytes mx rt).before a s = true := by
  simp only [Bool.and_eq_true, beq_iff_eq, Bool.not_eq_true', decide_eq_true_eq] at h5
  obtain ⟨⟨⟨⟨⟨g1, g2⟩, g3⟩, g4⟩, g5⟩, g6⟩ := h5
  simp [Cond.before, Cond.holds, Cond.value, h1, h2, h3, h4, g1, g2, g3, g4, g5, g6]
def isCode : Jvm.Cond → Bool
  | .code _ _ _ _ => true
  | _ => false
theorem all_split {L : List Jvm.Cond} {P : Jvm.Cond → Bool} (h1 : L.all (fun c => isCode c || P c) = true) (h2 : ∀ c ∈ L.filter isCode, P c = true) : L.all P = true := by
  refine List.all_eq_true.mpr fun c hc => ?_
  have h := List.all_eq_true.mp h1 c hc
  rcases Bool.eq_false_or_eq_true (isCode c) with hi | hi
  · exact h2 c (List.mem_filter.mpr ⟨hc, hi⟩)
  · simpa [hi] using h
set_option maxRecDepth 65536 in
theorem w_c0 : (Jvm.Cond.code x code maxLocals ret).before args0 about1 = true := code_word (m := ⟨1, 2⟩) (meth := k1m2) (c := k1c2) (by decide +kernel) rfl rfl rfl (by decide +kernel)
set_option maxRecDepth 65536 in
theorem w_c1 : (Jvm.Cond.code ({ cls := "tenantry/RequestHead", name := "isToken", desc := "(B)Z" } : Jvm.MethodName) prog_13_method_23_code (1 : Nat) (Option.some Jvm.ClassFile.FieldType.boolean)).before args0 about1 = true := code_word (m := ⟨2, 0⟩) (meth := k2m0) (c := k2c0) (by decide +kernel) rfl rfl rfl (by decide +kernel)
set_option maxRecDepth 65536 in
theorem w_c2 : (Jvm.Cond.code ({ cls := "tenantry/RequestHeadIsTokenPinLaw", name := "delimiter", desc := "(I)Z" } : Jvm.MethodName) method_2_code (1 : Nat) (Option.some Jvm.ClassFile.FieldType.boolean)).before args0 about1 = true := code_word (m := ⟨1, 1⟩) (meth := k1m1) (c := k1c1) (by decide +kernel) rfl rfl rfl (by decide +kernel)
def codes1 : List Jvm.Cond := [Jvm.Cond.code x code maxLocals ret, Jvm.Cond.code ({ cls := "tenantry/RequestHead", name := "isToken", desc := "(B)Z" } : Jvm.MethodName) prog_13_method_23_code (1 : Nat) (Option.some Jvm.ClassFile.FieldType.boolean), Jvm.Cond.code ({ cls := "tenantry/RequestHeadIsTokenPinLaw", name := "delimiter", desc := "(I)Z" } : Jvm.MethodName) method_2_code (1 : Nat) (Option.some Jvm.ClassFile.FieldType.boolean)]
set_option maxRecDepth 65536 in
theorem codes_eq : words1.filter isCode = codes1 := rfl
theorem w_codes : ∀ c ∈ words1.filter isCode, c.before args0 about1 = true := by
  rw [codes_eq]
  intro c hc
  simp only [codes1, List.mem_cons, List.not_mem_nil, or_false] at hc
  rcases hc with rfl | rfl | rfl
  · exact w_c0
  · exact w_c1
  · exact w_c2
set_option maxRecDepth 65536 in
theorem w_t1 : words1.all (fun c => isCode c || c.before args0 about1) = true := by decide +kernel
theorem w_tables : (allAtoms (Jvm.Cond.code x code maxLocals ret :: tables_1)).before args0 about1 = true := by
  rw [allAtoms_all]
  show words1.all (fun c => c.before args0 about1) = true
  refine all_split ?_ w_codes
  rw [w_t1]
set_option maxRecDepth 65536 in
theorem w_case : (Jvm.Cond.and given_1 narrow_1).before args0 about1 = true := by decide +kernel
theorem w_applies : (headSpec (Jvm.Cond.code x code maxLocals ret :: tables_1) room_1).applies x e0.platform about1 = true :=
  (Spec.applies_iff w_frames).mpr ⟨w_running, w_runnable, w_alone, w_named, w_hears, w_ripe, w_room, w_tables⟩
theorem atStart : AtStart classFile x code maxLocals ret World_1 tables_1 room_1 Calls_1 rest_1 Pre_1 launch0 p0 e0 about1 theMethod args0 below0 :=
  ⟨lists_1, trivial, launch0.admits_env _ _ _, launch0.least_env, fairChoices_fair.cas, fairChoices_fair.clock, w_frames, w_args, w_heap, w_applies, trivial, trivial, w_case⟩
end start1
theorem witness_1 : WitnessClaimed_1 := ⟨start1.p0, start1.e0, start1.about1, start1.theMethod, start1.args0, start1.below0, start1.atStart⟩
end Jvm.Pilot.@@N@@
