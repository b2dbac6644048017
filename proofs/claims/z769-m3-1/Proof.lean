import JvmDerived
import JvmDerived.Pilot.@@N@@Statement
import JvmDerived.Pilot.@@N@@Code
set_option linter.unusedVariables false
set_option linter.unusedSimpArgs false
namespace Jvm.OwnGo
open Jvm Jvm.ClassFile Sem Op Lib Jvm.Free Jvm.Stand Jvm.LawKit Jvm.RoadKit
section Plain
variable {tb : Tables} [Ours tb] {e : Env} {below : List Frame} {Q : Outcome → State → Prop} {T : State} {m : MethodId} {c : Code} {bs : ByteArray} {ls l' : Array Slot} {st : List Value} {pc pn pt : Nat}
def Go (tb : Tables) (e : Env) (below : List Frame) (Q : Outcome → State → Prop) (T : State) : Prop := ∃ s₂ o, Steps tb e below T s₂ ∧ s₂.status = .running ∧ Ended s₂ below o ∧ Q o s₂
def Wk (tb : Tables) (T : State) (m : MethodId) (c : Code) (below : List Frame) (bs : ByteArray) : Prop := At T m c below ∧ tb.exec = Jvm.exec ∧ c.code = bs
theorem Go.step {tb : Tables} {T T' : State} (g : Go tb e below Q T') (h : ∀ t, Steps tb e below T' t → Steps tb e below T t) : Go tb e below Q T := by
  obtain ⟨s2, o, h1, r⟩ := g
  exact ⟨s2, o, h _ h1, r⟩
theorem Go.cast {tb : Tables} {g g' : JFrame} (q : g = g') (k : Go tb e below Q (T.setTop g')) : Go tb e below Q (T.setTop g) := q ▸ k
theorem iloadN (W : Wk tb T m c below bs) {k : Fin 4} {v : Int32} (hd : decode bs pc = .ok (.iload_n k, 1)) (hp : pc + 1 = pn) (hl : ls[k.val]? = some (.val (.int v))) (hr : Go tb e below Q (T.setTop (mkF m pn ls (.int v :: st)))) : Go tb e below Q (T.setTop (mkF m pc ls (st))) := by
  subst hp; exact hr.step fun t k => XS.iloadN W.1 W.2.1 rfl (hb W.2.2 hd) hl k
theorem iload (W : Wk tb T m c below bs) {k : Nat} {v : Int32} (hd : decode bs pc = .ok (.iload k, 2)) (hp : pc + 2 = pn) (hl : ls[k]? = some (.val (.int v))) (hr : Go tb e below Q (T.setTop (mkF m pn ls (.int v :: st)))) : Go tb e below Q (T.setTop (mkF m pc ls (st))) := by
  subst hp; exact hr.step fun t k => XS.iload W.1 W.2.1 rfl (hb W.2.2 hd) hl k
theorem lloadN (W : Wk tb T m c below bs) {k : Fin 4} {v : Int64} (hd : decode bs pc = .ok (.lload_n k, 1)) (hp : pc + 1 = pn) (hl : ls[k.val]? = some (.val (.long v))) (hr : Go tb e below Q (T.setTop (mkF m pn ls (.long v :: st)))) : Go tb e below Q (T.setTop (mkF m pc ls (st))) := by
  subst hp; exact hr.step fun t k => XT.lloadN W.1 W.2.1 rfl (hb W.2.2 hd) hl k
theorem lload (W : Wk tb T m c below bs) {k : Nat} {v : Int64} (hd : decode bs pc = .ok (.lload k, 2)) (hp : pc + 2 = pn) (hl : ls[k]? = some (.val (.long v))) (hr : Go tb e below Q (T.setTop (mkF m pn ls (.long v :: st)))) : Go tb e below Q (T.setTop (mkF m pc ls (st))) := by
  subst hp; exact hr.step fun t k => XT.lload W.1 W.2.1 rfl (hb W.2.2 hd) hl k
theorem aloadN (W : Wk tb T m c below bs) {k : Fin 4} {v : Value} (hd : decode bs pc = .ok (.aload_n k, 1)) (hp : pc + 1 = pn) (hl : ls[k.val]? = some (.val v)) (hv : v.isRef = true) (hr : Go tb e below Q (T.setTop (mkF m pn ls (v :: st)))) : Go tb e below Q (T.setTop (mkF m pc ls (st))) := by
  subst hp; exact hr.step fun t k => XS.aloadN W.1 W.2.1 rfl (hb W.2.2 hd) hl hv k
theorem aload (W : Wk tb T m c below bs) {k : Nat} {v : Value} (hd : decode bs pc = .ok (.aload k, 2)) (hp : pc + 2 = pn) (hl : ls[k]? = some (.val v)) (hv : v.isRef = true) (hr : Go tb e below Q (T.setTop (mkF m pn ls (v :: st)))) : Go tb e below Q (T.setTop (mkF m pc ls (st))) := by
  subst hp; exact hr.step fun t k => XS.aload W.1 W.2.1 rfl (hb W.2.2 hd) hl hv k
theorem istoreN (W : Wk tb T m c below bs) {k : Fin 4} {x : Int32} (hd : decode bs pc = .ok (.istore_n k, 1)) (hp : pc + 1 = pn) (hl : storeLocals ls k.val (.int x) = some l') (hr : Go tb e below Q (T.setTop (mkF m pn l' (st)))) : Go tb e below Q (T.setTop (mkF m pc ls (.int x :: st))) := by
  subst hp; exact hr.step fun t k => XS.istoreN W.1 W.2.1 rfl (hb W.2.2 hd) rfl hl k
theorem istore (W : Wk tb T m c below bs) {k : Nat} {x : Int32} (hd : decode bs pc = .ok (.istore k, 2)) (hp : pc + 2 = pn) (hl : storeLocals ls k (.int x) = some l') (hr : Go tb e below Q (T.setTop (mkF m pn l' (st)))) : Go tb e below Q (T.setTop (mkF m pc ls (.int x :: st))) := by
  subst hp; exact hr.step fun t k => XS.istore W.1 W.2.1 rfl (hb W.2.2 hd) rfl hl k
theorem lstoreN (W : Wk tb T m c below bs) {k : Fin 4} {x : Int64} (hd : decode bs pc = .ok (.lstore_n k, 1)) (hp : pc + 1 = pn) (hl : storeLocals ls k.val (.long x) = some l') (hr : Go tb e below Q (T.setTop (mkF m pn l' (st)))) : Go tb e below Q (T.setTop (mkF m pc ls (.long x :: st))) := by
  subst hp; exact hr.step fun t k => XT.lstoreN W.1 W.2.1 rfl (hb W.2.2 hd) rfl hl k
theorem lstore (W : Wk tb T m c below bs) {k : Nat} {x : Int64} (hd : decode bs pc = .ok (.lstore k, 2)) (hp : pc + 2 = pn) (hl : storeLocals ls k (.long x) = some l') (hr : Go tb e below Q (T.setTop (mkF m pn l' (st)))) : Go tb e below Q (T.setTop (mkF m pc ls (.long x :: st))) := by
  subst hp; exact hr.step fun t k => XT.lstore W.1 W.2.1 rfl (hb W.2.2 hd) rfl hl k
theorem astoreN (W : Wk tb T m c below bs) {k : Fin 4} {x : Value} (hd : decode bs pc = .ok (.astore_n k, 1)) (hp : pc + 1 = pn) (hv : x.isRef = true) (hl : storeLocals ls k.val x = some l') (hr : Go tb e below Q (T.setTop (mkF m pn l' (st)))) : Go tb e below Q (T.setTop (mkF m pc ls (x :: st))) := by
  subst hp; exact hr.step fun t k => XS.astoreN W.1 W.2.1 rfl (hb W.2.2 hd) rfl hv hl k
theorem astore (W : Wk tb T m c below bs) {k : Nat} {x : Value} (hd : decode bs pc = .ok (.astore k, 2)) (hp : pc + 2 = pn) (hv : x.isRef = true) (hl : storeLocals ls k x = some l') (hr : Go tb e below Q (T.setTop (mkF m pn l' (st)))) : Go tb e below Q (T.setTop (mkF m pc ls (x :: st))) := by
  subst hp; exact hr.step fun t k => XS.astore W.1 W.2.1 rfl (hb W.2.2 hd) rfl hv hl k
theorem iadd (W : Wk tb T m c below bs) {x y : Int32} (hd : decode bs pc = .ok (.iadd, 1)) (hp : pc + 1 = pn)  (hr : Go tb e below Q (T.setTop (mkF m pn ls (.int (x + y) :: st)))) : Go tb e below Q (T.setTop (mkF m pc ls (.int y :: .int x :: st))) := by
  subst hp; exact hr.step fun t k => XS.iadd W.1 W.2.1 rfl (hb W.2.2 hd) rfl k
theorem isub (W : Wk tb T m c below bs) {x y : Int32} (hd : decode bs pc = .ok (.isub, 1)) (hp : pc + 1 = pn)  (hr : Go tb e below Q (T.setTop (mkF m pn ls (.int (x - y) :: st)))) : Go tb e below Q (T.setTop (mkF m pc ls (.int y :: .int x :: st))) := by
  subst hp; exact hr.step fun t k => XS.isub W.1 W.2.1 rfl (hb W.2.2 hd) rfl k
theorem imul (W : Wk tb T m c below bs) {x y : Int32} (hd : decode bs pc = .ok (.imul, 1)) (hp : pc + 1 = pn)  (hr : Go tb e below Q (T.setTop (mkF m pn ls (.int (x * y) :: st)))) : Go tb e below Q (T.setTop (mkF m pc ls (.int y :: .int x :: st))) := by
  subst hp; exact hr.step fun t k => XS.imul W.1 W.2.1 rfl (hb W.2.2 hd) rfl k
theorem iand (W : Wk tb T m c below bs) {x y : Int32} (hd : decode bs pc = .ok (.iand, 1)) (hp : pc + 1 = pn)  (hr : Go tb e below Q (T.setTop (mkF m pn ls (.int (x &&& y) :: st)))) : Go tb e below Q (T.setTop (mkF m pc ls (.int y :: .int x :: st))) := by
  subst hp; exact hr.step fun t k => XS.iand W.1 W.2.1 rfl (hb W.2.2 hd) rfl k
theorem ior (W : Wk tb T m c below bs) {x y : Int32} (hd : decode bs pc = .ok (.ior, 1)) (hp : pc + 1 = pn)  (hr : Go tb e below Q (T.setTop (mkF m pn ls (.int (x ||| y) :: st)))) : Go tb e below Q (T.setTop (mkF m pc ls (.int y :: .int x :: st))) := by
  subst hp; exact hr.step fun t k => XT.ior W.1 W.2.1 rfl (hb W.2.2 hd) rfl k
theorem ixor (W : Wk tb T m c below bs) {x y : Int32} (hd : decode bs pc = .ok (.ixor, 1)) (hp : pc + 1 = pn)  (hr : Go tb e below Q (T.setTop (mkF m pn ls (.int (x ^^^ y) :: st)))) : Go tb e below Q (T.setTop (mkF m pc ls (.int y :: .int x :: st))) := by
  subst hp; exact hr.step fun t k => XT.ixor W.1 W.2.1 rfl (hb W.2.2 hd) rfl k
theorem ishl (W : Wk tb T m c below bs) {x y : Int32} (hd : decode bs pc = .ok (.ishl, 1)) (hp : pc + 1 = pn)  (hr : Go tb e below Q (T.setTop (mkF m pn ls (.int (x <<< (y &&& 31)) :: st)))) : Go tb e below Q (T.setTop (mkF m pc ls (.int y :: .int x :: st))) := by
  subst hp; exact hr.step fun t k => XT.ishl W.1 W.2.1 rfl (hb W.2.2 hd) rfl k
theorem ishr (W : Wk tb T m c below bs) {x y : Int32} (hd : decode bs pc = .ok (.ishr, 1)) (hp : pc + 1 = pn)  (hr : Go tb e below Q (T.setTop (mkF m pn ls (.int (x >>> (y &&& 31)) :: st)))) : Go tb e below Q (T.setTop (mkF m pc ls (.int y :: .int x :: st))) := by
  subst hp; exact hr.step fun t k => XT.ishr W.1 W.2.1 rfl (hb W.2.2 hd) rfl k
theorem iushr (W : Wk tb T m c below bs) {x y : Int32} (hd : decode bs pc = .ok (.iushr, 1)) (hp : pc + 1 = pn)  (hr : Go tb e below Q (T.setTop (mkF m pn ls (.int (XT.ushr x y) :: st)))) : Go tb e below Q (T.setTop (mkF m pc ls (.int y :: .int x :: st))) := by
  subst hp; exact hr.step fun t k => XT.iushr W.1 W.2.1 rfl (hb W.2.2 hd) rfl k
theorem ladd (W : Wk tb T m c below bs) {x y : Int64} (hd : decode bs pc = .ok (.ladd, 1)) (hp : pc + 1 = pn)  (hr : Go tb e below Q (T.setTop (mkF m pn ls (.long (x + y) :: st)))) : Go tb e below Q (T.setTop (mkF m pc ls (.long y :: .long x :: st))) := by
  subst hp; exact hr.step fun t k => XT.ladd W.1 W.2.1 rfl (hb W.2.2 hd) rfl k
theorem lsub (W : Wk tb T m c below bs) {x y : Int64} (hd : decode bs pc = .ok (.lsub, 1)) (hp : pc + 1 = pn)  (hr : Go tb e below Q (T.setTop (mkF m pn ls (.long (x - y) :: st)))) : Go tb e below Q (T.setTop (mkF m pc ls (.long y :: .long x :: st))) := by
  subst hp; exact hr.step fun t k => XT.lsub W.1 W.2.1 rfl (hb W.2.2 hd) rfl k
theorem lmul (W : Wk tb T m c below bs) {x y : Int64} (hd : decode bs pc = .ok (.lmul, 1)) (hp : pc + 1 = pn)  (hr : Go tb e below Q (T.setTop (mkF m pn ls (.long (x * y) :: st)))) : Go tb e below Q (T.setTop (mkF m pc ls (.long y :: .long x :: st))) := by
  subst hp; exact hr.step fun t k => XT.lmul W.1 W.2.1 rfl (hb W.2.2 hd) rfl k
theorem land (W : Wk tb T m c below bs) {x y : Int64} (hd : decode bs pc = .ok (.land, 1)) (hp : pc + 1 = pn)  (hr : Go tb e below Q (T.setTop (mkF m pn ls (.long (x &&& y) :: st)))) : Go tb e below Q (T.setTop (mkF m pc ls (.long y :: .long x :: st))) := by
  subst hp; exact hr.step fun t k => XT.land W.1 W.2.1 rfl (hb W.2.2 hd) rfl k
theorem lor (W : Wk tb T m c below bs) {x y : Int64} (hd : decode bs pc = .ok (.lor, 1)) (hp : pc + 1 = pn)  (hr : Go tb e below Q (T.setTop (mkF m pn ls (.long (x ||| y) :: st)))) : Go tb e below Q (T.setTop (mkF m pc ls (.long y :: .long x :: st))) := by
  subst hp; exact hr.step fun t k => XT.lor W.1 W.2.1 rfl (hb W.2.2 hd) rfl k
theorem lxor (W : Wk tb T m c below bs) {x y : Int64} (hd : decode bs pc = .ok (.lxor, 1)) (hp : pc + 1 = pn)  (hr : Go tb e below Q (T.setTop (mkF m pn ls (.long (x ^^^ y) :: st)))) : Go tb e below Q (T.setTop (mkF m pc ls (.long y :: .long x :: st))) := by
  subst hp; exact hr.step fun t k => XT.lxor W.1 W.2.1 rfl (hb W.2.2 hd) rfl k
theorem lshl (W : Wk tb T m c below bs) {x : Int64} {y : Int32} (hd : decode bs pc = .ok (.lshl, 1)) (hp : pc + 1 = pn)  (hr : Go tb e below Q (T.setTop (mkF m pn ls (.long (x <<< (y.toInt64 &&& 63)) :: st)))) : Go tb e below Q (T.setTop (mkF m pc ls (.int y :: .long x :: st))) := by
  subst hp; exact hr.step fun t k => XT.lshl W.1 W.2.1 rfl (hb W.2.2 hd) rfl k
theorem lshr (W : Wk tb T m c below bs) {x : Int64} {y : Int32} (hd : decode bs pc = .ok (.lshr, 1)) (hp : pc + 1 = pn)  (hr : Go tb e below Q (T.setTop (mkF m pn ls (.long (x >>> (y.toInt64 &&& 63)) :: st)))) : Go tb e below Q (T.setTop (mkF m pc ls (.int y :: .long x :: st))) := by
  subst hp; exact hr.step fun t k => XT.lshr W.1 W.2.1 rfl (hb W.2.2 hd) rfl k
theorem lushr (W : Wk tb T m c below bs) {x : Int64} {y : Int32} (hd : decode bs pc = .ok (.lushr, 1)) (hp : pc + 1 = pn)  (hr : Go tb e below Q (T.setTop (mkF m pn ls (.long (XT.ushrL x y) :: st)))) : Go tb e below Q (T.setTop (mkF m pc ls (.int y :: .long x :: st))) := by
  subst hp; exact hr.step fun t k => XT.lushr W.1 W.2.1 rfl (hb W.2.2 hd) rfl k
theorem i2l (W : Wk tb T m c below bs) {x : Int32} (hd : decode bs pc = .ok (.i2l, 1)) (hp : pc + 1 = pn)  (hr : Go tb e below Q (T.setTop (mkF m pn ls (.long (x.toInt64) :: st)))) : Go tb e below Q (T.setTop (mkF m pc ls (.int x :: st))) := by
  subst hp; exact hr.step fun t k => XT.i2l W.1 W.2.1 rfl (hb W.2.2 hd) rfl k
theorem l2i (W : Wk tb T m c below bs) {x : Int64} (hd : decode bs pc = .ok (.l2i, 1)) (hp : pc + 1 = pn)  (hr : Go tb e below Q (T.setTop (mkF m pn ls (.int (x.toInt32) :: st)))) : Go tb e below Q (T.setTop (mkF m pc ls (.long x :: st))) := by
  subst hp; exact hr.step fun t k => XT.l2i W.1 W.2.1 rfl (hb W.2.2 hd) rfl k
theorem i2b (W : Wk tb T m c below bs) {x : Int32} (hd : decode bs pc = .ok (.i2b, 1)) (hp : pc + 1 = pn)  (hr : Go tb e below Q (T.setTop (mkF m pn ls (.int (x.toInt8.toInt32) :: st)))) : Go tb e below Q (T.setTop (mkF m pc ls (.int x :: st))) := by
  subst hp; exact hr.step fun t k => XT.i2b W.1 W.2.1 rfl (hb W.2.2 hd) rfl k
theorem i2c (W : Wk tb T m c below bs) {x : Int32} (hd : decode bs pc = .ok (.i2c, 1)) (hp : pc + 1 = pn)  (hr : Go tb e below Q (T.setTop (mkF m pn ls (.int (x.toUInt32.toUInt16.toUInt32.toInt32) :: st)))) : Go tb e below Q (T.setTop (mkF m pc ls (.int x :: st))) := by
  subst hp; exact hr.step fun t k => XT.i2c W.1 W.2.1 rfl (hb W.2.2 hd) rfl k
theorem i2s (W : Wk tb T m c below bs) {x : Int32} (hd : decode bs pc = .ok (.i2s, 1)) (hp : pc + 1 = pn)  (hr : Go tb e below Q (T.setTop (mkF m pn ls (.int (x.toInt16.toInt32) :: st)))) : Go tb e below Q (T.setTop (mkF m pc ls (.int x :: st))) := by
  subst hp; exact hr.step fun t k => XT.i2s W.1 W.2.1 rfl (hb W.2.2 hd) rfl k
theorem ineg (W : Wk tb T m c below bs) {x : Int32} (hd : decode bs pc = .ok (.ineg, 1)) (hp : pc + 1 = pn)  (hr : Go tb e below Q (T.setTop (mkF m pn ls (.int (-x) :: st)))) : Go tb e below Q (T.setTop (mkF m pc ls (.int x :: st))) := by
  subst hp; exact hr.step fun t k => XS.ineg W.1 W.2.1 rfl (hb W.2.2 hd) rfl k
theorem lneg (W : Wk tb T m c below bs) {x : Int64} (hd : decode bs pc = .ok (.lneg, 1)) (hp : pc + 1 = pn)  (hr : Go tb e below Q (T.setTop (mkF m pn ls (.long (-x) :: st)))) : Go tb e below Q (T.setTop (mkF m pc ls (.long x :: st))) := by
  subst hp; exact hr.step fun t k => XT.lneg W.1 W.2.1 rfl (hb W.2.2 hd) rfl k
theorem idiv (W : Wk tb T m c below bs) {x y : Int32} (hd : decode bs pc = .ok (.idiv, 1)) (hp : pc + 1 = pn) (hy : y ≠ 0) (hr : Go tb e below Q (T.setTop (mkF m pn ls (.int (x / y) :: st)))) : Go tb e below Q (T.setTop (mkF m pc ls (.int y :: .int x :: st))) := by
  subst hp; exact hr.step fun t k => XS.idiv W.1 W.2.1 rfl (hb W.2.2 hd) rfl hy k
theorem irem (W : Wk tb T m c below bs) {x y : Int32} (hd : decode bs pc = .ok (.irem, 1)) (hp : pc + 1 = pn) (hy : y ≠ 0) (hr : Go tb e below Q (T.setTop (mkF m pn ls (.int (x - (x / y) * y) :: st)))) : Go tb e below Q (T.setTop (mkF m pc ls (.int y :: .int x :: st))) := by
  subst hp; exact hr.step fun t k => XS.irem W.1 W.2.1 rfl (hb W.2.2 hd) rfl hy k
theorem ldiv (W : Wk tb T m c below bs) {x y : Int64} (hd : decode bs pc = .ok (.ldiv, 1)) (hp : pc + 1 = pn) (hy : y ≠ 0) (hr : Go tb e below Q (T.setTop (mkF m pn ls (.long (x / y) :: st)))) : Go tb e below Q (T.setTop (mkF m pc ls (.long y :: .long x :: st))) := by
  subst hp; exact hr.step fun t k => XT.ldiv W.1 W.2.1 rfl (hb W.2.2 hd) rfl hy k
theorem lrem (W : Wk tb T m c below bs) {x y : Int64} (hd : decode bs pc = .ok (.lrem, 1)) (hp : pc + 1 = pn) (hy : y ≠ 0) (hr : Go tb e below Q (T.setTop (mkF m pn ls (.long (x - (x / y) * y) :: st)))) : Go tb e below Q (T.setTop (mkF m pc ls (.long y :: .long x :: st))) := by
  subst hp; exact hr.step fun t k => XT.lrem W.1 W.2.1 rfl (hb W.2.2 hd) rfl hy k
theorem lcmp (W : Wk tb T m c below bs) {x y : Int64} (hd : decode bs pc = .ok (.lcmp, 1)) (hp : pc + 1 = pn)  (hr : Go tb e below Q (T.setTop (mkF m pn ls (.int (XT.cmpL x y) :: st)))) : Go tb e below Q (T.setTop (mkF m pc ls (.long y :: .long x :: st))) := by
  subst hp; exact hr.step fun t k => XT.lcmp W.1 W.2.1 rfl (hb W.2.2 hd) rfl k
theorem dup (W : Wk tb T m c below bs) {x : Value} (hd : decode bs pc = .ok (.dup, 1)) (hp : pc + 1 = pn) (hc : x.category = 1) (hr : Go tb e below Q (T.setTop (mkF m pn ls (x :: x :: st)))) : Go tb e below Q (T.setTop (mkF m pc ls (x :: st))) := by
  subst hp; exact hr.step fun t k => XS.dup W.1 W.2.1 rfl (hb W.2.2 hd) rfl hc k
theorem dup2 (W : Wk tb T m c below bs) {x y : Value} (hd : decode bs pc = .ok (.dup2, 1)) (hp : pc + 1 = pn) (hc : x.category = 1) (hc' : y.category = 1) (hr : Go tb e below Q (T.setTop (mkF m pn ls (x :: y :: x :: y :: st)))) : Go tb e below Q (T.setTop (mkF m pc ls (x :: y :: st))) := by
  subst hp; exact hr.step fun t k => XT.dup2 W.1 W.2.1 rfl (hb W.2.2 hd) rfl hc hc' k
theorem pop (W : Wk tb T m c below bs) {x : Value} (hd : decode bs pc = .ok (.pop, 1)) (hp : pc + 1 = pn) (hc : x.category = 1) (hr : Go tb e below Q (T.setTop (mkF m pn ls (st)))) : Go tb e below Q (T.setTop (mkF m pc ls (x :: st))) := by
  subst hp; exact hr.step fun t k => XT.pop W.1 W.2.1 rfl (hb W.2.2 hd) rfl hc k
theorem aconstNull (W : Wk tb T m c below bs)  (hd : decode bs pc = .ok (.aconst_null, 1)) (hp : pc + 1 = pn)  (hr : Go tb e below Q (T.setTop (mkF m pn ls (.null :: st)))) : Go tb e below Q (T.setTop (mkF m pc ls (st))) := by
  subst hp; exact hr.step fun t k => XS.aconstNull W.1 W.2.1 rfl (hb W.2.2 hd)  k
theorem iconst (W : Wk tb T m c below bs) {i : Int} {v : Int32} (hd : decode bs pc = .ok (.iconst i, 1)) (hp : pc + 1 = pn) (hv : Int32.ofInt i = v) (hr : Go tb e below Q (T.setTop (mkF m pn ls (.int v :: st)))) : Go tb e below Q (T.setTop (mkF m pc ls st)) := by
  subst hp; exact hr.step fun t k => XT.iconstV W.1 W.2.1 rfl _ (hb W.2.2 hd) hv k
theorem bipush (W : Wk tb T m c below bs) {i : Int} {v : Int32} (hd : decode bs pc = .ok (.bipush i, 2)) (hp : pc + 2 = pn) (hv : (Int8.ofInt i).toInt32 = v) (hr : Go tb e below Q (T.setTop (mkF m pn ls (.int v :: st)))) : Go tb e below Q (T.setTop (mkF m pc ls st)) := by
  subst hp; exact hr.step fun t k => XT.bipushV W.1 W.2.1 rfl _ (hb W.2.2 hd) hv k
theorem sipush (W : Wk tb T m c below bs) {i : Int} {v : Int32} (hd : decode bs pc = .ok (.sipush i, 3)) (hp : pc + 3 = pn) (hv : (Int16.ofInt i).toInt32 = v) (hr : Go tb e below Q (T.setTop (mkF m pn ls (.int v :: st)))) : Go tb e below Q (T.setTop (mkF m pc ls st)) := by
  subst hp; exact hr.step fun t k => XT.sipushV W.1 W.2.1 rfl _ (hb W.2.2 hd) hv k
theorem lconst (W : Wk tb T m c below bs) {i : Fin 2} {v : Int64} (hd : decode bs pc = .ok (.lconst i, 1)) (hp : pc + 1 = pn) (hv : Int64.ofNat i = v) (hr : Go tb e below Q (T.setTop (mkF m pn ls (.long v :: st)))) : Go tb e below Q (T.setTop (mkF m pc ls st)) := by
  subst hp; exact hr.step fun t k => XT.lconstV W.1 W.2.1 rfl _ (hb W.2.2 hd) hv k
theorem iinc (W : Wk tb T m c below bs) {k : Nat} {cst : Int} {x v : Int32} (hd : decode bs pc = .ok (.iinc k cst, 3)) (hp : pc + 3 = pn) (hv : Int32.ofInt cst = v) (hl : ls[k]? = some (.val (.int x))) (hl' : storeLocals ls k (.int (x + v)) = some l') (hr : Go tb e below Q (T.setTop (mkF m pn l' st))) : Go tb e below Q (T.setTop (mkF m pc ls st)) := by
  subst hp; exact hr.step fun t k => XT.iincV W.1 W.2.1 rfl _ (hb W.2.2 hd) hv hl hl' k
theorem goto (W : Wk tb T m c below bs) {o : Int} (hd : decode bs pc = .ok (.goto o, 3)) (ho : 0 ≤ (pc : Int) + o) (ht : ((pc : Int) + o).toNat = pt) (hr : Go tb e below Q (T.setTop (mkF m pt ls st))) : Go tb e below Q (T.setTop (mkF m pc ls st)) := by
  exact hr.step fun t k => XS.goto W.1 W.2.1 rfl (pc0 := pc) (pc' := pt) rfl (hb W.2.2 hd) ho ht k
theorem icmp_eq (W : Wk tb T m c below bs) {x y : Int32} {o : Int} (hd : decode bs pc = .ok (.if_icmp .eq o, 3)) (hp : pc + 3 = pn) (ho : 0 ≤ (pc : Int) + o) (ht : ((pc : Int) + o).toNat = pt) (h1 : x = y → Go tb e below Q (T.setTop (mkF m pt ls st))) (h2 : ¬ (x = y) → Go tb e below Q (T.setTop (mkF m pn ls st))) : Go tb e below Q (T.setTop (mkF m pc ls (.int y :: .int x :: st))) := by
  subst hp
  by_cases h : x = y
  · exact (h1 h).step fun t k => XS.icmpYes W.1 W.2.1 rfl (pc0 := pc) (pc' := pt) rfl (hb W.2.2 hd) rfl (XT.ii_eq_t h) ho ht k
  · exact (h2 h).step fun t k => XS.icmpNo W.1 W.2.1 rfl (hb W.2.2 hd) rfl (XT.ii_eq_f h) k
theorem if_eq (W : Wk tb T m c below bs) {x : Int32} {o : Int} (hd : decode bs pc = .ok (.ifCond .eq o, 3)) (hp : pc + 3 = pn) (ho : 0 ≤ (pc : Int) + o) (ht : ((pc : Int) + o).toNat = pt) (h1 : x = 0 → Go tb e below Q (T.setTop (mkF m pt ls st))) (h2 : ¬ (x = 0) → Go tb e below Q (T.setTop (mkF m pn ls st))) : Go tb e below Q (T.setTop (mkF m pc ls (.int x :: st))) := by
  subst hp
  by_cases h : x = 0
  · exact (h1 h).step fun t k => XS.ifYes W.1 W.2.1 rfl (pc0 := pc) (pc' := pt) rfl (hb W.2.2 hd) rfl (XT.i0_eq_t h) ho ht k
  · exact (h2 h).step fun t k => XS.ifNo W.1 W.2.1 rfl (hb W.2.2 hd) rfl (XT.i0_eq_f h) k
theorem lif_eq (W : Wk tb T m c below bs) {x y : Int64} {o : Int} (hd : decode bs pc = .ok (.ifCond .eq o, 3)) (hp : pc + 3 = pn) (ho : 0 ≤ (pc : Int) + o) (ht : ((pc : Int) + o).toNat = pt) (h1 : x = y → Go tb e below Q (T.setTop (mkF m pt ls st))) (h2 : ¬ (x = y) → Go tb e below Q (T.setTop (mkF m pn ls st))) : Go tb e below Q (T.setTop (mkF m pc ls (.int (XT.cmpL x y) :: st))) := by
  subst hp
  by_cases h : x = y
  · exact (h1 h).step fun t k => XS.ifYes W.1 W.2.1 rfl (pc0 := pc) (pc' := pt) rfl (hb W.2.2 hd) rfl (XT.ll_eq_t h) ho ht k
  · exact (h2 h).step fun t k => XS.ifNo W.1 W.2.1 rfl (hb W.2.2 hd) rfl (XT.ll_eq_f h) k
theorem icmp_ne (W : Wk tb T m c below bs) {x y : Int32} {o : Int} (hd : decode bs pc = .ok (.if_icmp .ne o, 3)) (hp : pc + 3 = pn) (ho : 0 ≤ (pc : Int) + o) (ht : ((pc : Int) + o).toNat = pt) (h1 : x = y → Go tb e below Q (T.setTop (mkF m pn ls st))) (h2 : ¬ (x = y) → Go tb e below Q (T.setTop (mkF m pt ls st))) : Go tb e below Q (T.setTop (mkF m pc ls (.int y :: .int x :: st))) := by
  subst hp
  by_cases h : x = y
  · exact (h1 h).step fun t k => XS.icmpNo W.1 W.2.1 rfl (hb W.2.2 hd) rfl (XT.ii_ne_f h) k
  · exact (h2 h).step fun t k => XS.icmpYes W.1 W.2.1 rfl (pc0 := pc) (pc' := pt) rfl (hb W.2.2 hd) rfl (XT.ii_ne_t h) ho ht k
theorem if_ne (W : Wk tb T m c below bs) {x : Int32} {o : Int} (hd : decode bs pc = .ok (.ifCond .ne o, 3)) (hp : pc + 3 = pn) (ho : 0 ≤ (pc : Int) + o) (ht : ((pc : Int) + o).toNat = pt) (h1 : x = 0 → Go tb e below Q (T.setTop (mkF m pn ls st))) (h2 : ¬ (x = 0) → Go tb e below Q (T.setTop (mkF m pt ls st))) : Go tb e below Q (T.setTop (mkF m pc ls (.int x :: st))) := by
  subst hp
  by_cases h : x = 0
  · exact (h1 h).step fun t k => XS.ifNo W.1 W.2.1 rfl (hb W.2.2 hd) rfl (XT.i0_ne_f h) k
  · exact (h2 h).step fun t k => XS.ifYes W.1 W.2.1 rfl (pc0 := pc) (pc' := pt) rfl (hb W.2.2 hd) rfl (XT.i0_ne_t h) ho ht k
theorem lif_ne (W : Wk tb T m c below bs) {x y : Int64} {o : Int} (hd : decode bs pc = .ok (.ifCond .ne o, 3)) (hp : pc + 3 = pn) (ho : 0 ≤ (pc : Int) + o) (ht : ((pc : Int) + o).toNat = pt) (h1 : x = y → Go tb e below Q (T.setTop (mkF m pn ls st))) (h2 : ¬ (x = y) → Go tb e below Q (T.setTop (mkF m pt ls st))) : Go tb e below Q (T.setTop (mkF m pc ls (.int (XT.cmpL x y) :: st))) := by
  subst hp
  by_cases h : x = y
  · exact (h1 h).step fun t k => XS.ifNo W.1 W.2.1 rfl (hb W.2.2 hd) rfl (XT.ll_ne_f h) k
  · exact (h2 h).step fun t k => XS.ifYes W.1 W.2.1 rfl (pc0 := pc) (pc' := pt) rfl (hb W.2.2 hd) rfl (XT.ll_ne_t h) ho ht k
theorem icmp_lt (W : Wk tb T m c below bs) {x y : Int32} {o : Int} (hd : decode bs pc = .ok (.if_icmp .lt o, 3)) (hp : pc + 3 = pn) (ho : 0 ≤ (pc : Int) + o) (ht : ((pc : Int) + o).toNat = pt) (h1 : x < y → Go tb e below Q (T.setTop (mkF m pt ls st))) (h2 : ¬ (x < y) → Go tb e below Q (T.setTop (mkF m pn ls st))) : Go tb e below Q (T.setTop (mkF m pc ls (.int y :: .int x :: st))) := by
  subst hp
  by_cases h : x < y
  · exact (h1 h).step fun t k => XS.icmpYes W.1 W.2.1 rfl (pc0 := pc) (pc' := pt) rfl (hb W.2.2 hd) rfl (XT.ii_lt_t h) ho ht k
  · exact (h2 h).step fun t k => XS.icmpNo W.1 W.2.1 rfl (hb W.2.2 hd) rfl (XT.ii_lt_f h) k
theorem if_lt (W : Wk tb T m c below bs) {x : Int32} {o : Int} (hd : decode bs pc = .ok (.ifCond .lt o, 3)) (hp : pc + 3 = pn) (ho : 0 ≤ (pc : Int) + o) (ht : ((pc : Int) + o).toNat = pt) (h1 : x < 0 → Go tb e below Q (T.setTop (mkF m pt ls st))) (h2 : ¬ (x < 0) → Go tb e below Q (T.setTop (mkF m pn ls st))) : Go tb e below Q (T.setTop (mkF m pc ls (.int x :: st))) := by
  subst hp
  by_cases h : x < 0
  · exact (h1 h).step fun t k => XS.ifYes W.1 W.2.1 rfl (pc0 := pc) (pc' := pt) rfl (hb W.2.2 hd) rfl (XT.i0_lt_t h) ho ht k
  · exact (h2 h).step fun t k => XS.ifNo W.1 W.2.1 rfl (hb W.2.2 hd) rfl (XT.i0_lt_f h) k
theorem lif_lt (W : Wk tb T m c below bs) {x y : Int64} {o : Int} (hd : decode bs pc = .ok (.ifCond .lt o, 3)) (hp : pc + 3 = pn) (ho : 0 ≤ (pc : Int) + o) (ht : ((pc : Int) + o).toNat = pt) (h1 : x < y → Go tb e below Q (T.setTop (mkF m pt ls st))) (h2 : ¬ (x < y) → Go tb e below Q (T.setTop (mkF m pn ls st))) : Go tb e below Q (T.setTop (mkF m pc ls (.int (XT.cmpL x y) :: st))) := by
  subst hp
  by_cases h : x < y
  · exact (h1 h).step fun t k => XS.ifYes W.1 W.2.1 rfl (pc0 := pc) (pc' := pt) rfl (hb W.2.2 hd) rfl (XT.ll_lt_t h) ho ht k
  · exact (h2 h).step fun t k => XS.ifNo W.1 W.2.1 rfl (hb W.2.2 hd) rfl (XT.ll_lt_f h) k
theorem icmp_ge (W : Wk tb T m c below bs) {x y : Int32} {o : Int} (hd : decode bs pc = .ok (.if_icmp .ge o, 3)) (hp : pc + 3 = pn) (ho : 0 ≤ (pc : Int) + o) (ht : ((pc : Int) + o).toNat = pt) (h1 : x < y → Go tb e below Q (T.setTop (mkF m pn ls st))) (h2 : ¬ (x < y) → Go tb e below Q (T.setTop (mkF m pt ls st))) : Go tb e below Q (T.setTop (mkF m pc ls (.int y :: .int x :: st))) := by
  subst hp
  by_cases h : x < y
  · exact (h1 h).step fun t k => XS.icmpNo W.1 W.2.1 rfl (hb W.2.2 hd) rfl (XT.ii_ge_f h) k
  · exact (h2 h).step fun t k => XS.icmpYes W.1 W.2.1 rfl (pc0 := pc) (pc' := pt) rfl (hb W.2.2 hd) rfl (XT.ii_ge_t h) ho ht k
theorem if_ge (W : Wk tb T m c below bs) {x : Int32} {o : Int} (hd : decode bs pc = .ok (.ifCond .ge o, 3)) (hp : pc + 3 = pn) (ho : 0 ≤ (pc : Int) + o) (ht : ((pc : Int) + o).toNat = pt) (h1 : x < 0 → Go tb e below Q (T.setTop (mkF m pn ls st))) (h2 : ¬ (x < 0) → Go tb e below Q (T.setTop (mkF m pt ls st))) : Go tb e below Q (T.setTop (mkF m pc ls (.int x :: st))) := by
  subst hp
  by_cases h : x < 0
  · exact (h1 h).step fun t k => XS.ifNo W.1 W.2.1 rfl (hb W.2.2 hd) rfl (XT.i0_ge_f h) k
  · exact (h2 h).step fun t k => XS.ifYes W.1 W.2.1 rfl (pc0 := pc) (pc' := pt) rfl (hb W.2.2 hd) rfl (XT.i0_ge_t h) ho ht k
theorem lif_ge (W : Wk tb T m c below bs) {x y : Int64} {o : Int} (hd : decode bs pc = .ok (.ifCond .ge o, 3)) (hp : pc + 3 = pn) (ho : 0 ≤ (pc : Int) + o) (ht : ((pc : Int) + o).toNat = pt) (h1 : x < y → Go tb e below Q (T.setTop (mkF m pn ls st))) (h2 : ¬ (x < y) → Go tb e below Q (T.setTop (mkF m pt ls st))) : Go tb e below Q (T.setTop (mkF m pc ls (.int (XT.cmpL x y) :: st))) := by
  subst hp
  by_cases h : x < y
  · exact (h1 h).step fun t k => XS.ifNo W.1 W.2.1 rfl (hb W.2.2 hd) rfl (XT.ll_ge_f h) k
  · exact (h2 h).step fun t k => XS.ifYes W.1 W.2.1 rfl (pc0 := pc) (pc' := pt) rfl (hb W.2.2 hd) rfl (XT.ll_ge_t h) ho ht k
theorem icmp_gt (W : Wk tb T m c below bs) {x y : Int32} {o : Int} (hd : decode bs pc = .ok (.if_icmp .gt o, 3)) (hp : pc + 3 = pn) (ho : 0 ≤ (pc : Int) + o) (ht : ((pc : Int) + o).toNat = pt) (h1 : y < x → Go tb e below Q (T.setTop (mkF m pt ls st))) (h2 : ¬ (y < x) → Go tb e below Q (T.setTop (mkF m pn ls st))) : Go tb e below Q (T.setTop (mkF m pc ls (.int y :: .int x :: st))) := by
  subst hp
  by_cases h : y < x
  · exact (h1 h).step fun t k => XS.icmpYes W.1 W.2.1 rfl (pc0 := pc) (pc' := pt) rfl (hb W.2.2 hd) rfl (XT.ii_gt_t h) ho ht k
  · exact (h2 h).step fun t k => XS.icmpNo W.1 W.2.1 rfl (hb W.2.2 hd) rfl (XT.ii_gt_f h) k
theorem if_gt (W : Wk tb T m c below bs) {x : Int32} {o : Int} (hd : decode bs pc = .ok (.ifCond .gt o, 3)) (hp : pc + 3 = pn) (ho : 0 ≤ (pc : Int) + o) (ht : ((pc : Int) + o).toNat = pt) (h1 : 0 < x → Go tb e below Q (T.setTop (mkF m pt ls st))) (h2 : ¬ (0 < x) → Go tb e below Q (T.setTop (mkF m pn ls st))) : Go tb e below Q (T.setTop (mkF m pc ls (.int x :: st))) := by
  subst hp
  by_cases h : 0 < x
  · exact (h1 h).step fun t k => XS.ifYes W.1 W.2.1 rfl (pc0 := pc) (pc' := pt) rfl (hb W.2.2 hd) rfl (XT.i0_gt_t h) ho ht k
  · exact (h2 h).step fun t k => XS.ifNo W.1 W.2.1 rfl (hb W.2.2 hd) rfl (XT.i0_gt_f h) k
theorem lif_gt (W : Wk tb T m c below bs) {x y : Int64} {o : Int} (hd : decode bs pc = .ok (.ifCond .gt o, 3)) (hp : pc + 3 = pn) (ho : 0 ≤ (pc : Int) + o) (ht : ((pc : Int) + o).toNat = pt) (h1 : y < x → Go tb e below Q (T.setTop (mkF m pt ls st))) (h2 : ¬ (y < x) → Go tb e below Q (T.setTop (mkF m pn ls st))) : Go tb e below Q (T.setTop (mkF m pc ls (.int (XT.cmpL x y) :: st))) := by
  subst hp
  by_cases h : y < x
  · exact (h1 h).step fun t k => XS.ifYes W.1 W.2.1 rfl (pc0 := pc) (pc' := pt) rfl (hb W.2.2 hd) rfl (XT.ll_gt_t h) ho ht k
  · exact (h2 h).step fun t k => XS.ifNo W.1 W.2.1 rfl (hb W.2.2 hd) rfl (XT.ll_gt_f h) k
theorem icmp_le (W : Wk tb T m c below bs) {x y : Int32} {o : Int} (hd : decode bs pc = .ok (.if_icmp .le o, 3)) (hp : pc + 3 = pn) (ho : 0 ≤ (pc : Int) + o) (ht : ((pc : Int) + o).toNat = pt) (h1 : y < x → Go tb e below Q (T.setTop (mkF m pn ls st))) (h2 : ¬ (y < x) → Go tb e below Q (T.setTop (mkF m pt ls st))) : Go tb e below Q (T.setTop (mkF m pc ls (.int y :: .int x :: st))) := by
  subst hp
  by_cases h : y < x
  · exact (h1 h).step fun t k => XS.icmpNo W.1 W.2.1 rfl (hb W.2.2 hd) rfl (XT.ii_le_f h) k
  · exact (h2 h).step fun t k => XS.icmpYes W.1 W.2.1 rfl (pc0 := pc) (pc' := pt) rfl (hb W.2.2 hd) rfl (XT.ii_le_t h) ho ht k
theorem if_le (W : Wk tb T m c below bs) {x : Int32} {o : Int} (hd : decode bs pc = .ok (.ifCond .le o, 3)) (hp : pc + 3 = pn) (ho : 0 ≤ (pc : Int) + o) (ht : ((pc : Int) + o).toNat = pt) (h1 : 0 < x → Go tb e below Q (T.setTop (mkF m pn ls st))) (h2 : ¬ (0 < x) → Go tb e below Q (T.setTop (mkF m pt ls st))) : Go tb e below Q (T.setTop (mkF m pc ls (.int x :: st))) := by
  subst hp
  by_cases h : 0 < x
  · exact (h1 h).step fun t k => XS.ifNo W.1 W.2.1 rfl (hb W.2.2 hd) rfl (XT.i0_le_f h) k
  · exact (h2 h).step fun t k => XS.ifYes W.1 W.2.1 rfl (pc0 := pc) (pc' := pt) rfl (hb W.2.2 hd) rfl (XT.i0_le_t h) ho ht k
theorem lif_le (W : Wk tb T m c below bs) {x y : Int64} {o : Int} (hd : decode bs pc = .ok (.ifCond .le o, 3)) (hp : pc + 3 = pn) (ho : 0 ≤ (pc : Int) + o) (ht : ((pc : Int) + o).toNat = pt) (h1 : y < x → Go tb e below Q (T.setTop (mkF m pn ls st))) (h2 : ¬ (y < x) → Go tb e below Q (T.setTop (mkF m pt ls st))) : Go tb e below Q (T.setTop (mkF m pc ls (.int (XT.cmpL x y) :: st))) := by
  subst hp
  by_cases h : y < x
  · exact (h1 h).step fun t k => XS.ifNo W.1 W.2.1 rfl (hb W.2.2 hd) rfl (XT.ll_le_f h) k
  · exact (h2 h).step fun t k => XS.ifYes W.1 W.2.1 rfl (pc0 := pc) (pc' := pt) rfl (hb W.2.2 hd) rfl (XT.ll_le_t h) ho ht k
theorem ifnullY (W : Wk tb T m c below bs) {o : Int} (hd : decode bs pc = .ok (.ifnull o, 3)) (ho : 0 ≤ (pc : Int) + o) (ht : ((pc : Int) + o).toNat = pt) (hr : Go tb e below Q (T.setTop (mkF m pt ls st))) : Go tb e below Q (T.setTop (mkF m pc ls (.null :: st))) := by
  exact hr.step fun t k => XS.ifnullYes W.1 W.2.1 rfl (pc0 := pc) (pc' := pt) rfl (hb W.2.2 hd) rfl ho ht k
theorem ifnonnullY (W : Wk tb T m c below bs) {b : Addr} {o : Int} (hd : decode bs pc = .ok (.ifnonnull o, 3)) (ho : 0 ≤ (pc : Int) + o) (ht : ((pc : Int) + o).toNat = pt) (hr : Go tb e below Q (T.setTop (mkF m pt ls st))) : Go tb e below Q (T.setTop (mkF m pc ls (.ref b :: st))) := by
  exact hr.step fun t k => XT.ifnonnullYes W.1 W.2.1 rfl (pc0 := pc) (pc' := pt) rfl (hb W.2.2 hd) rfl ho ht k
theorem ifnullN (W : Wk tb T m c below bs) {b : Addr} {o : Int} (hd : decode bs pc = .ok (.ifnull o, 3)) (hp : pc + 3 = pn) (hr : Go tb e below Q (T.setTop (mkF m pn ls st))) : Go tb e below Q (T.setTop (mkF m pc ls (.ref b :: st))) := by
  subst hp; exact hr.step fun t k => XS.ifnullNo W.1 W.2.1 rfl (hb W.2.2 hd) rfl k
theorem ifnonnullN (W : Wk tb T m c below bs) {o : Int} (hd : decode bs pc = .ok (.ifnonnull o, 3)) (hp : pc + 3 = pn) (hr : Go tb e below Q (T.setTop (mkF m pn ls st))) : Go tb e below Q (T.setTop (mkF m pc ls (.null :: st))) := by
  subst hp; exact hr.step fun t k => XT.ifnonnullNo W.1 W.2.1 rfl (hb W.2.2 hd) rfl k
end Plain
section Stands
variable {p : Program} {l : Launch} {e : Env} {R : Room} {s : State} {m : MethodId} {args : Array Value} {below : List Frame} {meth : Method} {c : Code} {T : State} {locs : List Loc} {cells slots : Nat} {Z : State} {a0 : Array Value} {h0 : Heap} {bs : ByteArray} {ls : Array Slot} {st : List Value} {pc pn : Nat} {Q : Outcome → State → Prop}
/-- the end of a body that returned -/
def Qe (s : State) (rm : Room) (QX : Option Value → Heap → List Loc → Prop) (o : Outcome) (U' : State) : Prop := ∃ v L, o = .returned v ∧ QX v U'.heap L ∧ FrameEnd s o U' L rm.cells rm.slots
/-- a body's contract: called with these arguments over this heap it returns as QX says -/
def Con (l : Launch) (y : MethodName) (bs : ByteArray) (maxL : Nat) (ret : Option FieldType) (rm : Room) (Z : State) (as' : Array Value) (h0 : Heap) (QX : Option Value → Heap → List Loc → Prop) : Prop :=
  ∀ ws : List Jvm.Cond, MetFree l y (head1 (Jvm.Cond.code y bs maxL ret :: ws) rm) (fun a U => a = as' ∧ Z.Warmed39 U.vm ∧ U.heap = h0) (fun _ _ _ _ _ => True) (fun _ U o U' => ∃ v L, o = .returned v ∧ QX v U'.heap L ∧ FrameEnd U o U' L rm.cells rm.slots)
theorem Con.intro {y : MethodName} {maxL : Nat} {ret : Option FieldType} {rm : Room} {as' : Array Value} {QX : Option Value → Heap → List Loc → Prop} (hpn : plainFor y = true)
    (body : ∀ (p : Program) (e : Env) (s : State) (m : MethodId) (below : List Frame) (meth : Method) (c : Code) (T : State), Stand p l e rm s m as' below meth c T [] 0 0 → p.tables.exec = Jvm.exec → c.code = bs → c.maxLocals = maxL → Z.Warmed39 s.vm → s.vm.findClass y.cls = some m.cls → meth.name = y.name → meth.sig.returnType = ret → meth.locks = false → T.heap = h0 →
      Go p.tables e below (Qe s rm QX) (T.setTop (entryFrame m as' maxL))) : Con l y bs maxL ret rm Z as' h0 QX := by
  intro ws
  refine MetFree.of_bodySF hpn hisR ?_
  intro p e s m args below meth c s₁ Bd hml0 hP hK
  obtain ⟨rfl, hZ, hh⟩ := hP
  obtain ⟨s2, o, h1, h2, h3, h4⟩ := body p e s m below meth c s₁ (Stand.of_body Bd) Bd.exec Bd.bytes hml0 hZ (findClass_of_methodNamed Bd.named) (name_of_methodNamed Bd.named Bd.method).1 Bd.returns Bd.notSynchronized (by rw [← hh, Bd.state]; rfl)
  exact ⟨s2, o, h1, h2, h3, h4⟩
/-- a body that only reckons: it returns V, writes and makes nothing -/
def PureQ (V : Value) (h0 : Heap) (v : Option Value) (h : Heap) (L : List Loc) : Prop := v = some V ∧ L = [] ∧ h = h0
theorem fin_of {QX : Option Value → Heap → List Loc → Prop} {z r : Int32} {h h' : Heap} {L : List Loc} (hr : z = r) (e : h = h') (hf : QX (some (.int r)) h' L) : QX (some (.int z)) h L := by subst hr e; exact hf
theorem fin_ofL {QX : Option Value → Heap → List Loc → Prop} {z r : Int64} {h h' : Heap} {L : List Loc} (hr : z = r) (e : h = h') (hf : QX (some (.long r)) h' L) : QX (some (.long z)) h L := by subst hr e; exact hf
def rmP (fr lo : Nat) : Room := { frames := fr, cells := 0, slots := 0, locals := lo }
theorem Go.leave {rm : Room} {QX : Option Value → Heap → List Loc → Prop} (X : Stand p l e R s m args below meth c T locs cells slots) {v : Option Value} {g : JFrame} (hv : meth.sig.returnType = none → v = none) (hlk : meth.locks = false) (hq : QX v T.heap locs) (hc : cells ≤ rm.cells) (hs : slots ≤ rm.slots)
    (hst : ∀ fs, (∀ (f : JFrame) (acts : List Action), f.method = m → f.locked = none → f.entered = [] → (doReturn e (T.setTop f) acts v).1 = T.setFrames fs) → Steps p.tables e below (T.setTop g) (T.setFrames fs)) : Go p.tables e below (Qe s rm QX) (T.setTop g) := by
  obtain ⟨fs, hr, hrun, hended, hW, hsame⟩ := X.leave (v := v) hv hlk
  exact ⟨_, _, hst fs hr, hrun, hended, _, _, rfl, hq, ⟨_, rfl⟩, hW, hsame.mono hc hs⟩
theorem ireturn {rm : Room} {QX : Option Value → Heap → List Loc → Prop} (X : Stand p l e R s m args below meth c T locs cells slots) (hx : p.tables.exec = Jvm.exec) (hby : c.code = bs) {w : Int32} {t : FieldType} (hret : meth.sig.returnType = some t) (hlk : meth.locks = false) (hn : narrow t (.int w) = .int w) (hti : t = .int ∨ t = .boolean ∨ t = .byte ∨ t = .char ∨ t = .short)
    (hd : decode bs pc = .ok (.ireturn, 1)) (hq : QX (some (.int w)) T.heap locs) (hc : cells ≤ rm.cells) (hs : slots ≤ rm.slots) : Go p.tables e below (Qe s rm QX) (T.setTop (mkF m pc ls [.int w])) :=
  Go.leave X (fun h => by rw [hret] at h; cases h) hlk hq hc hs fun fs hr => X.ireturnOut hx hret hn hti (hb hby hd) hr
theorem lreturn {rm : Room} {QX : Option Value → Heap → List Loc → Prop} (X : Stand p l e R s m args below meth c T locs cells slots) (hx : p.tables.exec = Jvm.exec) (hby : c.code = bs) {w : Int64} (hret : meth.sig.returnType = some .long) (hlk : meth.locks = false)
    (hd : decode bs pc = .ok (.lreturn, 1)) (hq : QX (some (.long w)) T.heap locs) (hc : cells ≤ rm.cells) (hs : slots ≤ rm.slots) : Go p.tables e below (Qe s rm QX) (T.setTop (mkF m pc ls [.long w])) :=
  Go.leave X (fun h => by rw [hret] at h; cases h) hlk hq hc hs fun fs hr => X.lreturnOut hx hret (hb hby hd) hr
theorem areturn {rm : Room} {QX : Option Value → Heap → List Loc → Prop} (X : Stand p l e R s m args below meth c T locs cells slots) (hx : p.tables.exec = Jvm.exec) (hby : c.code = bs) {w : Value} {t : FieldType} (hret : meth.sig.returnType = some t) (hlk : meth.locks = false) (hw : w.isRef = true) (ht : t.isReference = true)
    (hd : decode bs pc = .ok (.areturn, 1)) (hq : QX (some w) T.heap locs) (hc : cells ≤ rm.cells) (hs : slots ≤ rm.slots) : Go p.tables e below (Qe s rm QX) (T.setTop (mkF m pc ls [w])) :=
  Go.leave X (fun h => by rw [hret] at h; cases h) hlk hq hc hs fun fs hr => X.areturnOut hx hw hret ht (hb hby hd) hr
theorem returnV {rm : Room} {QX : Option Value → Heap → List Loc → Prop} (X : Stand p l e R s m args below meth c T locs cells slots) (hx : p.tables.exec = Jvm.exec) (hby : c.code = bs) (hret : meth.sig.returnType = none) (hlk : meth.locks = false)
    (hd : decode bs pc = .ok (.return_, 1)) (hq : QX none T.heap locs) (hc : cells ≤ rm.cells) (hs : slots ≤ rm.slots) : Go p.tables e below (Qe s rm QX) (T.setTop (mkF m pc ls [])) :=
  Go.leave X (fun _ => rfl) hlk hq hc hs fun fs hr => X.returnOut hx hret (hb hby hd) hr
theorem ldcI (X : Stand p l e R s m args below meth c T locs cells slots) (hx : p.tables.exec = Jvm.exec) (hby : c.code = bs) (hZ : Z.Warmed39 s.vm) {own : String} {index : Nat} {v : Int32} (hown : s.vm.findClass own = some m.cls) (w : (Jvm.Cond.constant own index v).before a0 Z = true) (hd : decode bs pc = .ok (.ldc index, 2)) (hp : pc + 2 = pn)
    (hr : Go p.tables e below Q (T.setTop (mkF m pn ls (.int v :: st)))) : Go p.tables e below Q (T.setTop (mkF m pc ls st)) := by
  subst hp; exact hr.step fun t k => X.ldcI hx hown (mvT hZ w) rfl (hb hby hd) k
theorem ldc2J (X : Stand p l e R s m args below meth c T locs cells slots) (hx : p.tables.exec = Jvm.exec) (hby : c.code = bs) (hZ : Z.Warmed39 s.vm) {own : String} {index : Nat} {v : Int64} (hown : s.vm.findClass own = some m.cls) (w : (Jvm.Cond.constantLong own index v).before a0 Z = true) (hd : decode bs pc = .ok (.ldc2_w index, 3)) (hp : pc + 3 = pn)
    (hr : Go p.tables e below Q (T.setTop (mkF m pn ls (.long v :: st)))) : Go p.tables e below Q (T.setTop (mkF m pc ls st)) := by
  subst hp; exact hr.step fun t k => X.ldc2J hx hown (mvT hZ w) rfl (hb hby hd) k
/-- a static call by its contract -/
theorem callS (X : Stand p l e R s m args below meth c T locs cells slots) (hx : p.tables.exec = Jvm.exec) (hby : c.code = bs) (hZ : Z.Warmed39 s.vm) {own : String} (hown : s.vm.findClass own = some m.cls) {index : Nat} {y : MethodName} {ybs : ByteArray} {yl : Nat} {yret : Option FieldType} {rm : Room} {argsL rest : List Value} {QX : Option Value → Heap → List Loc → Prop}
    (w1 : (Jvm.Cond.methodLink own index y).before a0 Z = true) (w2 : (Jvm.Cond.static y).before a0 Z = true) (w3 : (Jvm.Cond.initialized y.cls).before a0 Z = true) (w4 : (Jvm.Cond.code y ybs yl yret).before a0 Z = true) (hy : y.cls ≠ "java/lang/invoke/MethodHandle" ∧ y.cls ≠ "java/lang/invoke/VarHandle")
    (K : Con l y ybs yl yret rm Z argsL.toArray T.heap QX) (hf : rm.frames + 1 ≤ R.frames) (hl : (rest.map fun v => v.category).sum + (yl + 11) + rm.locals ≤ R.locals) (hcl : cells + rm.cells ≤ R.cells) (hsl : slots + rm.slots ≤ R.slots)
    (hlen : ∀ sig, parseMethodDescriptor y.desc = some sig → argsL.length = sig.parameters.length) (hsize : ls.size = c.maxLocals) (hst : st = argsL.reverse ++ rest) (hd : decode bs pc = .ok (.invokestatic index, 3)) (hp : pc + 3 = pn)
    (hr : ∀ (v : Option Value) (T' : State) (L : List Loc), QX v T'.heap L → Stand p l e R s m args below meth c T' (locs ++ L) (cells + rm.cells) (slots + rm.slots) → Go p.tables e below Q (T'.setTop (mkF m pn ls (v.toList ++ rest)))) : Go p.tables e below Q (T.setTop (mkF m pc ls st)) := by
  subst hp
  obtain ⟨v, _, ⟨T2, L2, k2, n2⟩, -, X2, ⟨Lc2, hQ2, l2, y2, z2⟩, st2⟩ := Jvm.LawKit.callS X hx (y := y) hown (mvT hZ w1) (mvT hZ w2) (mvT hZ w3) (mvT hZ w4) hy (backOf (W := (rest.map fun v => v.category).sum) (K []) hZ w4 w3 hf hl) (g := mkF m pc ls st) rfl hsize (argsL := argsL) (rest := rest) hlen hst (by show 2 * 0 + _ ≤ _; omega) (hb hby hd) (fun _ _ => ⟨rfl, rfl, hcl, hsl⟩)
  dsimp only [Pt.U, Pt.locs, Pt.cells, Pt.slots] at X2 l2 y2 z2 st2 hQ2
  subst l2 y2 z2
  exact (hr v T2 Lc2 hQ2 X2).step fun t k => st2 t k
/-- a static call of a body that only reckons -/
theorem callP (X : Stand p l e R s m args below meth c T locs cells slots) (hx : p.tables.exec = Jvm.exec) (hby : c.code = bs) (hZ : Z.Warmed39 s.vm) {own : String} (hown : s.vm.findClass own = some m.cls) {index : Nat} {y : MethodName} {ybs : ByteArray} {yl fr lo : Nat} {yret : Option FieldType} {argsL rest : List Value} {V : Value}
    (w1 : (Jvm.Cond.methodLink own index y).before a0 Z = true) (w2 : (Jvm.Cond.static y).before a0 Z = true) (w3 : (Jvm.Cond.initialized y.cls).before a0 Z = true) (w4 : (Jvm.Cond.code y ybs yl yret).before a0 Z = true) (hy : y.cls ≠ "java/lang/invoke/MethodHandle" ∧ y.cls ≠ "java/lang/invoke/VarHandle")
    (K : Con l y ybs yl yret (rmP fr lo) Z argsL.toArray T.heap (PureQ V T.heap)) (hf : fr + 1 ≤ R.frames) (hl : (rest.map fun v => v.category).sum + (yl + 11) + lo ≤ R.locals) (hcl : cells ≤ R.cells) (hsl : slots ≤ R.slots)
    (hlen : ∀ sig, parseMethodDescriptor y.desc = some sig → argsL.length = sig.parameters.length) (hsize : ls.size = c.maxLocals) (hst : st = argsL.reverse ++ rest) (hd : decode bs pc = .ok (.invokestatic index, 3)) (hp : pc + 3 = pn)
    (hr : ∀ (T' : State), Stand p l e R s m args below meth c T' locs cells slots → T'.heap = T.heap → Go p.tables e below Q (T'.setTop (mkF m pn ls (V :: rest)))) : Go p.tables e below Q (T.setTop (mkF m pc ls st)) := by
  refine callS X hx hby hZ hown w1 w2 w3 w4 hy K hf hl hcl hsl hlen hsize hst hd hp ?_
  intro v T' L hQ X'
  obtain ⟨rfl, rfl, eh⟩ := hQ
  exact hr T' (by simpa [rmP] using X') eh
end Stands
end Jvm.OwnGo
namespace Jvm.OwnGo
open Jvm Jvm.ClassFile Sem Op Lib Jvm.Free Jvm.Stand Jvm.LawKit Jvm.RoadKit
section Arrays
variable {p : Program} {l : Launch} {e : Env} {R : Room} {s : State} {m : MethodId} {args : Array Value} {below : List Frame} {meth : Method} {c : Code} {T : State} {locs : List Loc} {cells slots : Nat} {Z : State} {a0 : Array Value} {h h' : Heap} {bs : ByteArray} {ls : Array Slot} {st : List Value} {pc pn : Nat} {Q : Outcome → State → Prop} {a b : Addr} {ty : FieldType} {xs : List Int32} {ws : List Addr}
def Ia (Z : State) (h : Heap) (a : Addr) (ty : FieldType) (xs : List Int32) : Prop := ∃ cl : Cell, Arr Z h a cl ty ∧ cl.slots.toList = xs.map Value.int
theorem Ia.lt (F : Ia Z h a ty xs) : a < h.size := by obtain ⟨cl, A, -⟩ := F; exact A.lt
theorem Ia.ext (F : Ia Z h a ty xs) (E : Ext h h') : Ia Z h' a ty xs := by obtain ⟨cl, A, r⟩ := F; exact ⟨cl, A.ext E, r⟩
theorem Ia.other {sl : Nat} {v : Value} (F : Ia Z h b ty xs) (W : Wr h h' a sl v) (q : b ≠ a) : Ia Z h' b ty xs := by obtain ⟨cl, A, r⟩ := F; exact ⟨cl, A.other W q, r⟩
theorem Ia.keep (F : Ia Z h a ty xs) (K : Keep h h' ws) (q : a ∉ ws) : Ia Z h' a ty xs := by obtain ⟨cl, A, r⟩ := F; exact ⟨cl, ⟨K.2.1 a cl A.1 q, A.2⟩, r⟩
theorem Ia.size {cl : Cell} (r : cl.slots.toList = xs.map Value.int) : cl.slots.size = xs.length := by
  have := congrArg List.length r
  simpa using this
theorem Ia.get {cl : Cell} (r : cl.slots.toList = xs.map Value.int) (k : Nat) : cl.slots[k]? = (xs[k]?).map Value.int := by
  rw [← Array.getElem?_toList, r, List.getElem?_map]
theorem getD_of {k : Nat} (h : k < xs.length) : xs[k]? = some (xs.getD k 0) := by
  simp [List.getD, List.getElem?_eq_getElem h]
theorem getD_set {k j : Nat} {v : Int32} (h : j < xs.length) : (xs.set j v).getD k 0 = if k = j then v else xs.getD k 0 := by
  simp only [List.getD, List.getElem?_set]
  by_cases q : j = k
  · subst q; simp [h]
  · simp [q, Ne.symm q]
theorem getD_rep {k n : Nat} : (List.replicate n (0 : Int32)).getD k 0 = 0 := by
  simp only [List.getD, List.getElem?_replicate]
  split <;> rfl
theorem Ia.set {sl : Nat} {v : Int32} (F : Ia Z h a ty xs) (W : Wr h h' a sl (.int v)) : Ia Z h' a ty (xs.set sl v) := by
  obtain ⟨cl, A, r⟩ := F
  refine ⟨_, A.same W, ?_⟩
  show (cl.slots.setIfInBounds sl (.int v)).toList = _
  rw [Array.toList_setIfInBounds, r, List.map_set]
theorem Ia.new {k : ClassId} {z : Int32} (A : Arr Z h a (newA k ty z) ty) (hd : defaultValue ty = .int 0) : Ia Z h a ty (List.replicate z.toNatClampNeg 0) := by
  refine ⟨_, A, ?_⟩
  simp [newA, hd]
theorem Ia.inb {cl : Cell} {j : Int32} {v : Int32} (r : cl.slots.toList = xs.map Value.int) (hj : ¬ j < 0) (hv : xs[j.toNatClampNeg]? = some v) : ¬ (j < 0 ∨ cl.slots.size ≤ j.toNatClampNeg) := by
  rintro (q | q)
  · exact hj q
  · rw [Ia.size r] at q
    have := (List.getElem?_eq_some_iff.mp hv).1
    omega
theorem Ia.inbL {cl : Cell} {j : Int32} (r : cl.slots.toList = xs.map Value.int) (hj : ¬ j < 0) (hv : j.toNatClampNeg < xs.length) : ¬ (j < 0 ∨ cl.slots.size ≤ j.toNatClampNeg) := by
  rintro (q | q)
  · exact hj q
  · rw [Ia.size r] at q; omega
theorem iaload (X : Stand p l e R s m args below meth c T locs cells slots) (hx : p.tables.exec = Jvm.exec) (hby : c.code = bs) (hZ : Z.Warmed39 s.vm) (A : Ia Z T.heap a .int xs) {j v : Int32} (hj : ¬ j < 0) (hv : xs[j.toNatClampNeg]? = some v) (hd : decode bs pc = .ok (.iaload, 1)) (hp : pc + 1 = pn)
    (hr : Go p.tables e below Q (T.setTop (mkF m pn ls (.int v :: st)))) : Go p.tables e below Q (T.setTop (mkF m pc ls (.int j :: .ref a :: st))) := by
  subst hp
  obtain ⟨cl, Ar, r⟩ := A
  exact hr.step fun t k => X.iaload hx (j := j) (v := .int v) Ar.1 (State.isArrayOf_alike hZ.alike Ar.2.1) Ar.2.2 (Ia.inb r hj hv) (by rw [Ia.get r, hv]; rfl) (g := mkF m pc ls (.int j :: .ref a :: st)) rfl rfl (hb hby hd) t k
theorem baloadB (X : Stand p l e R s m args below meth c T locs cells slots) (hx : p.tables.exec = Jvm.exec) (hby : c.code = bs) (hZ : Z.Warmed39 s.vm) (A : Ia Z T.heap a .byte xs) {j v : Int32} (hj : ¬ j < 0) (hv : xs[j.toNatClampNeg]? = some v) (hd : decode bs pc = .ok (.baload, 1)) (hp : pc + 1 = pn)
    (hr : Go p.tables e below Q (T.setTop (mkF m pn ls (.int v :: st)))) : Go p.tables e below Q (T.setTop (mkF m pc ls (.int j :: .ref a :: st))) := by
  subst hp
  obtain ⟨cl, Ar, r⟩ := A
  exact hr.step fun t k => X.baloadBytes hx (j := j) (v := .int v) Ar.1 (State.isArrayOf_alike hZ.alike Ar.2.1) Ar.2.2 (Ia.inb r hj hv) (by rw [Ia.get r, hv]; rfl) (g := mkF m pc ls (.int j :: .ref a :: st)) rfl rfl (hb hby hd) t k
theorem baloadZ (X : Stand p l e R s m args below meth c T locs cells slots) (hx : p.tables.exec = Jvm.exec) (hby : c.code = bs) (hZ : Z.Warmed39 s.vm) (A : Ia Z T.heap a .boolean xs) {j v : Int32} (hj : ¬ j < 0) (hv : xs[j.toNatClampNeg]? = some v) (hd : decode bs pc = .ok (.baload, 1)) (hp : pc + 1 = pn)
    (hr : Go p.tables e below Q (T.setTop (mkF m pn ls (.int v :: st)))) : Go p.tables e below Q (T.setTop (mkF m pc ls (.int j :: .ref a :: st))) := by
  subst hp
  obtain ⟨cl, Ar, r⟩ := A
  exact hr.step fun t k => X.baloadBooleans hx (j := j) (v := .int v) Ar.1 (State.isArrayOf_alike hZ.alike Ar.2.1) Ar.2.2 (Ia.inb r hj hv) (by rw [Ia.get r, hv]; rfl) (g := mkF m pc ls (.int j :: .ref a :: st)) rfl rfl (hb hby hd) t k
theorem caload (X : Stand p l e R s m args below meth c T locs cells slots) (hx : p.tables.exec = Jvm.exec) (hby : c.code = bs) (hZ : Z.Warmed39 s.vm) (A : Ia Z T.heap a .char xs) {j v : Int32} (hj : ¬ j < 0) (hv : xs[j.toNatClampNeg]? = some v) (hd : decode bs pc = .ok (.caload, 1)) (hp : pc + 1 = pn)
    (hr : Go p.tables e below Q (T.setTop (mkF m pn ls (.int v :: st)))) : Go p.tables e below Q (T.setTop (mkF m pc ls (.int j :: .ref a :: st))) := by
  subst hp
  obtain ⟨cl, Ar, r⟩ := A
  exact hr.step fun t k => X.caload hx (j := j) (v := .int v) Ar.1 (State.isArrayOf_alike hZ.alike Ar.2.1) Ar.2.2 (Ia.inb r hj hv) (by rw [Ia.get r, hv]; rfl) (g := mkF m pc ls (.int j :: .ref a :: st)) rfl rfl (hb hby hd) t k
theorem iastore (X : Stand p l e R s m args below meth c T locs cells slots) (hx : p.tables.exec = Jvm.exec) (hby : c.code = bs) (hZ : Z.Warmed39 s.vm) (A : Ia Z T.heap a .int xs) {j x : Int32} (hj : ¬ j < 0) (hlt : j.toNatClampNeg < xs.length) {n0 : Nat} (hn : n0 ≤ a) (N : Fr n0 locs) (hd : decode bs pc = .ok (.iastore, 1)) (hp : pc + 1 = pn)
    (hr : ∀ (T' : State) (locs' : List Loc), Stand p l e R s m args below meth c T' locs' cells slots → Fr n0 locs' → Ia Z T'.heap a .int (xs.set j.toNatClampNeg (x)) → Wr T.heap T'.heap a j.toNatClampNeg (.int (x)) → Go p.tables e below Q (T'.setTop (mkF m pn ls st))) : Go p.tables e below Q (T.setTop (mkF m pc ls (.int x :: .int j :: .ref a :: st))) := by
  subst hp
  have A' := A
  obtain ⟨cl, Ar, r⟩ := A
  obtain ⟨T', h', X', e', W', st'⟩ := stI X hx hZ rfl Ar (j := j) (x := x) (Ia.inbL r hj hlt) (g := mkF m pc ls (.int x :: .int j :: .ref a :: st)) rfl rfl (hb hby hd)
  subst e'
  exact (hr T' _ X' (Fr.snoc X' N hn) (A'.set W') W').step fun t k => st' t k
theorem bastoreB (X : Stand p l e R s m args below meth c T locs cells slots) (hx : p.tables.exec = Jvm.exec) (hby : c.code = bs) (hZ : Z.Warmed39 s.vm) (A : Ia Z T.heap a .byte xs) {j x : Int32} (hj : ¬ j < 0) (hlt : j.toNatClampNeg < xs.length) {n0 : Nat} (hn : n0 ≤ a) (N : Fr n0 locs) (hd : decode bs pc = .ok (.bastore, 1)) (hp : pc + 1 = pn)
    (hr : ∀ (T' : State) (locs' : List Loc), Stand p l e R s m args below meth c T' locs' cells slots → Fr n0 locs' → Ia Z T'.heap a .byte (xs.set j.toNatClampNeg (nar .byte x)) → Wr T.heap T'.heap a j.toNatClampNeg (.int (nar .byte x)) → Go p.tables e below Q (T'.setTop (mkF m pn ls st))) : Go p.tables e below Q (T.setTop (mkF m pc ls (.int x :: .int j :: .ref a :: st))) := by
  subst hp
  have A' := A
  obtain ⟨cl, Ar, r⟩ := A
  obtain ⟨T', h', X', e', W', st'⟩ := stB X hx hZ rfl Ar (j := j) (x := x) (Ia.inbL r hj hlt) (g := mkF m pc ls (.int x :: .int j :: .ref a :: st)) rfl rfl (hb hby hd)
  subst e'
  exact (hr T' _ X' (Fr.snoc X' N hn) (A'.set W') W').step fun t k => st' t k
theorem castore (X : Stand p l e R s m args below meth c T locs cells slots) (hx : p.tables.exec = Jvm.exec) (hby : c.code = bs) (hZ : Z.Warmed39 s.vm) (A : Ia Z T.heap a .char xs) {j x : Int32} (hj : ¬ j < 0) (hlt : j.toNatClampNeg < xs.length) {n0 : Nat} (hn : n0 ≤ a) (N : Fr n0 locs) (hd : decode bs pc = .ok (.castore, 1)) (hp : pc + 1 = pn)
    (hr : ∀ (T' : State) (locs' : List Loc), Stand p l e R s m args below meth c T' locs' cells slots → Fr n0 locs' → Ia Z T'.heap a .char (xs.set j.toNatClampNeg (nar .char x)) → Wr T.heap T'.heap a j.toNatClampNeg (.int (nar .char x)) → Go p.tables e below Q (T'.setTop (mkF m pn ls st))) : Go p.tables e below Q (T.setTop (mkF m pc ls (.int x :: .int j :: .ref a :: st))) := by
  subst hp
  have A' := A
  obtain ⟨cl, Ar, r⟩ := A
  obtain ⟨T', h', X', e', W', st'⟩ := stC X hx hZ rfl Ar (j := j) (x := x) (Ia.inbL r hj hlt) (g := mkF m pc ls (.int x :: .int j :: .ref a :: st)) rfl rfl (hb hby hd)
  subst e'
  exact (hr T' _ X' (Fr.snoc X' N hn) (A'.set W') W').step fun t k => st' t k
theorem newarr (X : Stand p l e R s m args below meth c T locs cells slots) (hx : p.tables.exec = Jvm.exec) (hby : c.code = bs) (hZ : Z.Warmed39 s.vm) {aty : ArrayType} (w : (Jvm.Cond.arrayClass (newarray.typeOf aty)).before a0 Z = true) (hdv : defaultValue (newarray.typeOf aty) = .int 0) {n : Int32} (hn : ¬ n < 0) (cap : Nat) (hcap : n.toNatClampNeg ≤ cap) (hcb : cap * 8 ≤ 536870912) (hc : cells + 1 ≤ R.cells) (hl : slots + cap ≤ R.slots) (hd : decode bs pc = .ok (.newarray aty, 2)) (hp : pc + 2 = pn)
    (hr : ∀ (T' : State), Stand p l e R s m args below meth c T' locs (cells + 1) (slots + cap) → Ext T.heap T'.heap → Ia Z T'.heap T.heap.size (newarray.typeOf aty) (List.replicate n.toNatClampNeg 0) → Go p.tables e below Q (T'.setTop (mkF m pn ls (.ref T.heap.size :: st)))) : Go p.tables e below Q (T.setTop (mkF m pc ls (.int n :: st))) := by
  subst hp
  obtain ⟨T', h', cA, X', e', E', A', st'⟩ := newP X hx hZ w rfl (g := mkF m pc ls (.int n :: st)) rfl (hb hby hd) rfl hn hcap hcb hc hl
  subst e'
  exact (hr T' X' E' (Ia.new A' hdv)).step fun t k => st' t k
theorem arrlen (X : Stand p l e R s m args below meth c T locs cells slots) (hx : p.tables.exec = Jvm.exec) (hby : c.code = bs) (hZ : Z.Warmed39 s.vm) (A : Ia Z T.heap a ty xs) {v : Int32} (hv : xs.length.toInt32 = v) (hd : decode bs pc = .ok (.arraylength, 1)) (hp : pc + 1 = pn)
    (hr : Go p.tables e below Q (T.setTop (mkF m pn ls (.int v :: st)))) : Go p.tables e below Q (T.setTop (mkF m pc ls (.ref a :: st))) := by
  subst hp
  obtain ⟨cl, Ar, r⟩ := A
  subst hv
  rw [← Ia.size r] at hr
  exact hr.step fun t k => X.arraylength hx Ar.1 (State.isArrayOf_alike hZ.alike Ar.2.1) (g := mkF m pc ls (.ref a :: st)) rfl rfl (hb hby hd) t k
theorem getst (X : Stand p l e R s m args below meth c T locs cells slots) (hx : p.tables.exec = Jvm.exec) (hby : c.code = bs) (hZ : Z.Warmed39 s.vm) {own C n d : String} {index : Nat} {v : Value} (hown : s.vm.findClass own = some m.cls) (w : (Jvm.Cond.fieldLink own index C n d).before a0 Z = true) (F : Sta Z T.heap C n d v) (hd : decode bs pc = .ok (.getstatic index, 3)) (hp : pc + 3 = pn)
    (hr : ∀ (T' : State), Stand p l e R s m args below meth c T' locs cells slots → T'.heap = T.heap → Go p.tables e below Q (T'.setTop (mkF m pn ls (v :: st)))) : Go p.tables e below Q (T.setTop (mkF m pc ls st)) := by
  subst hp
  obtain ⟨T', X', e', st'⟩ := getS X hx hZ hown (host := "") w Via.refl rfl F (g := mkF m pc ls st) rfl (hb hby hd)
  exact (hr T' X' e').step fun t k => st' t k
end Arrays
end Jvm.OwnGo
namespace Jvm.Pilot.@@N@@
open Jvm Jvm.ClassFile Sem Op Lib Jvm.Free Jvm.Stand Jvm.LawKit Jvm.RoadKit Bundle Jvm.Pilot.@@N@@.Jvm.D
theorem pd_0 : parseMethodDescriptor "([BIZJ)V" = some ⟨[(.array .byte), .int, .boolean, .long], none⟩ := by decide +kernel
theorem pd_1 : parseMethodDescriptor "(J)B" = some ⟨[.long], some .byte⟩ := by decide +kernel
theorem pd_2 : parseMethodDescriptor "([BII)I" = some ⟨[(.array .byte), .int, .int], some .int⟩ := by decide +kernel
theorem pd_3 : parseMethodDescriptor "([BIII)Z" = some ⟨[(.array .byte), .int, .int, .int], some .boolean⟩ := by decide +kernel
theorem pd_4 : parseMethodDescriptor "([BIII)I" = some ⟨[(.array .byte), .int, .int, .int], some .int⟩ := by decide +kernel
theorem pd_5 : parseMethodDescriptor "(II)I" = some ⟨[.int, .int], some .int⟩ := by decide +kernel
theorem pd_6 : parseMethodDescriptor "(B)Z" = some ⟨[.byte], some .boolean⟩ := by decide +kernel
theorem pd_7 : parseMethodDescriptor "(IJIII)Z" = some ⟨[.int, .long, .int, .int, .int], some .boolean⟩ := by decide +kernel
theorem own_ix (p c : Int32) (d : Int) (hc : c.toInt = d) (d0 : 0 ≤ d) (hp : d ≤ p.toInt) (h7 : p.toInt ≤ 7 + d) : ¬ (p - c) < 0 ∧ (p - c).toNatClampNeg < 8 ∧ ((p - c).toNatClampNeg : Int) = p.toInt - d := by
  have k := c_isub p c
  have k1 := (p - c).toInt_lt
  have k2 := (p - c).le_toInt
  have e : (p - c).toInt = p.toInt - d := by omega
  have n : (p - c).toNatClampNeg = (p - c).toInt.toNat := rfl
  refine ⟨?_, by omega, by omega⟩
  rw [Int32.lt_iff_toInt_lt, e]; simp only [Int32.reduceToInt]; omega
theorem own_iy (p c : Int32) (d : Int) (hc : c.toInt = d) (hp : 0 ≤ p.toInt + d) (h7 : p.toInt + d ≤ 7) : ¬ (p + c) < 0 ∧ (p + c).toNatClampNeg < 8 ∧ ((p + c).toNatClampNeg : Int) = p.toInt + d := by
  have k := c_iadd p c
  have k1 := (p + c).toInt_lt
  have k2 := (p + c).le_toInt
  have e : (p + c).toInt = p.toInt + d := by omega
  have n : (p + c).toNatClampNeg = (p + c).toInt.toNat := rfl
  refine ⟨?_, by omega, by omega⟩
  rw [Int32.lt_iff_toInt_lt, e]; simp only [Int32.reduceToInt]; omega
theorem own_i0 (p : Int32) (hp : 0 ≤ p.toInt) (h7 : p.toInt ≤ 7) : ¬ p < 0 ∧ p.toNatClampNeg < 8 ∧ (p.toNatClampNeg : Int) = p.toInt := by
  have n : p.toNatClampNeg = p.toInt.toNat := rfl
  refine ⟨?_, by omega, by omega⟩
  rw [Int32.lt_iff_toInt_lt]; simp only [Int32.reduceToInt]; omega
def own_safe_34 (v2 : Int32) : Int32 := (v2.toInt8.toInt32)
def own_safe (q0 : Int64) : Int32 := (if ((q0 &&& (255 : Int64)).toInt32) = (127 : Int32) then (126 : Int32) else (if ((q0 &&& (255 : Int64)).toInt32) < (32 : Int32) then (if ((q0 &&& (255 : Int64)).toInt32) = (9 : Int32) then (own_safe_34 ((q0 &&& (255 : Int64)).toInt32)) else ((((q0 &&& (255 : Int64)).toInt32) + (32 : Int32)).toInt8.toInt32)) else (own_safe_34 ((q0 &&& (255 : Int64)).toInt32))))
theorem d2_0 : decode method_4_code 0 = .ok (.lload_n 0, 1) := by decide +kernel
theorem d2_1 : decode method_4_code 1 = .ok (.ldc2_w 28, 3) := by decide +kernel
theorem d2_4 : decode method_4_code 4 = .ok (.land, 1) := by decide +kernel
theorem d2_5 : decode method_4_code 5 = .ok (.l2i, 1) := by decide +kernel
theorem d2_6 : decode method_4_code 6 = .ok (.istore_n 2, 1) := by decide +kernel
theorem d2_7 : decode method_4_code 7 = .ok (.iload_n 2, 1) := by decide +kernel
theorem d2_8 : decode method_4_code 8 = .ok (.bipush 127, 2) := by decide +kernel
theorem d2_10 : decode method_4_code 10 = .ok (.if_icmp .ne 6, 3) := by decide +kernel
theorem d2_13 : decode method_4_code 13 = .ok (.bipush 126, 2) := by decide +kernel
theorem d2_15 : decode method_4_code 15 = .ok (.ireturn, 1) := by decide +kernel
theorem d2_16 : decode method_4_code 16 = .ok (.iload_n 2, 1) := by decide +kernel
theorem d2_17 : decode method_4_code 17 = .ok (.bipush 32, 2) := by decide +kernel
theorem d2_19 : decode method_4_code 19 = .ok (.if_icmp .ge 15, 3) := by decide +kernel
theorem d2_22 : decode method_4_code 22 = .ok (.iload_n 2, 1) := by decide +kernel
theorem d2_23 : decode method_4_code 23 = .ok (.bipush 9, 2) := by decide +kernel
theorem d2_25 : decode method_4_code 25 = .ok (.if_icmp .eq 9, 3) := by decide +kernel
theorem d2_28 : decode method_4_code 28 = .ok (.iload_n 2, 1) := by decide +kernel
theorem d2_29 : decode method_4_code 29 = .ok (.bipush 32, 2) := by decide +kernel
theorem d2_31 : decode method_4_code 31 = .ok (.iadd, 1) := by decide +kernel
theorem d2_32 : decode method_4_code 32 = .ok (.i2b, 1) := by decide +kernel
theorem d2_33 : decode method_4_code 33 = .ok (.ireturn, 1) := by decide +kernel
theorem d2_34 : decode method_4_code 34 = .ok (.iload_n 2, 1) := by decide +kernel
theorem d2_35 : decode method_4_code 35 = .ok (.i2b, 1) := by decide +kernel
theorem d2_36 : decode method_4_code 36 = .ok (.ireturn, 1) := by decide +kernel
theorem pn_0 : plainName "tenantry/RequestHeadEndPinLaw" = true := by first | (simp [plainName, overriddenIn]; done) | decide +kernel
theorem ef_2 (m : MethodId) (q0 : Int64) : entryFrame m #[(.long q0)] 3 = mkF m 0 #[.val (.long q0), .second, .unset] [] := by first | (simp [entryFrame, mkF, argsToLocals, Value.category]; done) | rfl
set_option maxRecDepth 65536 in
set_option maxHeartbeats 40000000 in
theorem rm_own_safe (l : Launch) (Z : State) (a0 : Array Value) (hw : ∀ d ∈ tables_1, d.before a0 Z = true) (q0 : Int64) (h0 : Heap) :
    OwnGo.Con l (⟨"tenantry/RequestHeadEndPinLaw", "safe", "(J)B"⟩ : MethodName) method_4_code 3 (some .byte) (OwnGo.rmP 0 0) Z #[(.long q0)] h0 (OwnGo.PureQ (.int (own_safe q0)) h0) := by
  refine OwnGo.Con.intro (plainFor_of_name pn_0) ?_
  intro p e s m below meth c T0 X0 hx hby hml hZ hown hnm hret hlk e0
  refine OwnGo.Go.cast (ef_2 m q0) ?_
  obtain ⟨r, hr⟩ : ∃ r, own_safe q0 = r := ⟨_, rfl⟩
  rw [hr]
  have hfin : OwnGo.PureQ (.int r) h0 (some (.int r)) h0 [] := ⟨rfl, rfl, rfl⟩
  have B34 : ∀ (T0 : State) (X0 : Stand p l e (OwnGo.rmP 0 0) s m #[(.long q0)] below meth c T0 [] 0 0) (e0 : T0.heap = h0) (v2 : Int32), own_safe_34 v2 = r → OwnGo.Go p.tables e below (OwnGo.Qe s (OwnGo.rmP 0 0) (OwnGo.PureQ (.int r) h0)) (T0.setTop (mkF m 34 #[.val (.long q0), .second, .val (.int v2)] [])) := by
    intro T0 X0 e0 v2 hr
    unfold own_safe_34 at hr
    have W0 : OwnGo.Wk p.tables T0 m c below method_4_code := ⟨X0.here, hx, hby⟩
    refine OwnGo.iloadN W0 (pn := 35) d2_34 rfl rfl ?_
    refine OwnGo.i2b W0 (pn := 36) d2_35 rfl ?_
    exact OwnGo.ireturn X0 hx hby hret hlk (XT.narrow_b _) (by simp) d2_36 (OwnGo.fin_of hr e0 hfin) (by decide) (by decide)
  unfold own_safe at hr
  have W0 : OwnGo.Wk p.tables T0 m c below method_4_code := ⟨X0.here, hx, hby⟩
  refine OwnGo.lloadN W0 (pn := 1) d2_0 rfl rfl ?_
  refine OwnGo.ldc2J X0 hx hby hZ hown (pn := 4) (hw _ (List.mem_of_getElem? (i := 8) rfl)) d2_1 rfl ?_
  refine OwnGo.land W0 (pn := 5) d2_4 rfl ?_
  refine OwnGo.l2i W0 (pn := 6) d2_5 rfl ?_
  refine OwnGo.istoreN W0 (pn := 7) (l' := #[.val (.long q0), .second, .val (.int ((q0 &&& (255 : Int64)).toInt32))]) d2_6 rfl rfl ?_
  refine OwnGo.iloadN W0 (pn := 8) d2_7 rfl rfl ?_
  refine OwnGo.bipush (v := (127 : Int32)) W0 (pn := 10) d2_8 rfl rfl ?_
  refine OwnGo.icmp_ne W0 (pn := 13) (pt := 16) d2_10 rfl (by decide) (by decide) (fun h10 => ?_) (fun h10 => ?_)
  · rw [if_pos h10] at hr
    refine OwnGo.bipush (v := (126 : Int32)) W0 (pn := 15) d2_13 rfl rfl ?_
    exact OwnGo.ireturn X0 hx hby hret hlk rfl (by simp) d2_15 (OwnGo.fin_of hr e0 hfin) (by decide) (by decide)
  · rw [if_neg h10] at hr
    refine OwnGo.iloadN W0 (pn := 17) d2_16 rfl rfl ?_
    refine OwnGo.bipush (v := (32 : Int32)) W0 (pn := 19) d2_17 rfl rfl ?_
    refine OwnGo.icmp_ge W0 (pn := 22) (pt := 34) d2_19 rfl (by decide) (by decide) (fun h19 => ?_) (fun h19 => ?_)
    · rw [if_pos h19] at hr
      refine OwnGo.iloadN W0 (pn := 23) d2_22 rfl rfl ?_
      refine OwnGo.bipush (v := (9 : Int32)) W0 (pn := 25) d2_23 rfl rfl ?_
      refine OwnGo.icmp_eq W0 (pn := 28) (pt := 34) d2_25 rfl (by decide) (by decide) (fun h25 => ?_) (fun h25 => ?_)
      · rw [if_pos h25] at hr
        exact B34 _ X0 e0 (((q0 &&& (255 : Int64)).toInt32)) hr
      · rw [if_neg h25] at hr
        refine OwnGo.iloadN W0 (pn := 29) d2_28 rfl rfl ?_
        refine OwnGo.bipush (v := (32 : Int32)) W0 (pn := 31) d2_29 rfl rfl ?_
        refine OwnGo.iadd W0 (pn := 32) d2_31 rfl ?_
        refine OwnGo.i2b W0 (pn := 33) d2_32 rfl ?_
        exact OwnGo.ireturn X0 hx hby hret hlk (XT.narrow_b _) (by simp) d2_33 (OwnGo.fin_of hr e0 hfin) (by decide) (by decide)
    · rw [if_neg h19] at hr
      exact B34 _ X0 e0 (((q0 &&& (255 : Int64)).toInt32)) hr
def own_ends_54 : Int32 := (0 : Int32)
def own_ends (xs : List Int32) (p1 : Int32) (p2 : Int32) (p3 : Int32) : Int32 := (if (p3 - (3 : Int32)) < p1 then (own_ends_54) else (if p3 < p2 then (if (xs.getD ((p3 - (3 : Int32))).toNatClampNeg 0) = (13 : Int32) then (if (xs.getD ((p3 - (2 : Int32))).toNatClampNeg 0) = (10 : Int32) then (if (xs.getD ((p3 - (1 : Int32))).toNatClampNeg 0) = (13 : Int32) then (if (xs.getD (p3).toNatClampNeg 0) = (10 : Int32) then (1 : Int32) else (own_ends_54)) else (own_ends_54)) else (own_ends_54)) else (own_ends_54)) else (own_ends_54)))
theorem d4_0 : decode method_5_code 0 = .ok (.iload_n 3, 1) := by decide +kernel
theorem d4_1 : decode method_5_code 1 = .ok (.iconst 3, 1) := by decide +kernel
theorem d4_2 : decode method_5_code 2 = .ok (.isub, 1) := by decide +kernel
theorem d4_3 : decode method_5_code 3 = .ok (.iload_n 1, 1) := by decide +kernel
theorem d4_4 : decode method_5_code 4 = .ok (.if_icmp .lt 50, 3) := by decide +kernel
theorem d4_7 : decode method_5_code 7 = .ok (.iload_n 3, 1) := by decide +kernel
theorem d4_8 : decode method_5_code 8 = .ok (.iload_n 2, 1) := by decide +kernel
theorem d4_9 : decode method_5_code 9 = .ok (.if_icmp .ge 45, 3) := by decide +kernel
theorem d4_12 : decode method_5_code 12 = .ok (.aload_n 0, 1) := by decide +kernel
theorem d4_13 : decode method_5_code 13 = .ok (.iload_n 3, 1) := by decide +kernel
theorem d4_14 : decode method_5_code 14 = .ok (.iconst 3, 1) := by decide +kernel
theorem d4_15 : decode method_5_code 15 = .ok (.isub, 1) := by decide +kernel
theorem d4_16 : decode method_5_code 16 = .ok (.baload, 1) := by decide +kernel
theorem d4_17 : decode method_5_code 17 = .ok (.bipush 13, 2) := by decide +kernel
theorem d4_19 : decode method_5_code 19 = .ok (.if_icmp .ne 35, 3) := by decide +kernel
theorem d4_22 : decode method_5_code 22 = .ok (.aload_n 0, 1) := by decide +kernel
theorem d4_23 : decode method_5_code 23 = .ok (.iload_n 3, 1) := by decide +kernel
theorem d4_24 : decode method_5_code 24 = .ok (.iconst 2, 1) := by decide +kernel
theorem d4_25 : decode method_5_code 25 = .ok (.isub, 1) := by decide +kernel
theorem d4_26 : decode method_5_code 26 = .ok (.baload, 1) := by decide +kernel
theorem d4_27 : decode method_5_code 27 = .ok (.bipush 10, 2) := by decide +kernel
theorem d4_29 : decode method_5_code 29 = .ok (.if_icmp .ne 25, 3) := by decide +kernel
theorem d4_32 : decode method_5_code 32 = .ok (.aload_n 0, 1) := by decide +kernel
theorem d4_33 : decode method_5_code 33 = .ok (.iload_n 3, 1) := by decide +kernel
theorem d4_34 : decode method_5_code 34 = .ok (.iconst 1, 1) := by decide +kernel
theorem d4_35 : decode method_5_code 35 = .ok (.isub, 1) := by decide +kernel
theorem d4_36 : decode method_5_code 36 = .ok (.baload, 1) := by decide +kernel
theorem d4_37 : decode method_5_code 37 = .ok (.bipush 13, 2) := by decide +kernel
theorem d4_39 : decode method_5_code 39 = .ok (.if_icmp .ne 15, 3) := by decide +kernel
theorem d4_42 : decode method_5_code 42 = .ok (.aload_n 0, 1) := by decide +kernel
theorem d4_43 : decode method_5_code 43 = .ok (.iload_n 3, 1) := by decide +kernel
theorem d4_44 : decode method_5_code 44 = .ok (.baload, 1) := by decide +kernel
theorem d4_45 : decode method_5_code 45 = .ok (.bipush 10, 2) := by decide +kernel
theorem d4_47 : decode method_5_code 47 = .ok (.if_icmp .ne 7, 3) := by decide +kernel
theorem d4_50 : decode method_5_code 50 = .ok (.iconst 1, 1) := by decide +kernel
theorem d4_51 : decode method_5_code 51 = .ok (.goto 4, 3) := by decide +kernel
theorem d4_54 : decode method_5_code 54 = .ok (.iconst 0, 1) := by decide +kernel
theorem d4_55 : decode method_5_code 55 = .ok (.ireturn, 1) := by decide +kernel
theorem ef_4 (m : MethodId) (a : Addr) (p1 : Int32) (p2 : Int32) (p3 : Int32) : entryFrame m #[(.ref a), (.int p1), (.int p2), (.int p3)] 4 = mkF m 0 #[.val (.ref a), .val (.int p1), .val (.int p2), .val (.int p3)] [] := by first | (simp [entryFrame, mkF, argsToLocals, Value.category]; done) | rfl
set_option maxRecDepth 65536 in
set_option maxHeartbeats 40000000 in
theorem rm_own_ends (l : Launch) (Z : State) (a0 : Array Value) (hw : ∀ d ∈ tables_1, d.before a0 Z = true) (a : Addr) (p1 : Int32) (p2 : Int32) (p3 : Int32) (xs : List Int32) (h0 : Heap) (A : OwnGo.Ia Z h0 a .byte xs) (hlen : xs.length = 8) (h3 : 3 ≤ p3.toInt) (h7 : p3.toInt ≤ 7) :
    OwnGo.Con l (⟨"tenantry/RequestHeadEndPinLaw", "endsAt", "([BIII)Z"⟩ : MethodName) method_5_code 4 (some .boolean) (OwnGo.rmP 0 0) Z #[(.ref a), (.int p1), (.int p2), (.int p3)] h0 (OwnGo.PureQ (.int (own_ends xs p1 p2 p3)) h0) := by
  refine OwnGo.Con.intro (plainFor_of_name pn_0) ?_
  intro p e s m below meth c T0 X0 hx hby hml hZ hown hnm hret hlk e0
  refine OwnGo.Go.cast (ef_4 m a p1 p2 p3) ?_
  obtain ⟨r, hr⟩ : ∃ r, own_ends xs p1 p2 p3 = r := ⟨_, rfl⟩
  rw [hr]
  have hfin : OwnGo.PureQ (.int r) h0 (some (.int r)) h0 [] := ⟨rfl, rfl, rfl⟩
  have B54 : ∀ (T0 : State) (X0 : Stand p l e (OwnGo.rmP 0 0) s m #[(.ref a), (.int p1), (.int p2), (.int p3)] below meth c T0 [] 0 0) (e0 : T0.heap = h0), own_ends_54 = r → OwnGo.Go p.tables e below (OwnGo.Qe s (OwnGo.rmP 0 0) (OwnGo.PureQ (.int r) h0)) (T0.setTop (mkF m 54 #[.val (.ref a), .val (.int p1), .val (.int p2), .val (.int p3)] [])) := by
    intro T0 X0 e0 hr
    unfold own_ends_54 at hr
    have W0 : OwnGo.Wk p.tables T0 m c below method_5_code := ⟨X0.here, hx, hby⟩
    refine OwnGo.iconst (v := (0 : Int32)) W0 (pn := 55) d4_54 rfl rfl ?_
    exact OwnGo.ireturn X0 hx hby hret hlk rfl (by simp) d4_55 (OwnGo.fin_of hr e0 hfin) (by decide) (by decide)
  unfold own_ends at hr
  have W0 : OwnGo.Wk p.tables T0 m c below method_5_code := ⟨X0.here, hx, hby⟩
  refine OwnGo.iloadN W0 (pn := 1) d4_0 rfl rfl ?_
  refine OwnGo.iconst (v := (3 : Int32)) W0 (pn := 2) d4_1 rfl rfl ?_
  refine OwnGo.isub W0 (pn := 3) d4_2 rfl ?_
  refine OwnGo.iloadN W0 (pn := 4) d4_3 rfl rfl ?_
  refine OwnGo.icmp_lt W0 (pn := 7) (pt := 54) d4_4 rfl (by decide) (by decide) (fun h4 => ?_) (fun h4 => ?_)
  · rw [if_pos h4] at hr
    exact B54 _ X0 e0 hr
  · rw [if_neg h4] at hr
    refine OwnGo.iloadN W0 (pn := 8) d4_7 rfl rfl ?_
    refine OwnGo.iloadN W0 (pn := 9) d4_8 rfl rfl ?_
    refine OwnGo.icmp_ge W0 (pn := 12) (pt := 54) d4_9 rfl (by decide) (by decide) (fun h9 => ?_) (fun h9 => ?_)
    · rw [if_pos h9] at hr
      refine OwnGo.aloadN W0 (pn := 13) d4_12 rfl rfl rfl ?_
      refine OwnGo.iloadN W0 (pn := 14) d4_13 rfl rfl ?_
      refine OwnGo.iconst (v := (3 : Int32)) W0 (pn := 15) d4_14 rfl rfl ?_
      refine OwnGo.isub W0 (pn := 16) d4_15 rfl ?_
      refine OwnGo.baloadB X0 hx hby hZ (pn := 17) (by rw [e0]; exact A : OwnGo.Ia Z _ a .byte xs) (own_ix p3 3 3 (by decide) (by decide) (by omega) (by omega)).1 (OwnGo.getD_of (by rw [hlen]; exact (own_ix p3 3 3 (by decide) (by decide) (by omega) (by omega)).2.1)) d4_16 rfl ?_
      refine OwnGo.bipush (v := (13 : Int32)) W0 (pn := 19) d4_17 rfl rfl ?_
      refine OwnGo.icmp_ne W0 (pn := 22) (pt := 54) d4_19 rfl (by decide) (by decide) (fun h19 => ?_) (fun h19 => ?_)
      · rw [if_pos h19] at hr
        refine OwnGo.aloadN W0 (pn := 23) d4_22 rfl rfl rfl ?_
        refine OwnGo.iloadN W0 (pn := 24) d4_23 rfl rfl ?_
        refine OwnGo.iconst (v := (2 : Int32)) W0 (pn := 25) d4_24 rfl rfl ?_
        refine OwnGo.isub W0 (pn := 26) d4_25 rfl ?_
        refine OwnGo.baloadB X0 hx hby hZ (pn := 27) (by rw [e0]; exact A : OwnGo.Ia Z _ a .byte xs) (own_ix p3 2 2 (by decide) (by decide) (by omega) (by omega)).1 (OwnGo.getD_of (by rw [hlen]; exact (own_ix p3 2 2 (by decide) (by decide) (by omega) (by omega)).2.1)) d4_26 rfl ?_
        refine OwnGo.bipush (v := (10 : Int32)) W0 (pn := 29) d4_27 rfl rfl ?_
        refine OwnGo.icmp_ne W0 (pn := 32) (pt := 54) d4_29 rfl (by decide) (by decide) (fun h29 => ?_) (fun h29 => ?_)
        · rw [if_pos h29] at hr
          refine OwnGo.aloadN W0 (pn := 33) d4_32 rfl rfl rfl ?_
          refine OwnGo.iloadN W0 (pn := 34) d4_33 rfl rfl ?_
          refine OwnGo.iconst (v := (1 : Int32)) W0 (pn := 35) d4_34 rfl rfl ?_
          refine OwnGo.isub W0 (pn := 36) d4_35 rfl ?_
          refine OwnGo.baloadB X0 hx hby hZ (pn := 37) (by rw [e0]; exact A : OwnGo.Ia Z _ a .byte xs) (own_ix p3 1 1 (by decide) (by decide) (by omega) (by omega)).1 (OwnGo.getD_of (by rw [hlen]; exact (own_ix p3 1 1 (by decide) (by decide) (by omega) (by omega)).2.1)) d4_36 rfl ?_
          refine OwnGo.bipush (v := (13 : Int32)) W0 (pn := 39) d4_37 rfl rfl ?_
          refine OwnGo.icmp_ne W0 (pn := 42) (pt := 54) d4_39 rfl (by decide) (by decide) (fun h39 => ?_) (fun h39 => ?_)
          · rw [if_pos h39] at hr
            refine OwnGo.aloadN W0 (pn := 43) d4_42 rfl rfl rfl ?_
            refine OwnGo.iloadN W0 (pn := 44) d4_43 rfl rfl ?_
            refine OwnGo.baloadB X0 hx hby hZ (pn := 45) (by rw [e0]; exact A : OwnGo.Ia Z _ a .byte xs) (own_i0 p3 (by omega) (by omega)).1 (OwnGo.getD_of (by rw [hlen]; exact (own_i0 p3 (by omega) (by omega)).2.1)) d4_44 rfl ?_
            refine OwnGo.bipush (v := (10 : Int32)) W0 (pn := 47) d4_45 rfl rfl ?_
            refine OwnGo.icmp_ne W0 (pn := 50) (pt := 54) d4_47 rfl (by decide) (by decide) (fun h47 => ?_) (fun h47 => ?_)
            · rw [if_pos h47] at hr
              refine OwnGo.iconst (v := (1 : Int32)) W0 (pn := 51) d4_50 rfl rfl ?_
              refine OwnGo.goto W0 (pt := 55) d4_51 (by decide) (by decide) ?_
              exact OwnGo.ireturn X0 hx hby hret hlk rfl (by simp) d4_55 (OwnGo.fin_of hr e0 hfin) (by decide) (by decide)
            · rw [if_neg h47] at hr
              exact B54 _ X0 e0 hr
          · rw [if_neg h39] at hr
            exact B54 _ X0 e0 hr
        · rw [if_neg h29] at hr
          exact B54 _ X0 e0 hr
      · rw [if_neg h19] at hr
        exact B54 _ X0 e0 hr
    · rw [if_neg h9] at hr
      exact B54 _ X0 e0 hr
def own_first (xs : List Int32) (p1 : Int32) (p2 : Int32) : Int32 := (if (own_ends xs p1 p2 (3 : Int32)) = (0 : Int32) then (if (own_ends xs p1 p2 (4 : Int32)) = (0 : Int32) then (if (own_ends xs p1 p2 (5 : Int32)) = (0 : Int32) then (if (own_ends xs p1 p2 (6 : Int32)) = (0 : Int32) then (if (own_ends xs p1 p2 (7 : Int32)) = (0 : Int32) then (-1 : Int32) else (8 : Int32)) else (7 : Int32)) else (6 : Int32)) else (5 : Int32)) else (4 : Int32))
theorem d3_0 : decode method_6_code 0 = .ok (.aload_n 0, 1) := by decide +kernel
theorem d3_1 : decode method_6_code 1 = .ok (.iload_n 1, 1) := by decide +kernel
theorem d3_2 : decode method_6_code 2 = .ok (.iload_n 2, 1) := by decide +kernel
theorem d3_3 : decode method_6_code 3 = .ok (.iconst 3, 1) := by decide +kernel
theorem d3_4 : decode method_6_code 4 = .ok (.invokestatic 30, 3) := by decide +kernel
theorem d3_7 : decode method_6_code 7 = .ok (.ifCond .eq 5, 3) := by decide +kernel
theorem d3_10 : decode method_6_code 10 = .ok (.iconst 4, 1) := by decide +kernel
theorem d3_11 : decode method_6_code 11 = .ok (.ireturn, 1) := by decide +kernel
theorem d3_12 : decode method_6_code 12 = .ok (.aload_n 0, 1) := by decide +kernel
theorem d3_13 : decode method_6_code 13 = .ok (.iload_n 1, 1) := by decide +kernel
theorem d3_14 : decode method_6_code 14 = .ok (.iload_n 2, 1) := by decide +kernel
theorem d3_15 : decode method_6_code 15 = .ok (.iconst 4, 1) := by decide +kernel
theorem d3_16 : decode method_6_code 16 = .ok (.invokestatic 30, 3) := by decide +kernel
theorem d3_19 : decode method_6_code 19 = .ok (.ifCond .eq 5, 3) := by decide +kernel
theorem d3_22 : decode method_6_code 22 = .ok (.iconst 5, 1) := by decide +kernel
theorem d3_23 : decode method_6_code 23 = .ok (.ireturn, 1) := by decide +kernel
theorem d3_24 : decode method_6_code 24 = .ok (.aload_n 0, 1) := by decide +kernel
theorem d3_25 : decode method_6_code 25 = .ok (.iload_n 1, 1) := by decide +kernel
theorem d3_26 : decode method_6_code 26 = .ok (.iload_n 2, 1) := by decide +kernel
theorem d3_27 : decode method_6_code 27 = .ok (.iconst 5, 1) := by decide +kernel
theorem d3_28 : decode method_6_code 28 = .ok (.invokestatic 30, 3) := by decide +kernel
theorem d3_31 : decode method_6_code 31 = .ok (.ifCond .eq 6, 3) := by decide +kernel
theorem d3_34 : decode method_6_code 34 = .ok (.bipush 6, 2) := by decide +kernel
theorem d3_36 : decode method_6_code 36 = .ok (.ireturn, 1) := by decide +kernel
theorem d3_37 : decode method_6_code 37 = .ok (.aload_n 0, 1) := by decide +kernel
theorem d3_38 : decode method_6_code 38 = .ok (.iload_n 1, 1) := by decide +kernel
theorem d3_39 : decode method_6_code 39 = .ok (.iload_n 2, 1) := by decide +kernel
theorem d3_40 : decode method_6_code 40 = .ok (.bipush 6, 2) := by decide +kernel
theorem d3_42 : decode method_6_code 42 = .ok (.invokestatic 30, 3) := by decide +kernel
theorem d3_45 : decode method_6_code 45 = .ok (.ifCond .eq 6, 3) := by decide +kernel
theorem d3_48 : decode method_6_code 48 = .ok (.bipush 7, 2) := by decide +kernel
theorem d3_50 : decode method_6_code 50 = .ok (.ireturn, 1) := by decide +kernel
theorem d3_51 : decode method_6_code 51 = .ok (.aload_n 0, 1) := by decide +kernel
theorem d3_52 : decode method_6_code 52 = .ok (.iload_n 1, 1) := by decide +kernel
theorem d3_53 : decode method_6_code 53 = .ok (.iload_n 2, 1) := by decide +kernel
theorem d3_54 : decode method_6_code 54 = .ok (.bipush 7, 2) := by decide +kernel
theorem d3_56 : decode method_6_code 56 = .ok (.invokestatic 30, 3) := by decide +kernel
theorem d3_59 : decode method_6_code 59 = .ok (.ifCond .eq 6, 3) := by decide +kernel
theorem d3_62 : decode method_6_code 62 = .ok (.bipush 8, 2) := by decide +kernel
theorem d3_64 : decode method_6_code 64 = .ok (.ireturn, 1) := by decide +kernel
theorem d3_65 : decode method_6_code 65 = .ok (.iconst (-1), 1) := by decide +kernel
theorem d3_66 : decode method_6_code 66 = .ok (.ireturn, 1) := by decide +kernel
theorem ef_3 (m : MethodId) (a : Addr) (p1 : Int32) (p2 : Int32) : entryFrame m #[(.ref a), (.int p1), (.int p2)] 3 = mkF m 0 #[.val (.ref a), .val (.int p1), .val (.int p2)] [] := by first | (simp [entryFrame, mkF, argsToLocals, Value.category]; done) | rfl
set_option maxRecDepth 65536 in
set_option maxHeartbeats 40000000 in
theorem rm_own_first (l : Launch) (Z : State) (a0 : Array Value) (hw : ∀ d ∈ tables_1, d.before a0 Z = true) (a : Addr) (p1 : Int32) (p2 : Int32) (xs : List Int32) (h0 : Heap) (A : OwnGo.Ia Z h0 a .byte xs) (hlen : xs.length = 8) :
    OwnGo.Con l (⟨"tenantry/RequestHeadEndPinLaw", "firstEnd", "([BII)I"⟩ : MethodName) method_6_code 3 (some .int) (OwnGo.rmP 1 23) Z #[(.ref a), (.int p1), (.int p2)] h0 (OwnGo.PureQ (.int (own_first xs p1 p2)) h0) := by
  refine OwnGo.Con.intro (plainFor_of_name pn_0) ?_
  intro p e s m below meth c T0 X0 hx hby hml hZ hown hnm hret hlk e0
  refine OwnGo.Go.cast (ef_3 m a p1 p2) ?_
  obtain ⟨r, hr⟩ : ∃ r, own_first xs p1 p2 = r := ⟨_, rfl⟩
  rw [hr]
  have hfin : OwnGo.PureQ (.int r) h0 (some (.int r)) h0 [] := ⟨rfl, rfl, rfl⟩
  unfold own_first at hr
  have W0 : OwnGo.Wk p.tables T0 m c below method_6_code := ⟨X0.here, hx, hby⟩
  refine OwnGo.aloadN W0 (pn := 1) d3_0 rfl rfl rfl ?_
  refine OwnGo.iloadN W0 (pn := 2) d3_1 rfl rfl ?_
  refine OwnGo.iloadN W0 (pn := 3) d3_2 rfl rfl ?_
  refine OwnGo.iconst (v := (3 : Int32)) W0 (pn := 4) d3_3 rfl rfl ?_
  refine OwnGo.callP X0 hx hby hZ hown (argsL := [(.ref a), (.int p1), (.int p2), (.int (3 : Int32))]) (rest := []) (pn := 7) (hw _ (List.mem_of_getElem? (i := 13) rfl)) (hw _ (List.mem_of_getElem? (i := 14) rfl)) (hw _ (List.mem_of_getElem? (i := 3) rfl)) (hw _ (List.mem_of_getElem? (i := 15) rfl)) (by decide) (rm_own_ends l Z a0 hw a p1 p2 (3 : Int32) xs _ (by rw [e0]; exact A) hlen (by decide) (by decide)) (by decide) (Nat.le_of_ble_eq_true rfl) (by decide) (by decide) (lenOf pd_3 rfl) (by rw [hml]; rfl) rfl d3_4 rfl (fun T1 X1 f1 => ?_)
  have e1 := f1.trans e0
  have W1 : OwnGo.Wk p.tables T1 m c below method_6_code := ⟨X1.here, hx, hby⟩
  refine OwnGo.if_eq W1 (pn := 10) (pt := 12) d3_7 rfl (by decide) (by decide) (fun h7 => ?_) (fun h7 => ?_)
  · rw [if_pos h7] at hr
    refine OwnGo.aloadN W1 (pn := 13) d3_12 rfl rfl rfl ?_
    refine OwnGo.iloadN W1 (pn := 14) d3_13 rfl rfl ?_
    refine OwnGo.iloadN W1 (pn := 15) d3_14 rfl rfl ?_
    refine OwnGo.iconst (v := (4 : Int32)) W1 (pn := 16) d3_15 rfl rfl ?_
    refine OwnGo.callP X1 hx hby hZ hown (argsL := [(.ref a), (.int p1), (.int p2), (.int (4 : Int32))]) (rest := []) (pn := 19) (hw _ (List.mem_of_getElem? (i := 13) rfl)) (hw _ (List.mem_of_getElem? (i := 14) rfl)) (hw _ (List.mem_of_getElem? (i := 3) rfl)) (hw _ (List.mem_of_getElem? (i := 15) rfl)) (by decide) (rm_own_ends l Z a0 hw a p1 p2 (4 : Int32) xs _ (by rw [e1]; exact A) hlen (by decide) (by decide)) (by decide) (Nat.le_of_ble_eq_true rfl) (by decide) (by decide) (lenOf pd_3 rfl) (by rw [hml]; rfl) rfl d3_16 rfl (fun T2 X2 f2 => ?_)
    have e2 := f2.trans e1
    have W2 : OwnGo.Wk p.tables T2 m c below method_6_code := ⟨X2.here, hx, hby⟩
    refine OwnGo.if_eq W2 (pn := 22) (pt := 24) d3_19 rfl (by decide) (by decide) (fun h19 => ?_) (fun h19 => ?_)
    · rw [if_pos h19] at hr
      refine OwnGo.aloadN W2 (pn := 25) d3_24 rfl rfl rfl ?_
      refine OwnGo.iloadN W2 (pn := 26) d3_25 rfl rfl ?_
      refine OwnGo.iloadN W2 (pn := 27) d3_26 rfl rfl ?_
      refine OwnGo.iconst (v := (5 : Int32)) W2 (pn := 28) d3_27 rfl rfl ?_
      refine OwnGo.callP X2 hx hby hZ hown (argsL := [(.ref a), (.int p1), (.int p2), (.int (5 : Int32))]) (rest := []) (pn := 31) (hw _ (List.mem_of_getElem? (i := 13) rfl)) (hw _ (List.mem_of_getElem? (i := 14) rfl)) (hw _ (List.mem_of_getElem? (i := 3) rfl)) (hw _ (List.mem_of_getElem? (i := 15) rfl)) (by decide) (rm_own_ends l Z a0 hw a p1 p2 (5 : Int32) xs _ (by rw [e2]; exact A) hlen (by decide) (by decide)) (by decide) (Nat.le_of_ble_eq_true rfl) (by decide) (by decide) (lenOf pd_3 rfl) (by rw [hml]; rfl) rfl d3_28 rfl (fun T3 X3 f3 => ?_)
      have e3 := f3.trans e2
      have W3 : OwnGo.Wk p.tables T3 m c below method_6_code := ⟨X3.here, hx, hby⟩
      refine OwnGo.if_eq W3 (pn := 34) (pt := 37) d3_31 rfl (by decide) (by decide) (fun h31 => ?_) (fun h31 => ?_)
      · rw [if_pos h31] at hr
        refine OwnGo.aloadN W3 (pn := 38) d3_37 rfl rfl rfl ?_
        refine OwnGo.iloadN W3 (pn := 39) d3_38 rfl rfl ?_
        refine OwnGo.iloadN W3 (pn := 40) d3_39 rfl rfl ?_
        refine OwnGo.bipush (v := (6 : Int32)) W3 (pn := 42) d3_40 rfl rfl ?_
        refine OwnGo.callP X3 hx hby hZ hown (argsL := [(.ref a), (.int p1), (.int p2), (.int (6 : Int32))]) (rest := []) (pn := 45) (hw _ (List.mem_of_getElem? (i := 13) rfl)) (hw _ (List.mem_of_getElem? (i := 14) rfl)) (hw _ (List.mem_of_getElem? (i := 3) rfl)) (hw _ (List.mem_of_getElem? (i := 15) rfl)) (by decide) (rm_own_ends l Z a0 hw a p1 p2 (6 : Int32) xs _ (by rw [e3]; exact A) hlen (by decide) (by decide)) (by decide) (Nat.le_of_ble_eq_true rfl) (by decide) (by decide) (lenOf pd_3 rfl) (by rw [hml]; rfl) rfl d3_42 rfl (fun T4 X4 f4 => ?_)
        have e4 := f4.trans e3
        have W4 : OwnGo.Wk p.tables T4 m c below method_6_code := ⟨X4.here, hx, hby⟩
        refine OwnGo.if_eq W4 (pn := 48) (pt := 51) d3_45 rfl (by decide) (by decide) (fun h45 => ?_) (fun h45 => ?_)
        · rw [if_pos h45] at hr
          refine OwnGo.aloadN W4 (pn := 52) d3_51 rfl rfl rfl ?_
          refine OwnGo.iloadN W4 (pn := 53) d3_52 rfl rfl ?_
          refine OwnGo.iloadN W4 (pn := 54) d3_53 rfl rfl ?_
          refine OwnGo.bipush (v := (7 : Int32)) W4 (pn := 56) d3_54 rfl rfl ?_
          refine OwnGo.callP X4 hx hby hZ hown (argsL := [(.ref a), (.int p1), (.int p2), (.int (7 : Int32))]) (rest := []) (pn := 59) (hw _ (List.mem_of_getElem? (i := 13) rfl)) (hw _ (List.mem_of_getElem? (i := 14) rfl)) (hw _ (List.mem_of_getElem? (i := 3) rfl)) (hw _ (List.mem_of_getElem? (i := 15) rfl)) (by decide) (rm_own_ends l Z a0 hw a p1 p2 (7 : Int32) xs _ (by rw [e4]; exact A) hlen (by decide) (by decide)) (by decide) (Nat.le_of_ble_eq_true rfl) (by decide) (by decide) (lenOf pd_3 rfl) (by rw [hml]; rfl) rfl d3_56 rfl (fun T5 X5 f5 => ?_)
          have e5 := f5.trans e4
          have W5 : OwnGo.Wk p.tables T5 m c below method_6_code := ⟨X5.here, hx, hby⟩
          refine OwnGo.if_eq W5 (pn := 62) (pt := 65) d3_59 rfl (by decide) (by decide) (fun h59 => ?_) (fun h59 => ?_)
          · rw [if_pos h59] at hr
            refine OwnGo.iconst (v := (-1 : Int32)) W5 (pn := 66) d3_65 rfl rfl ?_
            exact OwnGo.ireturn X5 hx hby hret hlk rfl (by simp) d3_66 (OwnGo.fin_of hr e5 hfin) (by decide) (by decide)
          · rw [if_neg h59] at hr
            refine OwnGo.bipush (v := (8 : Int32)) W5 (pn := 64) d3_62 rfl rfl ?_
            exact OwnGo.ireturn X5 hx hby hret hlk rfl (by simp) d3_64 (OwnGo.fin_of hr e5 hfin) (by decide) (by decide)
        · rw [if_neg h45] at hr
          refine OwnGo.bipush (v := (7 : Int32)) W4 (pn := 50) d3_48 rfl rfl ?_
          exact OwnGo.ireturn X4 hx hby hret hlk rfl (by simp) d3_50 (OwnGo.fin_of hr e4 hfin) (by decide) (by decide)
      · rw [if_neg h31] at hr
        refine OwnGo.bipush (v := (6 : Int32)) W3 (pn := 36) d3_34 rfl rfl ?_
        exact OwnGo.ireturn X3 hx hby hret hlk rfl (by simp) d3_36 (OwnGo.fin_of hr e3 hfin) (by decide) (by decide)
    · rw [if_neg h19] at hr
      refine OwnGo.iconst (v := (5 : Int32)) W2 (pn := 23) d3_22 rfl rfl ?_
      exact OwnGo.ireturn X2 hx hby hret hlk rfl (by simp) d3_23 (OwnGo.fin_of hr e2 hfin) (by decide) (by decide)
  · rw [if_neg h7] at hr
    refine OwnGo.iconst (v := (4 : Int32)) W1 (pn := 11) d3_10 rfl rfl ?_
    exact OwnGo.ireturn X1 hx hby hret hlk rfl (by simp) d3_11 (OwnGo.fin_of hr e1 hfin) (by decide) (by decide)
def own_min (p0 : Int32) (p1 : Int32) : Int32 := (if p1 < p0 then p1 else p0)
theorem d6_0 : decode jdk_29_method_69_code 0 = .ok (.iload_n 0, 1) := by decide +kernel
theorem d6_1 : decode jdk_29_method_69_code 1 = .ok (.iload_n 1, 1) := by decide +kernel
theorem d6_2 : decode jdk_29_method_69_code 2 = .ok (.if_icmp .gt 7, 3) := by decide +kernel
theorem d6_5 : decode jdk_29_method_69_code 5 = .ok (.iload_n 0, 1) := by decide +kernel
theorem d6_6 : decode jdk_29_method_69_code 6 = .ok (.goto 4, 3) := by decide +kernel
theorem d6_9 : decode jdk_29_method_69_code 9 = .ok (.iload_n 1, 1) := by decide +kernel
theorem d6_10 : decode jdk_29_method_69_code 10 = .ok (.ireturn, 1) := by decide +kernel
theorem pm_0 : plainFor (⟨"java/lang/Math", "min", "(II)I"⟩ : MethodName) = true := by decide +kernel
theorem ef_6 (m : MethodId) (p0 : Int32) (p1 : Int32) : entryFrame m #[(.int p0), (.int p1)] 2 = mkF m 0 #[.val (.int p0), .val (.int p1)] [] := by first | (simp [entryFrame, mkF, argsToLocals, Value.category]; done) | rfl
set_option maxRecDepth 65536 in
set_option maxHeartbeats 40000000 in
theorem rm_own_min (l : Launch) (Z : State) (a0 : Array Value) (hw : ∀ d ∈ tables_1, d.before a0 Z = true) (p0 : Int32) (p1 : Int32) (h0 : Heap) :
    OwnGo.Con l (⟨"java/lang/Math", "min", "(II)I"⟩ : MethodName) jdk_29_method_69_code 2 (some .int) (OwnGo.rmP 0 0) Z #[(.int p0), (.int p1)] h0 (OwnGo.PureQ (.int (own_min p0 p1)) h0) := by
  refine OwnGo.Con.intro pm_0 ?_
  intro p e s m below meth c T0 X0 hx hby hml hZ hown hnm hret hlk e0
  refine OwnGo.Go.cast (ef_6 m p0 p1) ?_
  obtain ⟨r, hr⟩ : ∃ r, own_min p0 p1 = r := ⟨_, rfl⟩
  rw [hr]
  have hfin : OwnGo.PureQ (.int r) h0 (some (.int r)) h0 [] := ⟨rfl, rfl, rfl⟩
  unfold own_min at hr
  have W0 : OwnGo.Wk p.tables T0 m c below jdk_29_method_69_code := ⟨X0.here, hx, hby⟩
  refine OwnGo.iloadN W0 (pn := 1) d6_0 rfl rfl ?_
  refine OwnGo.iloadN W0 (pn := 2) d6_1 rfl rfl ?_
  refine OwnGo.icmp_gt W0 (pn := 5) (pt := 9) d6_2 rfl (by decide) (by decide) (fun h2 => ?_) (fun h2 => ?_)
  · rw [if_pos h2] at hr
    refine OwnGo.iloadN W0 (pn := 10) d6_9 rfl rfl ?_
    exact OwnGo.ireturn X0 hx hby hret hlk rfl (by simp) d6_10 (OwnGo.fin_of hr e0 hfin) (by decide) (by decide)
  · rw [if_neg h2] at hr
    refine OwnGo.iloadN W0 (pn := 6) d6_5 rfl rfl ?_
    refine OwnGo.goto W0 (pt := 10) d6_6 (by decide) (by decide) ?_
    exact OwnGo.ireturn X0 hx hby hret hlk rfl (by simp) d6_10 (OwnGo.fin_of hr e0 hfin) (by decide) (by decide)
def own_max (p0 : Int32) (p1 : Int32) : Int32 := (if p0 < p1 then p1 else p0)
theorem d7_0 : decode jdk_29_method_65_code 0 = .ok (.iload_n 0, 1) := by decide +kernel
theorem d7_1 : decode jdk_29_method_65_code 1 = .ok (.iload_n 1, 1) := by decide +kernel
theorem d7_2 : decode jdk_29_method_65_code 2 = .ok (.if_icmp .lt 7, 3) := by decide +kernel
theorem d7_5 : decode jdk_29_method_65_code 5 = .ok (.iload_n 0, 1) := by decide +kernel
theorem d7_6 : decode jdk_29_method_65_code 6 = .ok (.goto 4, 3) := by decide +kernel
theorem d7_9 : decode jdk_29_method_65_code 9 = .ok (.iload_n 1, 1) := by decide +kernel
theorem d7_10 : decode jdk_29_method_65_code 10 = .ok (.ireturn, 1) := by decide +kernel
theorem pm_1 : plainFor (⟨"java/lang/Math", "max", "(II)I"⟩ : MethodName) = true := by decide +kernel
theorem ef_7 (m : MethodId) (p0 : Int32) (p1 : Int32) : entryFrame m #[(.int p0), (.int p1)] 2 = mkF m 0 #[.val (.int p0), .val (.int p1)] [] := by first | (simp [entryFrame, mkF, argsToLocals, Value.category]; done) | rfl
set_option maxRecDepth 65536 in
set_option maxHeartbeats 40000000 in
theorem rm_own_max (l : Launch) (Z : State) (a0 : Array Value) (hw : ∀ d ∈ tables_1, d.before a0 Z = true) (p0 : Int32) (p1 : Int32) (h0 : Heap) :
    OwnGo.Con l (⟨"java/lang/Math", "max", "(II)I"⟩ : MethodName) jdk_29_method_65_code 2 (some .int) (OwnGo.rmP 0 0) Z #[(.int p0), (.int p1)] h0 (OwnGo.PureQ (.int (own_max p0 p1)) h0) := by
  refine OwnGo.Con.intro pm_1 ?_
  intro p e s m below meth c T0 X0 hx hby hml hZ hown hnm hret hlk e0
  refine OwnGo.Go.cast (ef_7 m p0 p1) ?_
  obtain ⟨r, hr⟩ : ∃ r, own_max p0 p1 = r := ⟨_, rfl⟩
  rw [hr]
  have hfin : OwnGo.PureQ (.int r) h0 (some (.int r)) h0 [] := ⟨rfl, rfl, rfl⟩
  unfold own_max at hr
  have W0 : OwnGo.Wk p.tables T0 m c below jdk_29_method_65_code := ⟨X0.here, hx, hby⟩
  refine OwnGo.iloadN W0 (pn := 1) d7_0 rfl rfl ?_
  refine OwnGo.iloadN W0 (pn := 2) d7_1 rfl rfl ?_
  refine OwnGo.icmp_lt W0 (pn := 5) (pt := 9) d7_2 rfl (by decide) (by decide) (fun h2 => ?_) (fun h2 => ?_)
  · rw [if_pos h2] at hr
    refine OwnGo.iloadN W0 (pn := 10) d7_9 rfl rfl ?_
    exact OwnGo.ireturn X0 hx hby hret hlk rfl (by simp) d7_10 (OwnGo.fin_of hr e0 hfin) (by decide) (by decide)
  · rw [if_neg h2] at hr
    refine OwnGo.iloadN W0 (pn := 6) d7_5 rfl rfl ?_
    refine OwnGo.goto W0 (pt := 10) d7_6 (by decide) (by decide) ?_
    exact OwnGo.ireturn X0 hx hby hret hlk rfl (by simp) d7_10 (OwnGo.fin_of hr e0 hfin) (by decide) (by decide)
def own_ctl_22 : Int32 := (1 : Int32)
def own_ctl_16 (p0 : Int32) : Int32 := (if p0 = (127 : Int32) then (own_ctl_22) else (0 : Int32))
def own_ctl (p0 : Int32) : Int32 := (if p0 < (0 : Int32) then (own_ctl_16 p0) else (if p0 < (32 : Int32) then (if p0 = (9 : Int32) then (own_ctl_16 p0) else (own_ctl_22)) else (own_ctl_16 p0)))
theorem d8_0 : decode prog_13_method_24_code 0 = .ok (.iload_n 0, 1) := by decide +kernel
theorem d8_1 : decode prog_13_method_24_code 1 = .ok (.ifCond .lt 15, 3) := by decide +kernel
theorem d8_4 : decode prog_13_method_24_code 4 = .ok (.iload_n 0, 1) := by decide +kernel
theorem d8_5 : decode prog_13_method_24_code 5 = .ok (.bipush 32, 2) := by decide +kernel
theorem d8_7 : decode prog_13_method_24_code 7 = .ok (.if_icmp .ge 9, 3) := by decide +kernel
theorem d8_10 : decode prog_13_method_24_code 10 = .ok (.iload_n 0, 1) := by decide +kernel
theorem d8_11 : decode prog_13_method_24_code 11 = .ok (.bipush 9, 2) := by decide +kernel
theorem d8_13 : decode prog_13_method_24_code 13 = .ok (.if_icmp .ne 9, 3) := by decide +kernel
theorem d8_16 : decode prog_13_method_24_code 16 = .ok (.iload_n 0, 1) := by decide +kernel
theorem d8_17 : decode prog_13_method_24_code 17 = .ok (.bipush 127, 2) := by decide +kernel
theorem d8_19 : decode prog_13_method_24_code 19 = .ok (.if_icmp .ne 7, 3) := by decide +kernel
theorem d8_22 : decode prog_13_method_24_code 22 = .ok (.iconst 1, 1) := by decide +kernel
theorem d8_23 : decode prog_13_method_24_code 23 = .ok (.goto 4, 3) := by decide +kernel
theorem d8_26 : decode prog_13_method_24_code 26 = .ok (.iconst 0, 1) := by decide +kernel
theorem d8_27 : decode prog_13_method_24_code 27 = .ok (.ireturn, 1) := by decide +kernel
theorem pn_1 : plainName "tenantry/RequestHead" = true := by first | (simp [plainName, overriddenIn]; done) | decide +kernel
theorem ef_8 (m : MethodId) (p0 : Int32) : entryFrame m #[(.int p0)] 1 = mkF m 0 #[.val (.int p0)] [] := by first | (simp [entryFrame, mkF, argsToLocals, Value.category]; done) | rfl
set_option maxRecDepth 65536 in
set_option maxHeartbeats 40000000 in
theorem rm_own_ctl (l : Launch) (Z : State) (a0 : Array Value) (hw : ∀ d ∈ tables_1, d.before a0 Z = true) (p0 : Int32) (h0 : Heap) :
    OwnGo.Con l (⟨"tenantry/RequestHead", "isControl", "(B)Z"⟩ : MethodName) prog_13_method_24_code 1 (some .boolean) (OwnGo.rmP 0 0) Z #[(.int p0)] h0 (OwnGo.PureQ (.int (own_ctl p0)) h0) := by
  refine OwnGo.Con.intro (plainFor_of_name pn_1) ?_
  intro p e s m below meth c T0 X0 hx hby hml hZ hown hnm hret hlk e0
  refine OwnGo.Go.cast (ef_8 m p0) ?_
  obtain ⟨r, hr⟩ : ∃ r, own_ctl p0 = r := ⟨_, rfl⟩
  rw [hr]
  have hfin : OwnGo.PureQ (.int r) h0 (some (.int r)) h0 [] := ⟨rfl, rfl, rfl⟩
  have B22 : ∀ (T0 : State) (X0 : Stand p l e (OwnGo.rmP 0 0) s m #[(.int p0)] below meth c T0 [] 0 0) (e0 : T0.heap = h0), own_ctl_22 = r → OwnGo.Go p.tables e below (OwnGo.Qe s (OwnGo.rmP 0 0) (OwnGo.PureQ (.int r) h0)) (T0.setTop (mkF m 22 #[.val (.int p0)] [])) := by
    intro T0 X0 e0 hr
    unfold own_ctl_22 at hr
    have W0 : OwnGo.Wk p.tables T0 m c below prog_13_method_24_code := ⟨X0.here, hx, hby⟩
    refine OwnGo.iconst (v := (1 : Int32)) W0 (pn := 23) d8_22 rfl rfl ?_
    refine OwnGo.goto W0 (pt := 27) d8_23 (by decide) (by decide) ?_
    exact OwnGo.ireturn X0 hx hby hret hlk rfl (by simp) d8_27 (OwnGo.fin_of hr e0 hfin) (by decide) (by decide)
  have B16 : ∀ (T0 : State) (X0 : Stand p l e (OwnGo.rmP 0 0) s m #[(.int p0)] below meth c T0 [] 0 0) (e0 : T0.heap = h0), own_ctl_16 p0 = r → OwnGo.Go p.tables e below (OwnGo.Qe s (OwnGo.rmP 0 0) (OwnGo.PureQ (.int r) h0)) (T0.setTop (mkF m 16 #[.val (.int p0)] [])) := by
    intro T0 X0 e0 hr
    unfold own_ctl_16 at hr
    have W0 : OwnGo.Wk p.tables T0 m c below prog_13_method_24_code := ⟨X0.here, hx, hby⟩
    refine OwnGo.iloadN W0 (pn := 17) d8_16 rfl rfl ?_
    refine OwnGo.bipush (v := (127 : Int32)) W0 (pn := 19) d8_17 rfl rfl ?_
    refine OwnGo.icmp_ne W0 (pn := 22) (pt := 26) d8_19 rfl (by decide) (by decide) (fun h19 => ?_) (fun h19 => ?_)
    · rw [if_pos h19] at hr
      exact B22 _ X0 e0 hr
    · rw [if_neg h19] at hr
      refine OwnGo.iconst (v := (0 : Int32)) W0 (pn := 27) d8_26 rfl rfl ?_
      exact OwnGo.ireturn X0 hx hby hret hlk rfl (by simp) d8_27 (OwnGo.fin_of hr e0 hfin) (by decide) (by decide)
  unfold own_ctl at hr
  have W0 : OwnGo.Wk p.tables T0 m c below prog_13_method_24_code := ⟨X0.here, hx, hby⟩
  refine OwnGo.iloadN W0 (pn := 1) d8_0 rfl rfl ?_
  refine OwnGo.if_lt W0 (pn := 4) (pt := 16) d8_1 rfl (by decide) (by decide) (fun h1 => ?_) (fun h1 => ?_)
  · rw [if_pos h1] at hr
    exact B16 _ X0 e0 hr
  · rw [if_neg h1] at hr
    refine OwnGo.iloadN W0 (pn := 5) d8_4 rfl rfl ?_
    refine OwnGo.bipush (v := (32 : Int32)) W0 (pn := 7) d8_5 rfl rfl ?_
    refine OwnGo.icmp_ge W0 (pn := 10) (pt := 16) d8_7 rfl (by decide) (by decide) (fun h7 => ?_) (fun h7 => ?_)
    · rw [if_pos h7] at hr
      refine OwnGo.iloadN W0 (pn := 11) d8_10 rfl rfl ?_
      refine OwnGo.bipush (v := (9 : Int32)) W0 (pn := 13) d8_11 rfl rfl ?_
      refine OwnGo.icmp_ne W0 (pn := 16) (pt := 22) d8_13 rfl (by decide) (by decide) (fun h13 => ?_) (fun h13 => ?_)
      · rw [if_pos h13] at hr
        exact B16 _ X0 e0 hr
      · rw [if_neg h13] at hr
        exact B22 _ X0 e0 hr
    · rw [if_neg h7] at hr
      exact B16 _ X0 e0 hr
theorem d1_0 : decode method_3_code 0 = .ok (.iload_n 2, 1) := by decide +kernel
theorem d1_1 : decode method_3_code 1 = .ok (.ifCond .eq 22, 3) := by decide +kernel
theorem d1_4 : decode method_3_code 4 = .ok (.aload_n 0, 1) := by decide +kernel
theorem d1_5 : decode method_3_code 5 = .ok (.iconst 2, 1) := by decide +kernel
theorem d1_6 : decode method_3_code 6 = .ok (.iload_n 1, 1) := by decide +kernel
theorem d1_7 : decode method_3_code 7 = .ok (.imul, 1) := by decide +kernel
theorem d1_8 : decode method_3_code 8 = .ok (.bipush 13, 2) := by decide +kernel
theorem d1_10 : decode method_3_code 10 = .ok (.bastore, 1) := by decide +kernel
theorem d1_11 : decode method_3_code 11 = .ok (.aload_n 0, 1) := by decide +kernel
theorem d1_12 : decode method_3_code 12 = .ok (.iconst 2, 1) := by decide +kernel
theorem d1_13 : decode method_3_code 13 = .ok (.iload_n 1, 1) := by decide +kernel
theorem d1_14 : decode method_3_code 14 = .ok (.imul, 1) := by decide +kernel
theorem d1_15 : decode method_3_code 15 = .ok (.iconst 1, 1) := by decide +kernel
theorem d1_16 : decode method_3_code 16 = .ok (.iadd, 1) := by decide +kernel
theorem d1_17 : decode method_3_code 17 = .ok (.bipush 10, 2) := by decide +kernel
theorem d1_19 : decode method_3_code 19 = .ok (.bastore, 1) := by decide +kernel
theorem d1_20 : decode method_3_code 20 = .ok (.goto 36, 3) := by decide +kernel
theorem d1_23 : decode method_3_code 23 = .ok (.aload_n 0, 1) := by decide +kernel
theorem d1_24 : decode method_3_code 24 = .ok (.iconst 2, 1) := by decide +kernel
theorem d1_25 : decode method_3_code 25 = .ok (.iload_n 1, 1) := by decide +kernel
theorem d1_26 : decode method_3_code 26 = .ok (.imul, 1) := by decide +kernel
theorem d1_27 : decode method_3_code 27 = .ok (.lload_n 3, 1) := by decide +kernel
theorem d1_28 : decode method_3_code 28 = .ok (.bipush 16, 2) := by decide +kernel
theorem d1_30 : decode method_3_code 30 = .ok (.iload_n 1, 1) := by decide +kernel
theorem d1_31 : decode method_3_code 31 = .ok (.imul, 1) := by decide +kernel
theorem d1_32 : decode method_3_code 32 = .ok (.lushr, 1) := by decide +kernel
theorem d1_33 : decode method_3_code 33 = .ok (.invokestatic 24, 3) := by decide +kernel
theorem d1_36 : decode method_3_code 36 = .ok (.bastore, 1) := by decide +kernel
theorem d1_37 : decode method_3_code 37 = .ok (.aload_n 0, 1) := by decide +kernel
theorem d1_38 : decode method_3_code 38 = .ok (.iconst 2, 1) := by decide +kernel
theorem d1_39 : decode method_3_code 39 = .ok (.iload_n 1, 1) := by decide +kernel
theorem d1_40 : decode method_3_code 40 = .ok (.imul, 1) := by decide +kernel
theorem d1_41 : decode method_3_code 41 = .ok (.iconst 1, 1) := by decide +kernel
theorem d1_42 : decode method_3_code 42 = .ok (.iadd, 1) := by decide +kernel
theorem d1_43 : decode method_3_code 43 = .ok (.lload_n 3, 1) := by decide +kernel
theorem d1_44 : decode method_3_code 44 = .ok (.bipush 16, 2) := by decide +kernel
theorem d1_46 : decode method_3_code 46 = .ok (.iload_n 1, 1) := by decide +kernel
theorem d1_47 : decode method_3_code 47 = .ok (.imul, 1) := by decide +kernel
theorem d1_48 : decode method_3_code 48 = .ok (.bipush 8, 2) := by decide +kernel
theorem d1_50 : decode method_3_code 50 = .ok (.iadd, 1) := by decide +kernel
theorem d1_51 : decode method_3_code 51 = .ok (.lushr, 1) := by decide +kernel
theorem d1_52 : decode method_3_code 52 = .ok (.invokestatic 24, 3) := by decide +kernel
theorem d1_55 : decode method_3_code 55 = .ok (.bastore, 1) := by decide +kernel
theorem d1_56 : decode method_3_code 56 = .ok (.return_, 1) := by decide +kernel
def own_slot (xs : List Int32) (p1 p2 : Int32) (q3 : Int64) : List Int32 := if p2 = (0 : Int32) then (((xs.set ((2 : Int32) * p1).toNatClampNeg (nar .byte (own_safe (XT.ushrL q3 ((16 : Int32) * p1))))).set (((2 : Int32) * p1) + (1 : Int32)).toNatClampNeg (nar .byte (own_safe (XT.ushrL q3 (((16 : Int32) * p1) + (8 : Int32))))))) else ((xs.set ((2 : Int32) * p1).toNatClampNeg (nar .byte (13 : Int32))).set (((2 : Int32) * p1) + (1 : Int32)).toNatClampNeg (nar .byte (10 : Int32)))
theorem own_i2 (p : Int32) (h0 : 0 ≤ p.toInt) (h3 : p.toInt ≤ 3) : ¬ ((2 : Int32) * p) < 0 ∧ ((2 : Int32) * p).toNatClampNeg < 8 ∧ ¬ ((2 : Int32) * p + 1) < 0 ∧ ((2 : Int32) * p + 1).toNatClampNeg < 8 := by
  have k := c_imul 2 p
  have k1 := ((2 : Int32) * p).toInt_lt
  have k2 := ((2 : Int32) * p).le_toInt
  simp only [Int32.reduceToInt] at k
  have q := own_i0 ((2 : Int32) * p) (by omega) (by omega)
  have q' := own_iy ((2 : Int32) * p) 1 1 (by decide) (by omega) (by omega)
  exact ⟨q.1, q.2.1, q'.1, q'.2.1⟩
theorem ef_1 (m : MethodId) (a : Addr) (p1 p2 : Int32) (q3 : Int64) : entryFrame m #[(.ref a), (.int p1), (.int p2), (.long q3)] 5 = mkF m 0 #[.val (.ref a), .val (.int p1), .val (.int p2), .val (.long q3), .second] [] := by first | (simp [entryFrame, mkF, argsToLocals, Value.category]; done) | rfl
set_option maxRecDepth 65536 in
set_option maxHeartbeats 40000000 in
theorem rm_slot (l : Launch) (Z : State) (a0 : Array Value) (hw : ∀ d ∈ tables_1, d.before a0 Z = true) (a : Addr) (p1 p2 : Int32) (q3 : Int64) (xs : List Int32) (h0 : Heap) (n0 : Nat) (A : OwnGo.Ia Z h0 a .byte xs) (ho : n0 ≤ a) (hlen : xs.length = 8) (g0 : 0 ≤ p1.toInt) (g3 : p1.toInt ≤ 3) :
    OwnGo.Con l (⟨"tenantry/RequestHeadEndPinLaw", "slot", "([BIZJ)V"⟩ : MethodName) method_3_code 5 none (OwnGo.rmP 1 24) Z #[(.ref a), (.int p1), (.int p2), (.long q3)] h0 (fun v h L => v = none ∧ Fr n0 L ∧ OwnGo.Ia Z h a .byte (own_slot xs p1 p2 q3)) := by
  refine OwnGo.Con.intro (plainFor_of_name pn_0) ?_
  intro p e s m below meth c T0 X0 hx hby hml hZ hown hnm hret hlk e0
  refine OwnGo.Go.cast (ef_1 m a p1 p2 q3) ?_
  obtain ⟨i1, i2, i3, i4⟩ := own_i2 p1 g0 g3
  have N0 := Fr.nil n0
  have Aa_0 : OwnGo.Ia Z T0.heap a .byte xs := by rw [e0]; exact A
  have W0 : OwnGo.Wk p.tables T0 m c below method_3_code := ⟨X0.here, hx, hby⟩
  refine OwnGo.iloadN W0 (pn := 1) d1_0 rfl rfl ?_
  refine OwnGo.if_eq W0 (pn := 4) (pt := 23) d1_1 rfl (by decide) (by decide) (fun h1 => ?_) (fun h1 => ?_)
  · skip
    have es : own_slot xs p1 p2 q3 = (((xs.set ((2 : Int32) * p1).toNatClampNeg (nar .byte (own_safe (XT.ushrL q3 ((16 : Int32) * p1))))).set (((2 : Int32) * p1) + (1 : Int32)).toNatClampNeg (nar .byte (own_safe (XT.ushrL q3 (((16 : Int32) * p1) + (8 : Int32))))))) := if_pos h1
    refine OwnGo.aloadN W0 (pn := 24) d1_23 rfl rfl rfl ?_
    refine OwnGo.iconst (v := (2 : Int32)) W0 (pn := 25) d1_24 rfl rfl ?_
    refine OwnGo.iloadN W0 (pn := 26) d1_25 rfl rfl ?_
    refine OwnGo.imul W0 (pn := 27) d1_26 rfl ?_
    refine OwnGo.lloadN W0 (pn := 28) d1_27 rfl rfl ?_
    refine OwnGo.bipush (v := (16 : Int32)) W0 (pn := 30) d1_28 rfl rfl ?_
    refine OwnGo.iloadN W0 (pn := 31) d1_30 rfl rfl ?_
    refine OwnGo.imul W0 (pn := 32) d1_31 rfl ?_
    refine OwnGo.lushr W0 (pn := 33) d1_32 rfl ?_
    refine OwnGo.callP X0 hx hby hZ hown (argsL := [(.long (XT.ushrL q3 ((16 : Int32) * p1)))]) (rest := [(.int ((2 : Int32) * p1)), (.ref a)]) (pn := 36) (hw _ (List.mem_of_getElem? (i := 5) rfl)) (hw _ (List.mem_of_getElem? (i := 6) rfl)) (hw _ (List.mem_of_getElem? (i := 3) rfl)) (hw _ (List.mem_of_getElem? (i := 7) rfl)) (by decide) (rm_own_safe l Z a0 hw (XT.ushrL q3 ((16 : Int32) * p1)) _) (by decide) (Nat.le_of_ble_eq_true rfl) (by decide) (by decide) (lenOf pd_1 rfl) (by rw [hml]; rfl) rfl d1_33 rfl (fun T1 X1 f1 => ?_)
    have Aa_1 : OwnGo.Ia Z T1.heap a .byte xs := by rw [f1]; exact Aa_0
    have W1 : OwnGo.Wk p.tables T1 m c below method_3_code := ⟨X1.here, hx, hby⟩
    refine OwnGo.bastoreB X1 hx hby hZ (pn := 37) Aa_1 i1 (by rw [hlen]; exact i2) ho N0 d1_36 rfl (fun T2 L2 X2 N2 Aa_2 Wr2 => ?_)
    have W2 : OwnGo.Wk p.tables T2 m c below method_3_code := ⟨X2.here, hx, hby⟩
    refine OwnGo.aloadN W2 (pn := 38) d1_37 rfl rfl rfl ?_
    refine OwnGo.iconst (v := (2 : Int32)) W2 (pn := 39) d1_38 rfl rfl ?_
    refine OwnGo.iloadN W2 (pn := 40) d1_39 rfl rfl ?_
    refine OwnGo.imul W2 (pn := 41) d1_40 rfl ?_
    refine OwnGo.iconst (v := (1 : Int32)) W2 (pn := 42) d1_41 rfl rfl ?_
    refine OwnGo.iadd W2 (pn := 43) d1_42 rfl ?_
    refine OwnGo.lloadN W2 (pn := 44) d1_43 rfl rfl ?_
    refine OwnGo.bipush (v := (16 : Int32)) W2 (pn := 46) d1_44 rfl rfl ?_
    refine OwnGo.iloadN W2 (pn := 47) d1_46 rfl rfl ?_
    refine OwnGo.imul W2 (pn := 48) d1_47 rfl ?_
    refine OwnGo.bipush (v := (8 : Int32)) W2 (pn := 50) d1_48 rfl rfl ?_
    refine OwnGo.iadd W2 (pn := 51) d1_50 rfl ?_
    refine OwnGo.lushr W2 (pn := 52) d1_51 rfl ?_
    refine OwnGo.callP X2 hx hby hZ hown (argsL := [(.long (XT.ushrL q3 (((16 : Int32) * p1) + (8 : Int32))))]) (rest := [(.int (((2 : Int32) * p1) + (1 : Int32))), (.ref a)]) (pn := 55) (hw _ (List.mem_of_getElem? (i := 5) rfl)) (hw _ (List.mem_of_getElem? (i := 6) rfl)) (hw _ (List.mem_of_getElem? (i := 3) rfl)) (hw _ (List.mem_of_getElem? (i := 7) rfl)) (by decide) (rm_own_safe l Z a0 hw (XT.ushrL q3 (((16 : Int32) * p1) + (8 : Int32))) _) (by decide) (Nat.le_of_ble_eq_true rfl) (by decide) (by decide) (lenOf pd_1 rfl) (by rw [hml]; rfl) rfl d1_52 rfl (fun T3 X3 f3 => ?_)
    have Aa_3 : OwnGo.Ia Z T3.heap a .byte ((xs).set (((2 : Int32) * p1)).toNatClampNeg (nar .byte (own_safe (XT.ushrL q3 ((16 : Int32) * p1))))) := by rw [f3]; exact Aa_2
    have W3 : OwnGo.Wk p.tables T3 m c below method_3_code := ⟨X3.here, hx, hby⟩
    refine OwnGo.bastoreB X3 hx hby hZ (pn := 56) Aa_3 i3 (by rw [List.length_set, hlen]; exact i4) ho N2 d1_55 rfl (fun T4 L4 X4 N4 Aa_4 Wr4 => ?_)
    have W4 : OwnGo.Wk p.tables T4 m c below method_3_code := ⟨X4.here, hx, hby⟩
    exact OwnGo.returnV X4 hx hby hret hlk d1_56 ⟨rfl, N4, by rw [es]; exact Aa_4⟩ (by decide) (by decide)
  · skip
    have es : own_slot xs p1 p2 q3 = ((xs.set ((2 : Int32) * p1).toNatClampNeg (nar .byte (13 : Int32))).set (((2 : Int32) * p1) + (1 : Int32)).toNatClampNeg (nar .byte (10 : Int32))) := if_neg h1
    refine OwnGo.aloadN W0 (pn := 5) d1_4 rfl rfl rfl ?_
    refine OwnGo.iconst (v := (2 : Int32)) W0 (pn := 6) d1_5 rfl rfl ?_
    refine OwnGo.iloadN W0 (pn := 7) d1_6 rfl rfl ?_
    refine OwnGo.imul W0 (pn := 8) d1_7 rfl ?_
    refine OwnGo.bipush (v := (13 : Int32)) W0 (pn := 10) d1_8 rfl rfl ?_
    refine OwnGo.bastoreB X0 hx hby hZ (pn := 11) Aa_0 i1 (by rw [hlen]; exact i2) ho N0 d1_10 rfl (fun T5 L5 X5 N5 Aa_5 Wr5 => ?_)
    have W5 : OwnGo.Wk p.tables T5 m c below method_3_code := ⟨X5.here, hx, hby⟩
    refine OwnGo.aloadN W5 (pn := 12) d1_11 rfl rfl rfl ?_
    refine OwnGo.iconst (v := (2 : Int32)) W5 (pn := 13) d1_12 rfl rfl ?_
    refine OwnGo.iloadN W5 (pn := 14) d1_13 rfl rfl ?_
    refine OwnGo.imul W5 (pn := 15) d1_14 rfl ?_
    refine OwnGo.iconst (v := (1 : Int32)) W5 (pn := 16) d1_15 rfl rfl ?_
    refine OwnGo.iadd W5 (pn := 17) d1_16 rfl ?_
    refine OwnGo.bipush (v := (10 : Int32)) W5 (pn := 19) d1_17 rfl rfl ?_
    refine OwnGo.bastoreB X5 hx hby hZ (pn := 20) Aa_5 i3 (by rw [List.length_set, hlen]; exact i4) ho N5 d1_19 rfl (fun T6 L6 X6 N6 Aa_6 Wr6 => ?_)
    have W6 : OwnGo.Wk p.tables T6 m c below method_3_code := ⟨X6.here, hx, hby⟩
    refine OwnGo.goto W6 (pt := 56) d1_20 (by decide) (by decide) ?_
    exact OwnGo.returnV X6 hx hby hret hlk d1_56 ⟨rfl, N6, by rw [es]; exact Aa_6⟩ (by decide) (by decide)
theorem d5_0 : decode prog_13_method_2_code 0 = .ok (.iload_n 3, 1) := by decide +kernel
theorem d5_1 : decode prog_13_method_2_code 1 = .ok (.iload_n 1, 1) := by decide +kernel
theorem d5_2 : decode prog_13_method_2_code 2 = .ok (.sipush 16384, 3) := by decide +kernel
theorem d5_5 : decode prog_13_method_2_code 5 = .ok (.iadd, 1) := by decide +kernel
theorem d5_6 : decode prog_13_method_2_code 6 = .ok (.invokestatic 59, 3) := by decide +kernel
theorem d5_9 : decode prog_13_method_2_code 9 = .ok (.istore 4, 2) := by decide +kernel
theorem d5_11 : decode prog_13_method_2_code 11 = .ok (.iload_n 1, 1) := by decide +kernel
theorem d5_12 : decode prog_13_method_2_code 12 = .ok (.iload_n 2, 1) := by decide +kernel
theorem d5_13 : decode prog_13_method_2_code 13 = .ok (.iconst 1, 1) := by decide +kernel
theorem d5_14 : decode prog_13_method_2_code 14 = .ok (.isub, 1) := by decide +kernel
theorem d5_15 : decode prog_13_method_2_code 15 = .ok (.invokestatic 65, 3) := by decide +kernel
theorem d5_18 : decode prog_13_method_2_code 18 = .ok (.istore 5, 2) := by decide +kernel
theorem d5_20 : decode prog_13_method_2_code 20 = .ok (.iload 5, 2) := by decide +kernel
theorem d5_22 : decode prog_13_method_2_code 22 = .ok (.iload 4, 2) := by decide +kernel
theorem d5_24 : decode prog_13_method_2_code 24 = .ok (.if_icmp .ge 111, 3) := by decide +kernel
theorem d5_27 : decode prog_13_method_2_code 27 = .ok (.aload_n 0, 1) := by decide +kernel
theorem d5_28 : decode prog_13_method_2_code 28 = .ok (.iload 5, 2) := by decide +kernel
theorem d5_30 : decode prog_13_method_2_code 30 = .ok (.baload, 1) := by decide +kernel
theorem d5_31 : decode prog_13_method_2_code 31 = .ok (.istore 6, 2) := by decide +kernel
theorem d5_33 : decode prog_13_method_2_code 33 = .ok (.iload 6, 2) := by decide +kernel
theorem d5_35 : decode prog_13_method_2_code 35 = .ok (.bipush 13, 2) := by decide +kernel
theorem d5_37 : decode prog_13_method_2_code 37 = .ok (.if_icmp .ne 26, 3) := by decide +kernel
theorem d5_40 : decode prog_13_method_2_code 40 = .ok (.iload 5, 2) := by decide +kernel
theorem d5_42 : decode prog_13_method_2_code 42 = .ok (.iconst 1, 1) := by decide +kernel
theorem d5_43 : decode prog_13_method_2_code 43 = .ok (.iadd, 1) := by decide +kernel
theorem d5_44 : decode prog_13_method_2_code 44 = .ok (.iload_n 3, 1) := by decide +kernel
theorem d5_45 : decode prog_13_method_2_code 45 = .ok (.if_icmp .ge 84, 3) := by decide +kernel
theorem d5_48 : decode prog_13_method_2_code 48 = .ok (.aload_n 0, 1) := by decide +kernel
theorem d5_49 : decode prog_13_method_2_code 49 = .ok (.iload 5, 2) := by decide +kernel
theorem d5_51 : decode prog_13_method_2_code 51 = .ok (.iconst 1, 1) := by decide +kernel
theorem d5_52 : decode prog_13_method_2_code 52 = .ok (.iadd, 1) := by decide +kernel
theorem d5_53 : decode prog_13_method_2_code 53 = .ok (.baload, 1) := by decide +kernel
theorem d5_54 : decode prog_13_method_2_code 54 = .ok (.bipush 10, 2) := by decide +kernel
theorem d5_56 : decode prog_13_method_2_code 56 = .ok (.if_icmp .eq 73, 3) := by decide +kernel
theorem d5_63 : decode prog_13_method_2_code 63 = .ok (.iload 6, 2) := by decide +kernel
theorem d5_65 : decode prog_13_method_2_code 65 = .ok (.bipush 10, 2) := by decide +kernel
theorem d5_67 : decode prog_13_method_2_code 67 = .ok (.if_icmp .ne 48, 3) := by decide +kernel
theorem d5_70 : decode prog_13_method_2_code 70 = .ok (.iload 5, 2) := by decide +kernel
theorem d5_72 : decode prog_13_method_2_code 72 = .ok (.iload_n 1, 1) := by decide +kernel
theorem d5_73 : decode prog_13_method_2_code 73 = .ok (.if_icmp .eq 14, 3) := by decide +kernel
theorem d5_76 : decode prog_13_method_2_code 76 = .ok (.aload_n 0, 1) := by decide +kernel
theorem d5_77 : decode prog_13_method_2_code 77 = .ok (.iload 5, 2) := by decide +kernel
theorem d5_79 : decode prog_13_method_2_code 79 = .ok (.iconst 1, 1) := by decide +kernel
theorem d5_80 : decode prog_13_method_2_code 80 = .ok (.isub, 1) := by decide +kernel
theorem d5_81 : decode prog_13_method_2_code 81 = .ok (.baload, 1) := by decide +kernel
theorem d5_82 : decode prog_13_method_2_code 82 = .ok (.bipush 13, 2) := by decide +kernel
theorem d5_84 : decode prog_13_method_2_code 84 = .ok (.if_icmp .eq 7, 3) := by decide +kernel
theorem d5_91 : decode prog_13_method_2_code 91 = .ok (.iload 5, 2) := by decide +kernel
theorem d5_93 : decode prog_13_method_2_code 93 = .ok (.iload_n 1, 1) := by decide +kernel
theorem d5_94 : decode prog_13_method_2_code 94 = .ok (.isub, 1) := by decide +kernel
theorem d5_95 : decode prog_13_method_2_code 95 = .ok (.iconst 3, 1) := by decide +kernel
theorem d5_96 : decode prog_13_method_2_code 96 = .ok (.if_icmp .lt 33, 3) := by decide +kernel
theorem d5_99 : decode prog_13_method_2_code 99 = .ok (.aload_n 0, 1) := by decide +kernel
theorem d5_100 : decode prog_13_method_2_code 100 = .ok (.iload 5, 2) := by decide +kernel
theorem d5_102 : decode prog_13_method_2_code 102 = .ok (.iconst 2, 1) := by decide +kernel
theorem d5_103 : decode prog_13_method_2_code 103 = .ok (.isub, 1) := by decide +kernel
theorem d5_104 : decode prog_13_method_2_code 104 = .ok (.baload, 1) := by decide +kernel
theorem d5_105 : decode prog_13_method_2_code 105 = .ok (.bipush 10, 2) := by decide +kernel
theorem d5_107 : decode prog_13_method_2_code 107 = .ok (.if_icmp .ne 22, 3) := by decide +kernel
theorem d5_110 : decode prog_13_method_2_code 110 = .ok (.iload 5, 2) := by decide +kernel
theorem d5_112 : decode prog_13_method_2_code 112 = .ok (.iconst 1, 1) := by decide +kernel
theorem d5_113 : decode prog_13_method_2_code 113 = .ok (.iadd, 1) := by decide +kernel
theorem d5_114 : decode prog_13_method_2_code 114 = .ok (.ireturn, 1) := by decide +kernel
theorem d5_115 : decode prog_13_method_2_code 115 = .ok (.iload 6, 2) := by decide +kernel
theorem d5_117 : decode prog_13_method_2_code 117 = .ok (.invokestatic 72, 3) := by decide +kernel
theorem d5_120 : decode prog_13_method_2_code 120 = .ok (.ifCond .eq 9, 3) := by decide +kernel
theorem d5_129 : decode prog_13_method_2_code 129 = .ok (.iinc 5 1, 3) := by decide +kernel
theorem d5_132 : decode prog_13_method_2_code 132 = .ok (.goto (-112), 3) := by decide +kernel
theorem d5_135 : decode prog_13_method_2_code 135 = .ok (.iload_n 3, 1) := by decide +kernel
theorem d5_136 : decode prog_13_method_2_code 136 = .ok (.iload_n 1, 1) := by decide +kernel
theorem d5_137 : decode prog_13_method_2_code 137 = .ok (.sipush 16384, 3) := by decide +kernel
theorem d5_140 : decode prog_13_method_2_code 140 = .ok (.iadd, 1) := by decide +kernel
theorem d5_141 : decode prog_13_method_2_code 141 = .ok (.if_icmp .le 56, 3) := by decide +kernel
theorem d5_197 : decode prog_13_method_2_code 197 = .ok (.iconst (-1), 1) := by decide +kernel
theorem d5_198 : decode prog_13_method_2_code 198 = .ok (.ireturn, 1) := by decide +kernel
def own_loop (xs : List Int32) (p1 v4 : Int32) : Nat → Int32 → Int32
  | 0, _ => (-1 : Int32)
  | n + 1, i => if i < v4 then (if xs.getD i.toNatClampNeg 0 = (13 : Int32) then own_loop xs p1 v4 n (i + (1 : Int32)) else if xs.getD i.toNatClampNeg 0 = (10 : Int32) then (if (i - p1) < (3 : Int32) then own_loop xs p1 v4 n (i + (1 : Int32)) else if xs.getD (i - (2 : Int32)).toNatClampNeg 0 = (10 : Int32) then i + (1 : Int32) else own_loop xs p1 v4 n (i + (1 : Int32))) else own_loop xs p1 v4 n (i + (1 : Int32))) else (-1 : Int32)
theorem own_loop0 (xs : List Int32) (p1 v4 i : Int32) : own_loop xs p1 v4 0 i = (-1 : Int32) := rfl
theorem own_loopS (xs : List Int32) (p1 v4 : Int32) (n : Nat) (i : Int32) : own_loop xs p1 v4 (n + 1) i = if i < v4 then (if xs.getD i.toNatClampNeg 0 = (13 : Int32) then own_loop xs p1 v4 n (i + (1 : Int32)) else if xs.getD i.toNatClampNeg 0 = (10 : Int32) then (if (i - p1) < (3 : Int32) then own_loop xs p1 v4 n (i + (1 : Int32)) else if xs.getD (i - (2 : Int32)).toNatClampNeg 0 = (10 : Int32) then i + (1 : Int32) else own_loop xs p1 v4 n (i + (1 : Int32))) else own_loop xs p1 v4 n (i + (1 : Int32))) else (-1 : Int32) := rfl
def own_end (xs : List Int32) (p1 p2 p3 : Int32) : Int32 := own_loop xs p1 (own_min p3 (p1 + (16384 : Int32))) 9 (own_max p1 (p2 - (1 : Int32)))
def own_G (xs : List Int32) : Prop := (∀ k : Nat, k + 1 < 8 → xs.getD k 0 = 13 → xs.getD (k + 1) 0 = 10) ∧ (∀ k : Nat, k < 8 → xs.getD k 0 = 10 → 1 ≤ k ∧ xs.getD (k - 1) 0 = 13) ∧ (∀ k : Nat, k < 8 → xs.getD k 0 ≠ 13 → xs.getD k 0 ≠ 10 → own_ctl (xs.getD k 0) = 0)
theorem own_cmin (a b : Int32) : ((own_min a b).toInt = a.toInt ∧ a.toInt ≤ b.toInt) ∨ ((own_min a b).toInt = b.toInt ∧ b.toInt ≤ a.toInt) := by
  simp only [own_min]
  repeat' split
  all_goals (simp only [Int32.lt_iff_toInt_lt, Int32.reduceToInt, ← Int32.toInt_inj, true_and, and_true, false_and, and_false, true_or, or_true, false_or, or_false, not_true_eq_false, not_false_eq_true] at * <;> omega)
theorem own_cmax (a b : Int32) : ((own_max a b).toInt = a.toInt ∧ b.toInt ≤ a.toInt) ∨ ((own_max a b).toInt = b.toInt ∧ a.toInt ≤ b.toInt) := by
  simp only [own_max]
  repeat' split
  all_goals (simp only [Int32.lt_iff_toInt_lt, Int32.reduceToInt, ← Int32.toInt_inj, true_and, and_true, false_and, and_false, true_or, or_true, false_or, or_false, not_true_eq_false, not_false_eq_true] at * <;> omega)
theorem ef_5 (m : MethodId) (a : Addr) (p1 p2 p3 : Int32) : entryFrame m #[(.ref a), (.int p1), (.int p2), (.int p3)] 7 = mkF m 0 #[.val (.ref a), .val (.int p1), .val (.int p2), .val (.int p3), .unset, .unset, .unset] [] := by first | (simp [entryFrame, mkF, argsToLocals, Value.category]; done) | rfl
set_option maxRecDepth 65536 in
set_option maxHeartbeats 40000000 in
theorem rm_own_end (l : Launch) (Z : State) (a0 : Array Value) (hw : ∀ d ∈ tables_1, d.before a0 Z = true) (a : Addr) (p1 p2 p3 : Int32) (xs : List Int32) (h0 : Heap) (A : OwnGo.Ia Z h0 a .byte xs) (hlen : xs.length = 8) (G : own_G xs) (f0 : 0 ≤ p1.toInt) (ft : p1.toInt ≤ p3.toInt) (t8 : p3.toInt ≤ 8) (s0 : 0 ≤ p2.toInt) (s8 : p2.toInt ≤ 8) (G3 : p1.toInt < p3.toInt → xs.getD p1.toNatClampNeg 0 ≠ 10) :
    OwnGo.Con l (⟨"tenantry/RequestHead", "end", "([BIII)I"⟩ : MethodName) prog_13_method_2_code 7 (some .int) (OwnGo.rmP 1 32) Z #[(.ref a), (.int p1), (.int p2), (.int p3)] h0 (OwnGo.PureQ (.int (own_end xs p1 p2 p3)) h0) := by
  refine OwnGo.Con.intro (plainFor_of_name pn_1) ?_
  intro p e s m below meth c T0 X0 hx hby hml hZ hown hnm hret hlk e0
  refine OwnGo.Go.cast (ef_5 m a p1 p2 p3) ?_
  obtain ⟨r, hr⟩ : ∃ r, own_end xs p1 p2 p3 = r := ⟨_, rfl⟩
  rw [hr]
  have hfin : OwnGo.PureQ (.int r) h0 (some (.int r)) h0 [] := ⟨rfl, rfl, rfl⟩
  obtain ⟨G1, G2, G4⟩ := G
  have k16 : (p1 + (16384 : Int32)).toInt = p1.toInt + 16384 := by
    have k := c_iadd p1 16384
    have k1 := (p1 + 16384).toInt_lt
    have k2 := (p1 + 16384).le_toInt
    simp only [Int32.reduceToInt] at k
    omega
  have EX : ∀ (T0 : State) (X0 : Stand p l e (OwnGo.rmP 1 32) s m #[(.ref a), (.int p1), (.int p2), (.int p3)] below meth c T0 [] 0 0) (e0 : T0.heap = h0) (v4 i : Int32) (o6 : Slot), (-1 : Int32) = r → OwnGo.Go p.tables e below (OwnGo.Qe s (OwnGo.rmP 1 32) (OwnGo.PureQ (.int r) h0)) (T0.setTop (mkF m 135 #[.val (.ref a), .val (.int p1), .val (.int p2), .val (.int p3), .val (.int v4), .val (.int i), o6] [])) := by
    intro T0 X0 e0 v4 i o6 hr
    have W0 : OwnGo.Wk p.tables T0 m c below prog_13_method_2_code := ⟨X0.here, hx, hby⟩
    refine OwnGo.iloadN W0 (pn := 136) d5_135 rfl rfl ?_
    refine OwnGo.iloadN W0 (pn := 137) d5_136 rfl rfl ?_
    refine OwnGo.sipush (v := (16384 : Int32)) W0 (pn := 140) d5_137 rfl rfl ?_
    refine OwnGo.iadd W0 (pn := 141) d5_140 rfl ?_
    refine OwnGo.icmp_le W0 (pn := 144) (pt := 197) d5_141 rfl (by decide) (by decide) (fun h141 => ?_) (fun h141 => ?_)
    · skip
      exact absurd h141 (by rw [Int32.lt_iff_toInt_lt, k16]; omega)
    · skip
      refine OwnGo.iconst (v := (-1 : Int32)) W0 (pn := 198) d5_197 rfl rfl ?_
      exact OwnGo.ireturn X0 hx hby hret hlk rfl (by simp) d5_198 (OwnGo.fin_of hr e0 hfin) (by decide) (by decide)
  have LP : ∀ (n : Nat) (T0 : State) (X0 : Stand p l e (OwnGo.rmP 1 32) s m #[(.ref a), (.int p1), (.int p2), (.int p3)] below meth c T0 [] 0 0) (e0 : T0.heap = h0) (v4 i : Int32) (o6 : Slot) (ho_o6 : o6 = .unset ∨ ∃ w, o6 = .val w ∧ w.category = 1) (h4 : v4.toInt = p3.toInt) (hi : p1.toInt ≤ i.toInt) (hn : p3.toInt ≤ i.toInt + n), own_loop xs p1 v4 n i = r → OwnGo.Go p.tables e below (OwnGo.Qe s (OwnGo.rmP 1 32) (OwnGo.PureQ (.int r) h0)) (T0.setTop (mkF m 20 #[.val (.ref a), .val (.int p1), .val (.int p2), .val (.int p3), .val (.int v4), .val (.int i), o6] [])) := by
    intro n
    induction n with
    | zero =>
      intro T0 X0 e0 v4 i o6 ho_o6 h4 hi hn hr
      have W0 : OwnGo.Wk p.tables T0 m c below prog_13_method_2_code := ⟨X0.here, hx, hby⟩
      refine OwnGo.iload W0 (pn := 22) d5_20 rfl rfl ?_
      refine OwnGo.iload W0 (pn := 24) d5_22 rfl rfl ?_
      refine OwnGo.icmp_ge W0 (pn := 27) (pt := 135) d5_24 rfl (by decide) (by decide) (fun h24 => ?_) (fun h24 => ?_)
      · skip
        exact absurd h24 (by rw [Int32.lt_iff_toInt_lt]; omega)
      · skip
        exact EX _ X0 e0 _ _ _ hr
    | succ n ih =>
      intro T0 X0 e0 v4 i o6 ho_o6 h4 hi hn hr
      rw [own_loopS] at hr
      have Aa_0 : OwnGo.Ia Z T0.heap a .byte xs := by rw [e0]; exact A
      have W0 : OwnGo.Wk p.tables T0 m c below prog_13_method_2_code := ⟨X0.here, hx, hby⟩
      refine OwnGo.iload W0 (pn := 22) d5_20 rfl rfl ?_
      refine OwnGo.iload W0 (pn := 24) d5_22 rfl rfl ?_
      refine OwnGo.icmp_ge W0 (pn := 27) (pt := 135) d5_24 rfl (by decide) (by decide) (fun h24 => ?_) (fun h24 => ?_)
      · skip
        rw [if_pos h24] at hr
        have hlt : i.toInt < p3.toInt := by rw [← h4]; exact Int32.lt_iff_toInt_lt.mp h24
        obtain ⟨j1, j2, j3⟩ := own_i0 i (by omega) (by omega)
        have ni : (i + (1 : Int32)).toInt = i.toInt + 1 := by have k := c_iadd i 1; have k1 := (i + 1).toInt_lt; have k2 := (i + 1).le_toInt; simp only [Int32.reduceToInt] at k; omega
        refine OwnGo.aloadN W0 (pn := 28) d5_27 rfl rfl rfl ?_
        refine OwnGo.iload W0 (pn := 30) d5_28 rfl rfl ?_
        refine OwnGo.baloadB X0 hx hby hZ (pn := 31) Aa_0 j1 (OwnGo.getD_of (by rw [hlen]; exact j2)) d5_30 rfl ?_
        obtain ⟨b, e_b⟩ : ∃ z, z = xs.getD i.toNatClampNeg 0 := ⟨_, rfl⟩
        rw [← e_b] at hr ⊢
        refine OwnGo.istore W0 (pn := 33) (l' := #[.val (.ref a), .val (.int p1), .val (.int p2), .val (.int p3), .val (.int v4), .val (.int i), .val (.int b)]) d5_31 rfl (XS.store1 (o := o6) rfl ho_o6 rfl) ?_
        have B129 : ∀ (T0 : State) (X0 : Stand p l e (OwnGo.rmP 1 32) s m #[(.ref a), (.int p1), (.int p2), (.int p3)] below meth c T0 [] 0 0) (e0 : T0.heap = h0), own_loop xs p1 v4 n (i + (1 : Int32)) = r → OwnGo.Go p.tables e below (OwnGo.Qe s (OwnGo.rmP 1 32) (OwnGo.PureQ (.int r) h0)) (T0.setTop (mkF m 129 #[.val (.ref a), .val (.int p1), .val (.int p2), .val (.int p3), .val (.int v4), .val (.int i), .val (.int b)] [])) := by
          intro T0 X0 e0 hr
          have W0 : OwnGo.Wk p.tables T0 m c below prog_13_method_2_code := ⟨X0.here, hx, hby⟩
          refine OwnGo.iinc W0 (pn := 132) (l' := #[.val (.ref a), .val (.int p1), .val (.int p2), .val (.int p3), .val (.int v4), .val (.int (i + (1 : Int32))), .val (.int b)]) (v := (1 : Int32)) d5_129 rfl rfl rfl rfl ?_
          refine OwnGo.goto W0 (pt := 20) d5_132 (by decide) (by decide) ?_
          exact ih _ X0 e0 v4 _ _ (Or.inr ⟨_, rfl, rfl⟩) h4 (by omega) (by omega) hr
        refine OwnGo.iload W0 (pn := 35) d5_33 rfl rfl ?_
        refine OwnGo.bipush (v := (13 : Int32)) W0 (pn := 37) d5_35 rfl rfl ?_
        refine OwnGo.icmp_ne W0 (pn := 40) (pt := 63) d5_37 rfl (by decide) (by decide) (fun h37 => ?_) (fun h37 => ?_)
        · skip
          rw [if_pos h37] at hr
          refine OwnGo.iload W0 (pn := 42) d5_40 rfl rfl ?_
          refine OwnGo.iconst (v := (1 : Int32)) W0 (pn := 43) d5_42 rfl rfl ?_
          refine OwnGo.iadd W0 (pn := 44) d5_43 rfl ?_
          refine OwnGo.iloadN W0 (pn := 45) d5_44 rfl rfl ?_
          refine OwnGo.icmp_ge W0 (pn := 48) (pt := 129) d5_45 rfl (by decide) (by decide) (fun h45 => ?_) (fun h45 => ?_)
          · skip
            refine OwnGo.aloadN W0 (pn := 49) d5_48 rfl rfl rfl ?_
            refine OwnGo.iload W0 (pn := 51) d5_49 rfl rfl ?_
            refine OwnGo.iconst (v := (1 : Int32)) W0 (pn := 52) d5_51 rfl rfl ?_
            refine OwnGo.iadd W0 (pn := 53) d5_52 rfl ?_
            have h45' : i.toInt + 1 < p3.toInt := by rw [← ni]; exact Int32.lt_iff_toInt_lt.mp h45
            obtain ⟨l1, l2, l3⟩ := own_iy i 1 1 (by decide) (by omega) (by omega)
            refine OwnGo.baloadB X0 hx hby hZ (pn := 54) Aa_0 l1 (OwnGo.getD_of (by rw [hlen]; exact l2)) d5_53 rfl ?_
            refine OwnGo.bipush (v := (10 : Int32)) W0 (pn := 56) d5_54 rfl rfl ?_
            refine OwnGo.icmp_eq W0 (pn := 59) (pt := 129) d5_56 rfl (by decide) (by decide) (fun h56 => ?_) (fun h56 => ?_)
            · skip
              exact B129 _ X0 e0 hr
            · skip
              exact absurd (by rw [show (i + (1 : Int32)).toNatClampNeg = i.toNatClampNeg + 1 by omega]; exact G1 _ (by omega) (e_b ▸ h37)) h56
          · skip
            exact B129 _ X0 e0 hr
        · skip
          rw [if_neg h37] at hr
          refine OwnGo.iload W0 (pn := 65) d5_63 rfl rfl ?_
          refine OwnGo.bipush (v := (10 : Int32)) W0 (pn := 67) d5_65 rfl rfl ?_
          refine OwnGo.icmp_ne W0 (pn := 70) (pt := 115) d5_67 rfl (by decide) (by decide) (fun h67 => ?_) (fun h67 => ?_)
          · skip
            rw [if_pos h67] at hr
            have g2 := G2 _ j2 (e_b ▸ h67)
            refine OwnGo.iload W0 (pn := 72) d5_70 rfl rfl ?_
            refine OwnGo.iloadN W0 (pn := 73) d5_72 rfl rfl ?_
            refine OwnGo.icmp_eq W0 (pn := 76) (pt := 87) d5_73 rfl (by decide) (by decide) (fun h73 => ?_) (fun h73 => ?_)
            · skip
              subst h73; exact absurd (e_b ▸ h67) (G3 (by omega))
            · skip
              have hne : i.toInt ≠ p1.toInt := fun q => h73 (Int32.toInt_inj.mp q)
              obtain ⟨l1, l2, l3⟩ := own_ix i 1 1 (by decide) (by decide) (by omega) (by omega)
              refine OwnGo.aloadN W0 (pn := 77) d5_76 rfl rfl rfl ?_
              refine OwnGo.iload W0 (pn := 79) d5_77 rfl rfl ?_
              refine OwnGo.iconst (v := (1 : Int32)) W0 (pn := 80) d5_79 rfl rfl ?_
              refine OwnGo.isub W0 (pn := 81) d5_80 rfl ?_
              refine OwnGo.baloadB X0 hx hby hZ (pn := 82) Aa_0 l1 (OwnGo.getD_of (by rw [hlen]; exact l2)) d5_81 rfl ?_
              refine OwnGo.bipush (v := (13 : Int32)) W0 (pn := 84) d5_82 rfl rfl ?_
              refine OwnGo.icmp_eq W0 (pn := 87) (pt := 91) d5_84 rfl (by decide) (by decide) (fun h84 => ?_) (fun h84 => ?_)
              · skip
                have ki := c_isub i p1
                have ki1 := (i - p1).toInt_lt
                have ki2 := (i - p1).le_toInt
                refine OwnGo.iload W0 (pn := 93) d5_91 rfl rfl ?_
                refine OwnGo.iloadN W0 (pn := 94) d5_93 rfl rfl ?_
                refine OwnGo.isub W0 (pn := 95) d5_94 rfl ?_
                refine OwnGo.iconst (v := (3 : Int32)) W0 (pn := 96) d5_95 rfl rfl ?_
                refine OwnGo.icmp_lt W0 (pn := 99) (pt := 129) d5_96 rfl (by decide) (by decide) (fun h96 => ?_) (fun h96 => ?_)
                · skip
                  rw [if_pos h96] at hr
                  exact B129 _ X0 e0 hr
                · skip
                  rw [if_neg h96] at hr
                  rw [Int32.lt_iff_toInt_lt] at h96
                  simp only [Int32.reduceToInt] at h96
                  obtain ⟨q1, q2, q3⟩ := own_ix i 2 2 (by decide) (by decide) (by omega) (by omega)
                  refine OwnGo.aloadN W0 (pn := 100) d5_99 rfl rfl rfl ?_
                  refine OwnGo.iload W0 (pn := 102) d5_100 rfl rfl ?_
                  refine OwnGo.iconst (v := (2 : Int32)) W0 (pn := 103) d5_102 rfl rfl ?_
                  refine OwnGo.isub W0 (pn := 104) d5_103 rfl ?_
                  refine OwnGo.baloadB X0 hx hby hZ (pn := 105) Aa_0 q1 (OwnGo.getD_of (by rw [hlen]; exact q2)) d5_104 rfl ?_
                  refine OwnGo.bipush (v := (10 : Int32)) W0 (pn := 107) d5_105 rfl rfl ?_
                  refine OwnGo.icmp_ne W0 (pn := 110) (pt := 129) d5_107 rfl (by decide) (by decide) (fun h107 => ?_) (fun h107 => ?_)
                  · skip
                    rw [if_pos h107] at hr
                    refine OwnGo.iload W0 (pn := 112) d5_110 rfl rfl ?_
                    refine OwnGo.iconst (v := (1 : Int32)) W0 (pn := 113) d5_112 rfl rfl ?_
                    refine OwnGo.iadd W0 (pn := 114) d5_113 rfl ?_
                    exact OwnGo.ireturn X0 hx hby hret hlk rfl (by simp) d5_114 (OwnGo.fin_of hr e0 hfin) (by decide) (by decide)
                  · skip
                    rw [if_neg h107] at hr
                    exact B129 _ X0 e0 hr
              · skip
                exact absurd (by rw [show (i - (1 : Int32)).toNatClampNeg = i.toNatClampNeg - 1 by omega]; exact g2.2) h84
          · skip
            rw [if_neg h67] at hr
            refine OwnGo.iload W0 (pn := 117) d5_115 rfl rfl ?_
            refine OwnGo.callP X0 hx hby hZ hown (argsL := [(.int b)]) (rest := []) (pn := 120) (hw _ (List.mem_of_getElem? (i := 27) rfl)) (hw _ (List.mem_of_getElem? (i := 28) rfl)) (hw _ (List.mem_of_getElem? (i := 18) rfl)) (hw _ (List.mem_of_getElem? (i := 29) rfl)) (by decide) (rm_own_ctl l Z a0 hw b _) (by decide) (Nat.le_of_ble_eq_true rfl) (by decide) (by decide) (lenOf pd_6 rfl) (by rw [hml]; rfl) rfl d5_117 rfl (fun T1 X1 f1 => ?_)
            have Aa_1 : OwnGo.Ia Z T1.heap a .byte xs := by rw [f1]; exact Aa_0
            have W1 : OwnGo.Wk p.tables T1 m c below prog_13_method_2_code := ⟨X1.here, hx, hby⟩
            have e1 := f1.trans e0
            refine OwnGo.if_eq W1 (pn := 123) (pt := 129) d5_120 rfl (by decide) (by decide) (fun h120 => ?_) (fun h120 => ?_)
            · skip
              exact B129 _ X1 e1 hr
            · skip
              exact absurd (by rw [e_b]; exact G4 _ j2 (e_b ▸ h37) (e_b ▸ h67)) h120
      · skip
        rw [if_neg h24] at hr
        exact EX _ X0 e0 _ _ _ hr
  unfold own_end at hr
  have W0 : OwnGo.Wk p.tables T0 m c below prog_13_method_2_code := ⟨X0.here, hx, hby⟩
  refine OwnGo.iloadN W0 (pn := 1) d5_0 rfl rfl ?_
  refine OwnGo.iloadN W0 (pn := 2) d5_1 rfl rfl ?_
  refine OwnGo.sipush (v := (16384 : Int32)) W0 (pn := 5) d5_2 rfl rfl ?_
  refine OwnGo.iadd W0 (pn := 6) d5_5 rfl ?_
  refine OwnGo.callP X0 hx hby hZ hown (argsL := [(.int p3), (.int (p1 + (16384 : Int32)))]) (rest := []) (pn := 9) (hw _ (List.mem_of_getElem? (i := 20) rfl)) (hw _ (List.mem_of_getElem? (i := 21) rfl)) (hw _ (List.mem_of_getElem? (i := 22) rfl)) (hw _ (List.mem_of_getElem? (i := 23) rfl)) (by decide) (rm_own_min l Z a0 hw p3 (p1 + (16384 : Int32)) _) (by decide) (Nat.le_of_ble_eq_true rfl) (by decide) (by decide) (lenOf pd_5 rfl) (by rw [hml]; rfl) rfl d5_6 rfl (fun T1 X1 f1 => ?_)
  have W1 : OwnGo.Wk p.tables T1 m c below prog_13_method_2_code := ⟨X1.here, hx, hby⟩
  have e1 := f1.trans e0
  refine OwnGo.istore W1 (pn := 11) (l' := #[.val (.ref a), .val (.int p1), .val (.int p2), .val (.int p3), .val (.int (own_min p3 (p1 + (16384 : Int32)))), .unset, .unset]) d5_9 rfl rfl ?_
  refine OwnGo.iloadN W1 (pn := 12) d5_11 rfl rfl ?_
  refine OwnGo.iloadN W1 (pn := 13) d5_12 rfl rfl ?_
  refine OwnGo.iconst (v := (1 : Int32)) W1 (pn := 14) d5_13 rfl rfl ?_
  refine OwnGo.isub W1 (pn := 15) d5_14 rfl ?_
  refine OwnGo.callP X1 hx hby hZ hown (argsL := [(.int p1), (.int (p2 - (1 : Int32)))]) (rest := []) (pn := 18) (hw _ (List.mem_of_getElem? (i := 24) rfl)) (hw _ (List.mem_of_getElem? (i := 25) rfl)) (hw _ (List.mem_of_getElem? (i := 22) rfl)) (hw _ (List.mem_of_getElem? (i := 26) rfl)) (by decide) (rm_own_max l Z a0 hw p1 (p2 - (1 : Int32)) _) (by decide) (Nat.le_of_ble_eq_true rfl) (by decide) (by decide) (lenOf pd_5 rfl) (by rw [hml]; rfl) rfl d5_15 rfl (fun T2 X2 f2 => ?_)
  have W2 : OwnGo.Wk p.tables T2 m c below prog_13_method_2_code := ⟨X2.here, hx, hby⟩
  have e2 := f2.trans e1
  refine OwnGo.istore W2 (pn := 20) (l' := #[.val (.ref a), .val (.int p1), .val (.int p2), .val (.int p3), .val (.int (own_min p3 (p1 + (16384 : Int32)))), .val (.int (own_max p1 (p2 - (1 : Int32)))), .unset]) d5_18 rfl rfl ?_
  have q1 := own_cmin p3 (p1 + (16384 : Int32))
  have q2 := own_cmax p1 (p2 - (1 : Int32))
  exact LP 9 _ X2 e2 _ _ _ (Or.inl rfl) (by omega) (by omega) (by omega) hr
def own_E (xs : List Int32) (f t : Int) (j : Nat) : Prop := f + 3 ≤ j ∧ (j : Int) < t ∧ xs.getD (j - 3) 0 = 13 ∧ xs.getD (j - 2) 0 = 10 ∧ xs.getD (j - 1) 0 = 13 ∧ xs.getD j 0 = 10
theorem own_cends (xs : List Int32) (p1 p2 p3 : Int32) (h3 : 3 ≤ p3.toInt) (h7 : p3.toInt ≤ 7) : ((own_ends xs p1 p2 p3).toInt = 1 ∧ own_E xs p1.toInt p2.toInt p3.toNatClampNeg) ∨ ((own_ends xs p1 p2 p3).toInt = 0 ∧ ¬ own_E xs p1.toInt p2.toInt p3.toNatClampNeg) := by
  have i3 := (own_ix p3 3 3 (by decide) (by decide) (by omega) (by omega)).2.2
  have i2 := (own_ix p3 2 2 (by decide) (by decide) (by omega) (by omega)).2.2
  have i1 := (own_ix p3 1 1 (by decide) (by decide) (by omega) (by omega)).2.2
  have i0 := (own_i0 p3 (by omega) (by omega)).2.2
  have k3 := c_isub p3 3
  have k31 := (p3 - 3).toInt_lt
  have k32 := (p3 - 3).le_toInt
  simp only [Int32.reduceToInt] at k3
  have e3 : (p3 - 3).toNatClampNeg = p3.toNatClampNeg - 3 := by omega
  have e2 : (p3 - 2).toNatClampNeg = p3.toNatClampNeg - 2 := by omega
  have e1 : (p3 - 1).toNatClampNeg = p3.toNatClampNeg - 1 := by omega
  have s3 : (p3 - 3).toInt = p3.toInt - 3 := by omega
  simp only [own_ends_54, own_ends, e3, e2, e1]
  unfold own_E
  generalize xs.getD (p3.toNatClampNeg - 3) 0 = b3 at *
  generalize xs.getD (p3.toNatClampNeg - 2) 0 = b2 at *
  generalize xs.getD (p3.toNatClampNeg - 1) 0 = b1 at *
  generalize xs.getD p3.toNatClampNeg 0 = b0 at *
  generalize p3 - 3 = q3 at *
  generalize p3.toNatClampNeg = k at *
  clear i3 i2 i1 e3 e2 e1 k3 k31 k32
  repeat' split
  all_goals (simp only [Int32.lt_iff_toInt_lt, Int32.reduceToInt, ← Int32.toInt_inj, true_and, and_true, false_and, and_false, true_or, or_true, false_or, or_false, not_true_eq_false, not_false_eq_true] at * <;> omega)
theorem own_cfirst (xs : List Int32) (p1 p2 : Int32) : (∃ j : Nat, 3 ≤ j ∧ j ≤ 7 ∧ own_E xs p1.toInt p2.toInt j ∧ (∀ i : Nat, 3 ≤ i → i < j → ¬ own_E xs p1.toInt p2.toInt i) ∧ (own_first xs p1 p2).toInt = j + 1) ∨ ((∀ i : Nat, 3 ≤ i → i ≤ 7 → ¬ own_E xs p1.toInt p2.toInt i) ∧ (own_first xs p1 p2).toInt = -1) := by
  have h3 := own_cends xs p1 p2 3 (by decide) (by decide)
  have h4 := own_cends xs p1 p2 4 (by decide) (by decide)
  have h5 := own_cends xs p1 p2 5 (by decide) (by decide)
  have h6 := own_cends xs p1 p2 6 (by decide) (by decide)
  have h7 := own_cends xs p1 p2 7 (by decide) (by decide)
  rw [show (3 : Int32).toNatClampNeg = 3 from rfl] at h3
  rw [show (4 : Int32).toNatClampNeg = 4 from rfl] at h4
  rw [show (5 : Int32).toNatClampNeg = 5 from rfl] at h5
  rw [show (6 : Int32).toNatClampNeg = 6 from rfl] at h6
  rw [show (7 : Int32).toNatClampNeg = 7 from rfl] at h7
  have z : ∀ q : Int32, (q.toInt = 1 → ¬ q = 0) ∧ (q.toInt = 0 → q = 0) := fun q => ⟨fun h e => by subst e; simp at h, fun h => Int32.toInt_inj.mp h⟩
  simp only [own_first]
  generalize own_E xs p1.toInt p2.toInt = E at *
  rcases h3 with ⟨a3, b3⟩ | ⟨a3, b3⟩
  · rw [if_neg ((z _).1 a3)]; exact Or.inl ⟨3, by omega, by omega, b3, fun i u v => by omega, by decide⟩
  rw [if_pos ((z _).2 a3)]
  rcases h4 with ⟨a4, b4⟩ | ⟨a4, b4⟩
  · rw [if_neg ((z _).1 a4)]; exact Or.inl ⟨4, by omega, by omega, b4, fun i u v => (show i = 3 by omega) ▸ b3, by decide⟩
  rw [if_pos ((z _).2 a4)]
  rcases h5 with ⟨a5, b5⟩ | ⟨a5, b5⟩
  · rw [if_neg ((z _).1 a5)]; exact Or.inl ⟨5, by omega, by omega, b5, fun i u v => by rcases (by omega : i = 3 ∨ i = 4) with rfl | rfl <;> assumption, by decide⟩
  rw [if_pos ((z _).2 a5)]
  rcases h6 with ⟨a6, b6⟩ | ⟨a6, b6⟩
  · rw [if_neg ((z _).1 a6)]; exact Or.inl ⟨6, by omega, by omega, b6, fun i u v => by rcases (by omega : i = 3 ∨ i = 4 ∨ i = 5) with rfl | rfl | rfl <;> assumption, by decide⟩
  rw [if_pos ((z _).2 a6)]
  rcases h7 with ⟨a7, b7⟩ | ⟨a7, b7⟩
  · rw [if_neg ((z _).1 a7)]; exact Or.inl ⟨7, by omega, by omega, b7, fun i u v => by rcases (by omega : i = 3 ∨ i = 4 ∨ i = 5 ∨ i = 6) with rfl | rfl | rfl | rfl <;> assumption, by decide⟩
  rw [if_pos ((z _).2 a7)]
  exact Or.inr ⟨fun i u v => by rcases (by omega : i = 3 ∨ i = 4 ∨ i = 5 ∨ i = 6 ∨ i = 7) with rfl | rfl | rfl | rfl | rfl <;> assumption, by decide⟩
theorem own_cloop (xs : List Int32) (p1 v4 : Int32) (G : own_G xs) (f0 : 0 ≤ p1.toInt) (t8 : v4.toInt ≤ 8) : ∀ (n : Nat) (i : Int32), p1.toInt ≤ i.toInt → v4.toInt ≤ i.toInt + n →
    (∃ j : Nat, i.toInt ≤ j ∧ own_E xs p1.toInt v4.toInt j ∧ (∀ q : Nat, i.toInt ≤ q → q < j → ¬ own_E xs p1.toInt v4.toInt q) ∧ (own_loop xs p1 v4 n i).toInt = j + 1) ∨ ((∀ q : Nat, i.toInt ≤ q → ¬ own_E xs p1.toInt v4.toInt q) ∧ (own_loop xs p1 v4 n i).toInt = -1) := by
  intro n
  induction n with
  | zero =>
    intro i hi hn
    refine Or.inr ⟨fun q hq hE => ?_, by rw [own_loop0]; decide⟩
    have := hE.2.1
    omega
  | succ n ih =>
    intro i hi hn
    rw [own_loopS]
    by_cases hlt : i < v4
    · rw [if_pos hlt]
      rw [Int32.lt_iff_toInt_lt] at hlt
      have ni : (i + (1 : Int32)).toInt = i.toInt + 1 := by
        have k := c_iadd i 1
        have k1 := (i + 1).toInt_lt
        have k2 := (i + 1).le_toInt
        simp only [Int32.reduceToInt] at k
        omega
      have j3 := (own_i0 i (by omega) (by omega)).2.2
      have next : ¬ own_E xs p1.toInt v4.toInt i.toNatClampNeg → (∃ j : Nat, i.toInt ≤ j ∧ own_E xs p1.toInt v4.toInt j ∧ (∀ q : Nat, i.toInt ≤ q → q < j → ¬ own_E xs p1.toInt v4.toInt q) ∧ (own_loop xs p1 v4 n (i + (1 : Int32))).toInt = j + 1) ∨ ((∀ q : Nat, i.toInt ≤ q → ¬ own_E xs p1.toInt v4.toInt q) ∧ (own_loop xs p1 v4 n (i + (1 : Int32))).toInt = -1) := by
        intro hne
        rcases ih (i + 1) (by omega) (by omega) with ⟨j, a, b, d, e⟩ | ⟨a, b⟩
        · refine Or.inl ⟨j, by omega, b, fun q hq hqj => ?_, e⟩
          by_cases hqi : q = i.toNatClampNeg
          · rw [hqi]; exact hne
          · exact d q (by omega) hqj
        · refine Or.inr ⟨fun q hq => ?_, b⟩
          by_cases hqi : q = i.toNatClampNeg
          · rw [hqi]; exact hne
          · exact a q (by omega)
      by_cases h13 : xs.getD i.toNatClampNeg 0 = 13
      · rw [if_pos h13]
        exact next fun hE => by have := hE.2.2.2.2.2; rw [h13] at this; exact absurd this (by decide)
      rw [if_neg h13]
      by_cases h10 : xs.getD i.toNatClampNeg 0 = 10
      · rw [if_pos h10]
        have g2 := G.2.1 _ (by omega) h10
        have ki := c_isub i p1
        have ki1 := (i - p1).toInt_lt
        have ki2 := (i - p1).le_toInt
        by_cases h3 : i - p1 < 3
        · rw [if_pos h3]
          rw [Int32.lt_iff_toInt_lt] at h3
          simp only [Int32.reduceToInt] at h3
          exact next fun hE => by have := hE.1; omega
        rw [if_neg h3]
        rw [Int32.lt_iff_toInt_lt] at h3
        simp only [Int32.reduceToInt] at h3
        have i2 := (own_ix i 2 2 (by decide) (by decide) (by omega) (by omega)).2.2
        rw [show (i - (2 : Int32)).toNatClampNeg = i.toNatClampNeg - 2 by omega]
        by_cases hb : xs.getD (i.toNatClampNeg - 2) 0 = 10
        · rw [if_pos hb]
          have g3 := G.2.1 _ (by omega) hb
          refine Or.inl ⟨i.toNatClampNeg, by omega, ⟨by omega, by omega, ?_, hb, g2.2, h10⟩, fun q h1 h2 => by omega, by omega⟩
          rw [show i.toNatClampNeg - 3 = i.toNatClampNeg - 2 - 1 by omega]; exact g3.2
        · rw [if_neg hb]
          exact next fun hE => hb hE.2.2.2.1
      · rw [if_neg h10]
        exact next fun hE => h10 hE.2.2.2.2.2
    · rw [if_neg hlt]
      rw [Int32.lt_iff_toInt_lt] at hlt
      exact Or.inr ⟨fun q hq hE => by have := hE.2.1; omega, by decide⟩
theorem own_plain (xs : List Int32) (fr sc to bd : Int32) (G : own_G xs) (f0 : 0 ≤ fr.toInt) (ft : fr.toInt ≤ to.toInt) (t8 : to.toInt ≤ 8) (hb : bd = if own_first xs fr to < 0 then to else own_first xs fr to - (1 : Int32)) (s0 : fr.toInt ≤ sc.toInt) (s1 : sc.toInt ≤ bd.toInt) : own_end xs fr sc to = own_first xs fr to := by
  have k := c_iadd fr 16384
  have k1 := (fr + 16384).toInt_lt
  have k2 := (fr + 16384).le_toInt
  have q1 := own_cmin to (fr + 16384)
  have q2 := own_cmax fr (sc - 1)
  have m := c_isub sc 1
  have m1 := (sc - 1).toInt_lt
  have m2 := (sc - 1).le_toInt
  simp only [Int32.reduceToInt] at k m
  have hv : own_min to (fr + 16384) = to := Int32.toInt_inj.mp (by omega)
  unfold own_end
  rw [hv]
  generalize own_max fr (sc - 1) = i0 at *
  have hf := own_cfirst xs fr to
  have hl := own_cloop xs fr to G f0 t8 9 i0 (by omega) (by omega)
  apply Int32.toInt_inj.mp
  generalize own_loop xs fr to 9 i0 = rl at *
  generalize own_first xs fr to = ex at *
  have em := c_isub ex 1
  have em1 := (ex - 1).toInt_lt
  have em2 := (ex - 1).le_toInt
  simp only [Int32.reduceToInt] at em
  rcases hf with ⟨j, a1, a2, a3, a4, a5⟩ | ⟨a1, a2⟩
  · have hbd : bd.toInt = j := by
      rw [hb, if_neg (by rw [Int32.lt_iff_toInt_lt]; simp only [Int32.reduceToInt]; omega)]; omega
    have := a3.1
    rcases hl with ⟨j2, b1, b2, b3, b4⟩ | ⟨b1, b2⟩
    · have c1 : ¬ j < j2 := fun h => b3 j (by omega) h a3
      have c2 : ¬ j2 < j := fun h => a4 j2 (by have := b2.1; omega) h b2
      omega
    · exact absurd a3 (b1 j (by omega))
  · rcases hl with ⟨j2, b1, b2, b3, b4⟩ | ⟨b1, b2⟩
    · exact absurd b2 (a1 j2 (by have := b2.1; omega) (by have := b2.2.1; omega))
    · omega
theorem own_cctl (b : Int32) : ((own_ctl b).toInt = 1 ∧ (b.toInt = 127 ∨ (0 ≤ b.toInt ∧ b.toInt < 32 ∧ b.toInt ≠ 9))) ∨ ((own_ctl b).toInt = 0 ∧ ¬ (b.toInt = 127 ∨ (0 ≤ b.toInt ∧ b.toInt < 32 ∧ b.toInt ≠ 9))) := by
  simp only [own_ctl_22, own_ctl_16, own_ctl]
  repeat' split
  all_goals (simp only [Int32.lt_iff_toInt_lt, Int32.reduceToInt, ← Int32.toInt_inj, true_and, and_true, false_and, and_false, true_or, or_true, false_or, or_false, not_true_eq_false, not_false_eq_true] at * <;> omega)
def own_ok (b : Int32) : Prop := b ≠ 13 ∧ b ≠ 10 ∧ own_ctl b = 0
theorem own_oks (v : Int64) : own_ok (nar .byte (own_safe v)) := by
  have k1 : (v &&& 255).toInt = v.toInt % (2 ^ 8 : Nat) := c_maskL _ _ 8 (by decide) (by decide)
  have k2 := c_l2i (v &&& 255)
  have k3 := ((v &&& 255).toInt32).toInt_lt
  have k4 := ((v &&& 255).toInt32).le_toInt
  have nb : ∀ z : Int32, nar .byte z = z.toInt8.toInt32 := fun _ => rfl
  have hz : 0 ≤ ((v &&& 255).toInt32).toInt ∧ ((v &&& 255).toInt32).toInt < 256 := by omega
  have fin : ∀ b : Int32, b.toInt ≠ 13 → b.toInt ≠ 10 → ¬ (b.toInt = 127 ∨ (0 ≤ b.toInt ∧ b.toInt < 32 ∧ b.toInt ≠ 9)) → own_ok b := fun b h1 h2 h3 => ⟨fun e => h1 (by rw [e]; decide), fun e => h2 (by rw [e]; decide), by
    rcases own_cctl b with ⟨q, r⟩ | ⟨q, r⟩
    · exact absurd r h3
    · exact Int32.toInt_inj.mp q⟩
  simp only [own_safe_34, own_safe, nb]
  generalize (v &&& 255).toInt32 = z at *
  have u := c_iadd z 32
  have u1 := (z + 32).toInt_lt
  have u2 := (z + 32).le_toInt
  simp only [Int32.reduceToInt] at u
  have w1 := c_i2b z
  have w2 := c_i2b (z + 32)
  have w3 := c_i2b (z + 32).toInt8.toInt32
  have w4 := c_i2b z.toInt8.toInt32
  repeat' split
  all_goals (simp only [Int32.lt_iff_toInt_lt, Int32.reduceToInt, ← Int32.toInt_inj, true_and, and_true, false_and, and_false, true_or, or_true, false_or, or_false, not_true_eq_false, not_false_eq_true] at *; apply fin)
  all_goals first | decide | omega
def own_pair (x y : Int32) : Prop := (x = 13 ∧ y = 10) ∨ (own_ok x ∧ own_ok y)
def own_x (d : Int32) (v : Int64) : Int32 := if d = 0 then nar .byte (own_safe v) else nar .byte (13 : Int32)
def own_y (d : Int32) (v : Int64) : Int32 := if d = 0 then nar .byte (own_safe v) else nar .byte (10 : Int32)
theorem own_pairs (d : Int32) (v w : Int64) : own_pair (own_x d v) (own_y d w) := by
  unfold own_x own_y own_pair
  by_cases h : d = 0
  · rw [if_pos h, if_pos h]; exact Or.inr ⟨own_oks v, own_oks w⟩
  · rw [if_neg h, if_neg h]; exact Or.inl ⟨by decide, by decide⟩
theorem own_slot_eq (xs : List Int32) (p1 p2 : Int32) (q3 : Int64) : own_slot xs p1 p2 q3 = (xs.set ((2 : Int32) * p1).toNatClampNeg (own_x p2 (XT.ushrL q3 ((16 : Int32) * p1)))).set (((2 : Int32) * p1) + (1 : Int32)).toNatClampNeg (own_y p2 (XT.ushrL q3 (((16 : Int32) * p1) + (8 : Int32)))) := by
  unfold own_slot own_x own_y
  split <;> rfl
theorem own_slot_len (xs : List Int32) (p1 p2 : Int32) (q3 : Int64) (h : xs.length = 8) : (own_slot xs p1 p2 q3).length = 8 := by
  rw [own_slot_eq, List.length_set, List.length_set, h]
theorem own_good (d0 d1 d2 d3 : Int32) (q : Int64) : own_G (own_slot (own_slot (own_slot (own_slot (List.replicate (8 : Int32).toNatClampNeg 0) (0 : Int32) d0 q) (1 : Int32) d1 q) (2 : Int32) d2 q) (3 : Int32) d3 q) := by
  simp only [own_slot_eq]
  have e : (((((((((List.replicate (8 : Int32).toNatClampNeg (0 : Int32)).set ((2 : Int32) * 0).toNatClampNeg (own_x d0 (XT.ushrL q (16 * 0)))).set (2 * 0 + 1 : Int32).toNatClampNeg (own_y d0 (XT.ushrL q (16 * 0 + 8)))).set ((2 : Int32) * 1).toNatClampNeg (own_x d1 (XT.ushrL q (16 * 1)))).set (2 * 1 + 1 : Int32).toNatClampNeg (own_y d1 (XT.ushrL q (16 * 1 + 8)))).set ((2 : Int32) * 2).toNatClampNeg (own_x d2 (XT.ushrL q (16 * 2)))).set (2 * 2 + 1 : Int32).toNatClampNeg (own_y d2 (XT.ushrL q (16 * 2 + 8)))).set ((2 : Int32) * 3).toNatClampNeg (own_x d3 (XT.ushrL q (16 * 3)))).set (2 * 3 + 1 : Int32).toNatClampNeg (own_y d3 (XT.ushrL q (16 * 3 + 8)))) =
      [own_x d0 (XT.ushrL q (16 * 0)), own_y d0 (XT.ushrL q (16 * 0 + 8)), own_x d1 (XT.ushrL q (16 * 1)), own_y d1 (XT.ushrL q (16 * 1 + 8)), own_x d2 (XT.ushrL q (16 * 2)), own_y d2 (XT.ushrL q (16 * 2 + 8)), own_x d3 (XT.ushrL q (16 * 3)), own_y d3 (XT.ushrL q (16 * 3 + 8))] := rfl
  rw [e]
  have P0 := own_pairs d0 (XT.ushrL q (16 * 0)) (XT.ushrL q (16 * 0 + 8))
  have P1 := own_pairs d1 (XT.ushrL q (16 * 1)) (XT.ushrL q (16 * 1 + 8))
  have P2 := own_pairs d2 (XT.ushrL q (16 * 2)) (XT.ushrL q (16 * 2 + 8))
  have P3 := own_pairs d3 (XT.ushrL q (16 * 3)) (XT.ushrL q (16 * 3 + 8))
  generalize own_x d0 (XT.ushrL q (16 * 0)) = x0 at *
  generalize own_y d0 (XT.ushrL q (16 * 0 + 8)) = y0 at *
  generalize own_x d1 (XT.ushrL q (16 * 1)) = x1 at *
  generalize own_y d1 (XT.ushrL q (16 * 1 + 8)) = y1 at *
  generalize own_x d2 (XT.ushrL q (16 * 2)) = x2 at *
  generalize own_y d2 (XT.ushrL q (16 * 2 + 8)) = y2 at *
  generalize own_x d3 (XT.ushrL q (16 * 3)) = x3 at *
  generalize own_y d3 (XT.ushrL q (16 * 3 + 8)) = y3 at *
  clear e
  have a : ∀ {x y : Int32}, own_pair x y → (x = 13 → y = 10) ∧ ¬ y = 13 ∧ ¬ x = 10 ∧ (y = 10 → x = 13) ∧ (x ≠ 13 → own_ctl x = 0) ∧ (y ≠ 10 → own_ctl y = 0) := by
    intro x y h
    rcases h with ⟨rfl, rfl⟩ | ⟨⟨h1, h2, h3⟩, ⟨h4, h5, h6⟩⟩
    · decide
    · exact ⟨fun h => absurd h h1, h4, h2, fun h => absurd h h5, fun _ => h3, fun _ => h6⟩
  have b0 := a P0
  have b1 := a P1
  have b2 := a P2
  have b3 := a P3
  refine ⟨fun k hk h => ?_, fun k hk h => ?_, fun k hk h1 h2 => ?_⟩
  · rcases (by omega : k = 0 ∨ k = 1 ∨ k = 2 ∨ k = 3 ∨ k = 4 ∨ k = 5 ∨ k = 6) with rfl | rfl | rfl | rfl | rfl | rfl | rfl
    · exact b0.1 h
    · exact absurd h b0.2.1
    · exact b1.1 h
    · exact absurd h b1.2.1
    · exact b2.1 h
    · exact absurd h b2.2.1
    · exact b3.1 h
  · rcases (by omega : k = 0 ∨ k = 1 ∨ k = 2 ∨ k = 3 ∨ k = 4 ∨ k = 5 ∨ k = 6 ∨ k = 7) with rfl | rfl | rfl | rfl | rfl | rfl | rfl | rfl
    · exact absurd h b0.2.2.1
    · exact ⟨by decide, b0.2.2.2.1 h⟩
    · exact absurd h b1.2.2.1
    · exact ⟨by decide, b1.2.2.2.1 h⟩
    · exact absurd h b2.2.2.1
    · exact ⟨by decide, b2.2.2.2.1 h⟩
    · exact absurd h b3.2.2.1
    · exact ⟨by decide, b3.2.2.2.1 h⟩
  · rcases (by omega : k = 0 ∨ k = 1 ∨ k = 2 ∨ k = 3 ∨ k = 4 ∨ k = 5 ∨ k = 6 ∨ k = 7) with rfl | rfl | rfl | rfl | rfl | rfl | rfl | rfl
    · exact b0.2.2.2.2.1 h1
    · exact b0.2.2.2.2.2 h2
    · exact b1.2.2.2.2.1 h1
    · exact b1.2.2.2.2.2 h2
    · exact b2.2.2.2.2.1 h1
    · exact b2.2.2.2.2.2 h2
    · exact b3.2.2.2.2.1 h1
    · exact b3.2.2.2.2.2 h2
theorem own_rem (x y : Int32) (h0 : 0 ≤ x.toInt) (hy : 0 < y.toInt) : 0 ≤ (x - x / y * y).toInt ∧ (x - x / y * y).toInt < y.toInt := by
  rw [irem_eq_mod]
  have := (c_iremV x y).1 h0 hy
  exact ⟨this.1, this.2.1⟩
theorem own_mx (x : Int32) : 0 ≤ (x &&& 2147483647).toInt := by
  have : (x &&& 2147483647).toInt = x.toInt % (2 ^ 31 : Nat) := c_mask _ _ 31 (by decide) (by decide)
  omega
theorem own_bdr (xs : List Int32) (fr to bd : Int32) (f0 : 0 ≤ fr.toInt) (ft : fr.toInt ≤ to.toInt) (t8 : to.toInt ≤ 8) (hb : bd = if own_first xs fr to < 0 then to else own_first xs fr to - (1 : Int32)) : fr.toInt ≤ bd.toInt ∧ bd.toInt ≤ 8 := by
  have hf := own_cfirst xs fr to
  generalize own_first xs fr to = ex at *
  have em := c_isub ex 1
  have em1 := (ex - 1).toInt_lt
  have em2 := (ex - 1).le_toInt
  simp only [Int32.reduceToInt] at em
  rcases hf with ⟨j, a1, a2, a3, a4, a5⟩ | ⟨a1, a2⟩
  · have := a3.1
    rw [hb, if_neg (by rw [Int32.lt_iff_toInt_lt]; simp only [Int32.reduceToInt]; omega)]
    omega
  · rw [hb, if_pos (by rw [Int32.lt_iff_toInt_lt]; simp only [Int32.reduceToInt]; omega)]
    omega
def own_Q (n0 : Nat) (v : Option Value) (h : Heap) (L : List Loc) : Prop := v = some (.int (1 : Int32)) ∧ Fr n0 L
theorem ef_0 (m : MethodId) (p0 : Int32) (q1 : Int64) (p3 p4 p5 : Int32) : entryFrame m #[(.int p0), (.long q1), (.int p3), (.int p4), (.int p5)] maxLocals = mkF m 0 #[.val (.int p0), .val (.long q1), .second, .val (.int p3), .val (.int p4), .val (.int p5), .unset, .unset, .unset, .unset, .unset, .unset] [] := by first | (simp [entryFrame, mkF, argsToLocals, Value.category, maxLocals]; done) | rfl
set_option maxRecDepth 65536 in
set_option maxHeartbeats 40000000 in
theorem rm_law (l : Launch) (Z : State) (a0 : Array Value) (hw : ∀ d ∈ tables_1, d.before a0 Z = true) (p0 : Int32) (q1 : Int64) (p3 p4 p5 : Int32) (h0 : Heap) (n0 : Nat) (Z0 : n0 ≤ h0.size) :
    OwnGo.Con l x code maxLocals ret room_1 Z #[(.int p0), (.long q1), (.int p3), (.int p4), (.int p5)] h0 (own_Q n0) := by
  refine OwnGo.Con.intro (plainFor_of_name pn_0) ?_
  intro p e s m below meth c T0 X0 hx hby hml hZ hown hnm hret hlk e0
  refine OwnGo.Go.cast (ef_0 m p0 q1 p3 p4 p5) ?_
  have N0 := Fr.nil n0
  have Z_0 : n0 ≤ T0.heap.size := by rw [e0]; exact Z0
  have W0 : OwnGo.Wk p.tables T0 m c below code := ⟨X0.here, hx, hby⟩
  refine OwnGo.bipush (v := (8 : Int32)) W0 (pn := 2) at_0 rfl rfl ?_
  refine OwnGo.newarr X0 hx hby hZ (pn := 4) (hw _ (List.mem_of_getElem? (i := 0) rfl)) rfl (by decide) 8 (by decide) (by decide) (by decide) (by decide) at_2 rfl (fun T1 X1 E1 Ab_1 => ?_)
  obtain ⟨b, gb⟩ : ∃ z, z = T0.heap.size := ⟨_, rfl⟩
  rw [← gb] at Ab_1 ⊢
  have o_b : n0 ≤ b := by rw [gb]; exact Z_0
  have Z_1 : n0 ≤ T1.heap.size := Nat.le_trans Z_0 E1.1
  have W1 : OwnGo.Wk p.tables T1 m c below code := ⟨X1.here, hx, hby⟩
  have hl0 : (List.replicate (8 : Int32).toNatClampNeg (0 : Int32)).length = 8 := rfl
  refine OwnGo.astore W1 (pn := 6) (l' := #[.val (.int p0), .val (.long q1), .second, .val (.int p3), .val (.int p4), .val (.int p5), .val (.ref b), .unset, .unset, .unset, .unset, .unset]) at_4 rfl rfl rfl ?_
  refine OwnGo.aload W1 (pn := 8) at_6 rfl rfl rfl ?_
  refine OwnGo.iconst (v := (0 : Int32)) W1 (pn := 9) at_8 rfl rfl ?_
  refine OwnGo.iloadN W1 (pn := 10) at_9 rfl rfl ?_
  refine OwnGo.iconst (v := (1 : Int32)) W1 (pn := 11) at_10 rfl rfl ?_
  refine OwnGo.iand W1 (pn := 12) at_11 rfl ?_
  have J12 : OwnGo.Go p.tables e below (OwnGo.Qe s room_1 (own_Q n0)) (T1.setTop (mkF m 20 #[.val (.int p0), .val (.long q1), .second, .val (.int p3), .val (.int p4), .val (.int p5), .val (.ref b), .unset, .unset, .unset, .unset, .unset] [(.int (if (p0 &&& (1 : Int32)) = (0 : Int32) then (0 : Int32) else (1 : Int32))), (.int (0 : Int32)), (.ref b)])) → OwnGo.Go p.tables e below (OwnGo.Qe s room_1 (own_Q n0)) (T1.setTop (mkF m 12 #[.val (.int p0), .val (.long q1), .second, .val (.int p3), .val (.int p4), .val (.int p5), .val (.ref b), .unset, .unset, .unset, .unset, .unset] [(.int (p0 &&& (1 : Int32))), (.int (0 : Int32)), (.ref b)])) := by
    intro hj
    refine OwnGo.if_eq W1 (pn := 15) (pt := 19) at_12 rfl (by decide) (by decide) (fun h => ?_) (fun h => ?_)
    · simp only [if_pos h] at hj
      refine OwnGo.iconst (v := (0 : Int32)) W1 (pn := 20) at_19 rfl rfl ?_
      exact hj
    · simp only [if_neg h] at hj
      refine OwnGo.iconst (v := (1 : Int32)) W1 (pn := 16) at_15 rfl rfl ?_
      refine OwnGo.goto W1 (pt := 20) at_16 (by decide) (by decide) ?_
      exact hj
  refine J12 ?_
  obtain ⟨d0, e_d0⟩ : ∃ z, z = (if (p0 &&& (1 : Int32)) = (0 : Int32) then (0 : Int32) else (1 : Int32)) := ⟨_, rfl⟩
  rw [← e_d0]
  refine OwnGo.lloadN W1 (pn := 21) at_20 rfl rfl ?_
  refine OwnGo.callS X1 hx hby hZ hown (argsL := [(.ref b), (.int (0 : Int32)), (.int d0), (.long q1)]) (rest := []) (pn := 24) (hw _ (List.mem_of_getElem? (i := 1) rfl)) (hw _ (List.mem_of_getElem? (i := 2) rfl)) (hw _ (List.mem_of_getElem? (i := 3) rfl)) (hw _ (List.mem_of_getElem? (i := 4) rfl)) (by decide) (rm_slot l Z a0 hw b (0 : Int32) d0 q1 (List.replicate (8 : Int32).toNatClampNeg 0) _ n0 Ab_1 o_b hl0 (by decide) (by decide)) (by decide) (Nat.le_of_ble_eq_true rfl) (by decide) (by decide) (lenOf pd_0 rfl) (by rw [hml]; rfl) rfl at_21 rfl (fun v2_ T2 L2 Q2 X2_ => ?_)
  obtain ⟨rfl, N2q, Ab_2⟩ := Q2
  have N2 := Fr.app N0 N2q
  have X2 := X2_
  show OwnGo.Go _ _ _ _ (T2.setTop (mkF m 24 #[.val (.int p0), .val (.long q1), .second, .val (.int p3), .val (.int p4), .val (.int p5), .val (.ref b), .unset, .unset, .unset, .unset, .unset] []))
  have hl1 := own_slot_len (List.replicate (8 : Int32).toNatClampNeg 0) (0 : Int32) d0 q1 hl0
  have W2 : OwnGo.Wk p.tables T2 m c below code := ⟨X2.here, hx, hby⟩
  refine OwnGo.aload W2 (pn := 26) at_24 rfl rfl rfl ?_
  refine OwnGo.iconst (v := (1 : Int32)) W2 (pn := 27) at_26 rfl rfl ?_
  refine OwnGo.iloadN W2 (pn := 28) at_27 rfl rfl ?_
  refine OwnGo.iconst (v := (2 : Int32)) W2 (pn := 29) at_28 rfl rfl ?_
  refine OwnGo.iand W2 (pn := 30) at_29 rfl ?_
  have J30 : OwnGo.Go p.tables e below (OwnGo.Qe s room_1 (own_Q n0)) (T2.setTop (mkF m 38 #[.val (.int p0), .val (.long q1), .second, .val (.int p3), .val (.int p4), .val (.int p5), .val (.ref b), .unset, .unset, .unset, .unset, .unset] [(.int (if (p0 &&& (2 : Int32)) = (0 : Int32) then (0 : Int32) else (1 : Int32))), (.int (1 : Int32)), (.ref b)])) → OwnGo.Go p.tables e below (OwnGo.Qe s room_1 (own_Q n0)) (T2.setTop (mkF m 30 #[.val (.int p0), .val (.long q1), .second, .val (.int p3), .val (.int p4), .val (.int p5), .val (.ref b), .unset, .unset, .unset, .unset, .unset] [(.int (p0 &&& (2 : Int32))), (.int (1 : Int32)), (.ref b)])) := by
    intro hj
    refine OwnGo.if_eq W2 (pn := 33) (pt := 37) at_30 rfl (by decide) (by decide) (fun h => ?_) (fun h => ?_)
    · simp only [if_pos h] at hj
      refine OwnGo.iconst (v := (0 : Int32)) W2 (pn := 38) at_37 rfl rfl ?_
      exact hj
    · simp only [if_neg h] at hj
      refine OwnGo.iconst (v := (1 : Int32)) W2 (pn := 34) at_33 rfl rfl ?_
      refine OwnGo.goto W2 (pt := 38) at_34 (by decide) (by decide) ?_
      exact hj
  refine J30 ?_
  obtain ⟨d1, e_d1⟩ : ∃ z, z = (if (p0 &&& (2 : Int32)) = (0 : Int32) then (0 : Int32) else (1 : Int32)) := ⟨_, rfl⟩
  rw [← e_d1]
  refine OwnGo.lloadN W2 (pn := 39) at_38 rfl rfl ?_
  refine OwnGo.callS X2 hx hby hZ hown (argsL := [(.ref b), (.int (1 : Int32)), (.int d1), (.long q1)]) (rest := []) (pn := 42) (hw _ (List.mem_of_getElem? (i := 1) rfl)) (hw _ (List.mem_of_getElem? (i := 2) rfl)) (hw _ (List.mem_of_getElem? (i := 3) rfl)) (hw _ (List.mem_of_getElem? (i := 4) rfl)) (by decide) (rm_slot l Z a0 hw b (1 : Int32) d1 q1 (own_slot (List.replicate (8 : Int32).toNatClampNeg 0) (0 : Int32) d0 q1) _ n0 Ab_2 o_b hl1 (by decide) (by decide)) (by decide) (Nat.le_of_ble_eq_true rfl) (by decide) (by decide) (lenOf pd_0 rfl) (by rw [hml]; rfl) rfl at_39 rfl (fun v3_ T3 L3 Q3 X3_ => ?_)
  obtain ⟨rfl, N3q, Ab_3⟩ := Q3
  have N3 := Fr.app N2 N3q
  have X3 := X3_
  show OwnGo.Go _ _ _ _ (T3.setTop (mkF m 42 #[.val (.int p0), .val (.long q1), .second, .val (.int p3), .val (.int p4), .val (.int p5), .val (.ref b), .unset, .unset, .unset, .unset, .unset] []))
  have hl2 := own_slot_len (own_slot (List.replicate (8 : Int32).toNatClampNeg 0) (0 : Int32) d0 q1) (1 : Int32) d1 q1 hl1
  have W3 : OwnGo.Wk p.tables T3 m c below code := ⟨X3.here, hx, hby⟩
  refine OwnGo.aload W3 (pn := 44) at_42 rfl rfl rfl ?_
  refine OwnGo.iconst (v := (2 : Int32)) W3 (pn := 45) at_44 rfl rfl ?_
  refine OwnGo.iloadN W3 (pn := 46) at_45 rfl rfl ?_
  refine OwnGo.iconst (v := (4 : Int32)) W3 (pn := 47) at_46 rfl rfl ?_
  refine OwnGo.iand W3 (pn := 48) at_47 rfl ?_
  have J48 : OwnGo.Go p.tables e below (OwnGo.Qe s room_1 (own_Q n0)) (T3.setTop (mkF m 56 #[.val (.int p0), .val (.long q1), .second, .val (.int p3), .val (.int p4), .val (.int p5), .val (.ref b), .unset, .unset, .unset, .unset, .unset] [(.int (if (p0 &&& (4 : Int32)) = (0 : Int32) then (0 : Int32) else (1 : Int32))), (.int (2 : Int32)), (.ref b)])) → OwnGo.Go p.tables e below (OwnGo.Qe s room_1 (own_Q n0)) (T3.setTop (mkF m 48 #[.val (.int p0), .val (.long q1), .second, .val (.int p3), .val (.int p4), .val (.int p5), .val (.ref b), .unset, .unset, .unset, .unset, .unset] [(.int (p0 &&& (4 : Int32))), (.int (2 : Int32)), (.ref b)])) := by
    intro hj
    refine OwnGo.if_eq W3 (pn := 51) (pt := 55) at_48 rfl (by decide) (by decide) (fun h => ?_) (fun h => ?_)
    · simp only [if_pos h] at hj
      refine OwnGo.iconst (v := (0 : Int32)) W3 (pn := 56) at_55 rfl rfl ?_
      exact hj
    · simp only [if_neg h] at hj
      refine OwnGo.iconst (v := (1 : Int32)) W3 (pn := 52) at_51 rfl rfl ?_
      refine OwnGo.goto W3 (pt := 56) at_52 (by decide) (by decide) ?_
      exact hj
  refine J48 ?_
  obtain ⟨d2, e_d2⟩ : ∃ z, z = (if (p0 &&& (4 : Int32)) = (0 : Int32) then (0 : Int32) else (1 : Int32)) := ⟨_, rfl⟩
  rw [← e_d2]
  refine OwnGo.lloadN W3 (pn := 57) at_56 rfl rfl ?_
  refine OwnGo.callS X3 hx hby hZ hown (argsL := [(.ref b), (.int (2 : Int32)), (.int d2), (.long q1)]) (rest := []) (pn := 60) (hw _ (List.mem_of_getElem? (i := 1) rfl)) (hw _ (List.mem_of_getElem? (i := 2) rfl)) (hw _ (List.mem_of_getElem? (i := 3) rfl)) (hw _ (List.mem_of_getElem? (i := 4) rfl)) (by decide) (rm_slot l Z a0 hw b (2 : Int32) d2 q1 (own_slot (own_slot (List.replicate (8 : Int32).toNatClampNeg 0) (0 : Int32) d0 q1) (1 : Int32) d1 q1) _ n0 Ab_3 o_b hl2 (by decide) (by decide)) (by decide) (Nat.le_of_ble_eq_true rfl) (by decide) (by decide) (lenOf pd_0 rfl) (by rw [hml]; rfl) rfl at_57 rfl (fun v4_ T4 L4 Q4 X4_ => ?_)
  obtain ⟨rfl, N4q, Ab_4⟩ := Q4
  have N4 := Fr.app N3 N4q
  have X4 := X4_
  show OwnGo.Go _ _ _ _ (T4.setTop (mkF m 60 #[.val (.int p0), .val (.long q1), .second, .val (.int p3), .val (.int p4), .val (.int p5), .val (.ref b), .unset, .unset, .unset, .unset, .unset] []))
  have hl3 := own_slot_len (own_slot (own_slot (List.replicate (8 : Int32).toNatClampNeg 0) (0 : Int32) d0 q1) (1 : Int32) d1 q1) (2 : Int32) d2 q1 hl2
  have W4 : OwnGo.Wk p.tables T4 m c below code := ⟨X4.here, hx, hby⟩
  refine OwnGo.aload W4 (pn := 62) at_60 rfl rfl rfl ?_
  refine OwnGo.iconst (v := (3 : Int32)) W4 (pn := 63) at_62 rfl rfl ?_
  refine OwnGo.iloadN W4 (pn := 64) at_63 rfl rfl ?_
  refine OwnGo.bipush (v := (8 : Int32)) W4 (pn := 66) at_64 rfl rfl ?_
  refine OwnGo.iand W4 (pn := 67) at_66 rfl ?_
  have J67 : OwnGo.Go p.tables e below (OwnGo.Qe s room_1 (own_Q n0)) (T4.setTop (mkF m 75 #[.val (.int p0), .val (.long q1), .second, .val (.int p3), .val (.int p4), .val (.int p5), .val (.ref b), .unset, .unset, .unset, .unset, .unset] [(.int (if (p0 &&& (8 : Int32)) = (0 : Int32) then (0 : Int32) else (1 : Int32))), (.int (3 : Int32)), (.ref b)])) → OwnGo.Go p.tables e below (OwnGo.Qe s room_1 (own_Q n0)) (T4.setTop (mkF m 67 #[.val (.int p0), .val (.long q1), .second, .val (.int p3), .val (.int p4), .val (.int p5), .val (.ref b), .unset, .unset, .unset, .unset, .unset] [(.int (p0 &&& (8 : Int32))), (.int (3 : Int32)), (.ref b)])) := by
    intro hj
    refine OwnGo.if_eq W4 (pn := 70) (pt := 74) at_67 rfl (by decide) (by decide) (fun h => ?_) (fun h => ?_)
    · simp only [if_pos h] at hj
      refine OwnGo.iconst (v := (0 : Int32)) W4 (pn := 75) at_74 rfl rfl ?_
      exact hj
    · simp only [if_neg h] at hj
      refine OwnGo.iconst (v := (1 : Int32)) W4 (pn := 71) at_70 rfl rfl ?_
      refine OwnGo.goto W4 (pt := 75) at_71 (by decide) (by decide) ?_
      exact hj
  refine J67 ?_
  obtain ⟨d3, e_d3⟩ : ∃ z, z = (if (p0 &&& (8 : Int32)) = (0 : Int32) then (0 : Int32) else (1 : Int32)) := ⟨_, rfl⟩
  rw [← e_d3]
  refine OwnGo.lloadN W4 (pn := 76) at_75 rfl rfl ?_
  refine OwnGo.callS X4 hx hby hZ hown (argsL := [(.ref b), (.int (3 : Int32)), (.int d3), (.long q1)]) (rest := []) (pn := 79) (hw _ (List.mem_of_getElem? (i := 1) rfl)) (hw _ (List.mem_of_getElem? (i := 2) rfl)) (hw _ (List.mem_of_getElem? (i := 3) rfl)) (hw _ (List.mem_of_getElem? (i := 4) rfl)) (by decide) (rm_slot l Z a0 hw b (3 : Int32) d3 q1 (own_slot (own_slot (own_slot (List.replicate (8 : Int32).toNatClampNeg 0) (0 : Int32) d0 q1) (1 : Int32) d1 q1) (2 : Int32) d2 q1) _ n0 Ab_4 o_b hl3 (by decide) (by decide)) (by decide) (Nat.le_of_ble_eq_true rfl) (by decide) (by decide) (lenOf pd_0 rfl) (by rw [hml]; rfl) rfl at_76 rfl (fun v5_ T5 L5 Q5 X5_ => ?_)
  obtain ⟨rfl, N5q, Ab_5⟩ := Q5
  have N5 := Fr.app N4 N5q
  have X5 := X5_
  show OwnGo.Go _ _ _ _ (T5.setTop (mkF m 79 #[.val (.int p0), .val (.long q1), .second, .val (.int p3), .val (.int p4), .val (.int p5), .val (.ref b), .unset, .unset, .unset, .unset, .unset] []))
  have hl4 := own_slot_len (own_slot (own_slot (own_slot (List.replicate (8 : Int32).toNatClampNeg 0) (0 : Int32) d0 q1) (1 : Int32) d1 q1) (2 : Int32) d2 q1) (3 : Int32) d3 q1 hl3
  have W5 : OwnGo.Wk p.tables T5 m c below code := ⟨X5.here, hx, hby⟩
  have G := own_good d0 d1 d2 d3 q1
  generalize hxs : (own_slot (own_slot (own_slot (own_slot (List.replicate (8 : Int32).toNatClampNeg 0) (0 : Int32) d0 q1) (1 : Int32) d1 q1) (2 : Int32) d2 q1) (3 : Int32) d3 q1) = xs at *
  refine OwnGo.iloadN W5 (pn := 80) at_79 rfl rfl ?_
  refine OwnGo.ldcI X5 hx hby hZ hown (pn := 82) (hw _ (List.mem_of_getElem? (i := 9) rfl)) at_80 rfl ?_
  refine OwnGo.iand W5 (pn := 83) at_82 rfl ?_
  refine OwnGo.bipush (v := (9 : Int32)) W5 (pn := 85) at_83 rfl rfl ?_
  refine OwnGo.irem W5 (pn := 86) at_85 rfl (by decide) ?_
  obtain ⟨to, e_to⟩ : ∃ z, z = ((p3 &&& (2147483647 : Int32)) - ((p3 &&& (2147483647 : Int32)) / (9 : Int32)) * (9 : Int32)) := ⟨_, rfl⟩
  rw [← e_to]
  have t := own_rem (p3 &&& 2147483647) 9 (own_mx p3) (by decide)
  rw [← e_to] at t
  simp only [Int32.reduceToInt] at t
  have t1 : (to + (1 : Int32)).toInt = to.toInt + 1 := by have k := c_iadd to 1; have k1 := (to + 1).toInt_lt; have k2 := (to + 1).le_toInt; simp only [Int32.reduceToInt] at k; omega
  refine OwnGo.istore W5 (pn := 88) (l' := #[.val (.int p0), .val (.long q1), .second, .val (.int p3), .val (.int p4), .val (.int p5), .val (.ref b), .val (.int to), .unset, .unset, .unset, .unset]) at_86 rfl rfl ?_
  refine OwnGo.iload W5 (pn := 90) at_88 rfl rfl ?_
  refine OwnGo.ldcI X5 hx hby hZ hown (pn := 92) (hw _ (List.mem_of_getElem? (i := 9) rfl)) at_90 rfl ?_
  refine OwnGo.iand W5 (pn := 93) at_92 rfl ?_
  refine OwnGo.iload W5 (pn := 95) at_93 rfl rfl ?_
  refine OwnGo.iconst (v := (1 : Int32)) W5 (pn := 96) at_95 rfl rfl ?_
  refine OwnGo.iadd W5 (pn := 97) at_96 rfl ?_
  refine OwnGo.irem W5 (pn := 98) at_97 rfl (fun q => by rw [q] at t1; simp only [Int32.reduceToInt] at t1; omega) ?_
  obtain ⟨f0, e_f0⟩ : ∃ z, z = ((p4 &&& (2147483647 : Int32)) - ((p4 &&& (2147483647 : Int32)) / (to + (1 : Int32))) * (to + (1 : Int32))) := ⟨_, rfl⟩
  rw [← e_f0]
  have f := own_rem (p4 &&& 2147483647) (to + 1) (own_mx p4) (by omega)
  rw [← e_f0] at f
  refine OwnGo.istore W5 (pn := 100) (l' := #[.val (.int p0), .val (.long q1), .second, .val (.int p3), .val (.int p4), .val (.int p5), .val (.ref b), .val (.int to), .val (.int f0), .unset, .unset, .unset]) at_98 rfl rfl ?_
  have B123 : ∀ (fr : Int32), 0 ≤ fr.toInt → fr.toInt ≤ to.toInt → (fr.toInt < to.toInt → xs.getD fr.toNatClampNeg 0 ≠ 10) → OwnGo.Go p.tables e below (OwnGo.Qe s room_1 (own_Q n0)) (T5.setTop (mkF m 123 #[.val (.int p0), .val (.long q1), .second, .val (.int p3), .val (.int p4), .val (.int p5), .val (.ref b), .val (.int to), .val (.int fr), .unset, .unset, .unset] [])) := by
    intro fr r0 r1 r2
    refine OwnGo.aload W5 (pn := 125) at_123 rfl rfl rfl ?_
    refine OwnGo.iload W5 (pn := 127) at_125 rfl rfl ?_
    refine OwnGo.iload W5 (pn := 129) at_127 rfl rfl ?_
    refine OwnGo.callP X5 hx hby hZ hown (argsL := [(.ref b), (.int fr), (.int to)]) (rest := []) (pn := 132) (hw _ (List.mem_of_getElem? (i := 10) rfl)) (hw _ (List.mem_of_getElem? (i := 11) rfl)) (hw _ (List.mem_of_getElem? (i := 3) rfl)) (hw _ (List.mem_of_getElem? (i := 12) rfl)) (by decide) (rm_own_first l Z a0 hw b fr to xs _ Ab_5 hl4) (by decide) (Nat.le_of_ble_eq_true rfl) (by decide) (by decide) (lenOf pd_2 rfl) (by rw [hml]; rfl) rfl at_129 rfl (fun T6 X6 f6 => ?_)
    have Ab_6 : OwnGo.Ia Z T6.heap b .byte xs := by rw [f6]; exact Ab_5
    have W6 : OwnGo.Wk p.tables T6 m c below code := ⟨X6.here, hx, hby⟩
    obtain ⟨ex, e_ex⟩ : ∃ z, z = (own_first xs fr to) := ⟨_, rfl⟩
    rw [← e_ex]
    refine OwnGo.istore W6 (pn := 134) (l' := #[.val (.int p0), .val (.long q1), .second, .val (.int p3), .val (.int p4), .val (.int p5), .val (.ref b), .val (.int to), .val (.int fr), .val (.int ex), .unset, .unset]) at_132 rfl rfl ?_
    refine OwnGo.iload W6 (pn := 136) at_134 rfl rfl ?_
    have J136 : OwnGo.Go p.tables e below (OwnGo.Qe s room_1 (own_Q n0)) (T6.setTop (mkF m 148 #[.val (.int p0), .val (.long q1), .second, .val (.int p3), .val (.int p4), .val (.int p5), .val (.ref b), .val (.int to), .val (.int fr), .val (.int ex), .unset, .unset] [(.int (if ex < (0 : Int32) then to else (ex - (1 : Int32))))])) → OwnGo.Go p.tables e below (OwnGo.Qe s room_1 (own_Q n0)) (T6.setTop (mkF m 136 #[.val (.int p0), .val (.long q1), .second, .val (.int p3), .val (.int p4), .val (.int p5), .val (.ref b), .val (.int to), .val (.int fr), .val (.int ex), .unset, .unset] [(.int ex)])) := by
      intro hj
      refine OwnGo.if_ge W6 (pn := 139) (pt := 144) at_136 rfl (by decide) (by decide) (fun h => ?_) (fun h => ?_)
      · simp only [if_pos h] at hj
        refine OwnGo.iload W6 (pn := 141) at_139 rfl rfl ?_
        refine OwnGo.goto W6 (pt := 148) at_141 (by decide) (by decide) ?_
        exact hj
      · simp only [if_neg h] at hj
        refine OwnGo.iload W6 (pn := 146) at_144 rfl rfl ?_
        refine OwnGo.iconst (v := (1 : Int32)) W6 (pn := 147) at_146 rfl rfl ?_
        refine OwnGo.isub W6 (pn := 148) at_147 rfl ?_
        exact hj
    refine J136 ?_
    obtain ⟨bd, e_bd⟩ : ∃ z, z = (if ex < (0 : Int32) then to else (ex - (1 : Int32))) := ⟨_, rfl⟩
    rw [← e_bd]
    obtain ⟨u1, u2⟩ := own_bdr xs fr to bd r0 r1 (by omega) (by rw [e_bd, e_ex])
    have w1 : (bd - fr + (1 : Int32)).toInt = bd.toInt - fr.toInt + 1 := by have k := c_iadd (bd - fr) 1; have k1 := (bd - fr + 1).toInt_lt; have k2 := (bd - fr + 1).le_toInt; have j := c_isub bd fr; have j1 := (bd - fr).toInt_lt; have j2 := (bd - fr).le_toInt; simp only [Int32.reduceToInt] at k; omega
    refine OwnGo.istore W6 (pn := 150) (l' := #[.val (.int p0), .val (.long q1), .second, .val (.int p3), .val (.int p4), .val (.int p5), .val (.ref b), .val (.int to), .val (.int fr), .val (.int ex), .val (.int bd), .unset]) at_148 rfl rfl ?_
    refine OwnGo.iload W6 (pn := 152) at_150 rfl rfl ?_
    refine OwnGo.iload W6 (pn := 154) at_152 rfl rfl ?_
    refine OwnGo.ldcI X6 hx hby hZ hown (pn := 156) (hw _ (List.mem_of_getElem? (i := 9) rfl)) at_154 rfl ?_
    refine OwnGo.iand W6 (pn := 157) at_156 rfl ?_
    refine OwnGo.iload W6 (pn := 159) at_157 rfl rfl ?_
    refine OwnGo.iload W6 (pn := 161) at_159 rfl rfl ?_
    refine OwnGo.isub W6 (pn := 162) at_161 rfl ?_
    refine OwnGo.iconst (v := (1 : Int32)) W6 (pn := 163) at_162 rfl rfl ?_
    refine OwnGo.iadd W6 (pn := 164) at_163 rfl ?_
    refine OwnGo.irem W6 (pn := 165) at_164 rfl (fun q => by rw [q] at w1; simp only [Int32.reduceToInt] at w1; omega) ?_
    refine OwnGo.iadd W6 (pn := 166) at_165 rfl ?_
    have w2 := own_rem (p5 &&& 2147483647) (bd - fr + 1) (own_mx p5) (by omega)
    have w3 : ((fr + ((p5 &&& (2147483647 : Int32)) - ((p5 &&& (2147483647 : Int32)) / ((bd - fr) + (1 : Int32))) * ((bd - fr) + (1 : Int32))))).toInt = fr.toInt + (((p5 &&& (2147483647 : Int32)) - ((p5 &&& (2147483647 : Int32)) / ((bd - fr) + (1 : Int32))) * ((bd - fr) + (1 : Int32)))).toInt := by have k := c_iadd fr (((p5 &&& (2147483647 : Int32)) - ((p5 &&& (2147483647 : Int32)) / ((bd - fr) + (1 : Int32))) * ((bd - fr) + (1 : Int32)))); have k1 := ((fr + ((p5 &&& (2147483647 : Int32)) - ((p5 &&& (2147483647 : Int32)) / ((bd - fr) + (1 : Int32))) * ((bd - fr) + (1 : Int32))))).toInt_lt; have k2 := ((fr + ((p5 &&& (2147483647 : Int32)) - ((p5 &&& (2147483647 : Int32)) / ((bd - fr) + (1 : Int32))) * ((bd - fr) + (1 : Int32))))).le_toInt; omega
    obtain ⟨sc, e_sc⟩ : ∃ z, z = (fr + ((p5 &&& (2147483647 : Int32)) - ((p5 &&& (2147483647 : Int32)) / ((bd - fr) + (1 : Int32))) * ((bd - fr) + (1 : Int32)))) := ⟨_, rfl⟩
    rw [← e_sc]
    rw [← e_sc] at w3
    refine OwnGo.istore W6 (pn := 168) (l' := #[.val (.int p0), .val (.long q1), .second, .val (.int p3), .val (.int p4), .val (.int p5), .val (.ref b), .val (.int to), .val (.int fr), .val (.int ex), .val (.int bd), .val (.int sc)]) at_166 rfl rfl ?_
    refine OwnGo.aload W6 (pn := 170) at_168 rfl rfl rfl ?_
    refine OwnGo.iload W6 (pn := 172) at_170 rfl rfl ?_
    refine OwnGo.iload W6 (pn := 174) at_172 rfl rfl ?_
    refine OwnGo.iload W6 (pn := 176) at_174 rfl rfl ?_
    refine OwnGo.callP X6 hx hby hZ hown (argsL := [(.ref b), (.int fr), (.int sc), (.int to)]) (rest := []) (pn := 179) (hw _ (List.mem_of_getElem? (i := 16) rfl)) (hw _ (List.mem_of_getElem? (i := 17) rfl)) (hw _ (List.mem_of_getElem? (i := 18) rfl)) (hw _ (List.mem_of_getElem? (i := 19) rfl)) (by decide) (rm_own_end l Z a0 hw b fr sc to xs _ Ab_6 hl4 G r0 r1 (by omega) (by omega) (by omega) r2) (by decide) (Nat.le_of_ble_eq_true rfl) (by decide) (by decide) (lenOf pd_4 rfl) (by rw [hml]; rfl) rfl at_176 rfl (fun T7 X7 f7 => ?_)
    have Ab_7 : OwnGo.Ia Z T7.heap b .byte xs := by rw [f7]; exact Ab_6
    have W7 : OwnGo.Wk p.tables T7 m c below code := ⟨X7.here, hx, hby⟩
    refine OwnGo.iload W7 (pn := 181) at_179 rfl rfl ?_
    refine OwnGo.icmp_ne W7 (pn := 184) (pt := 188) at_181 rfl (by decide) (by decide) (fun h181 => ?_) (fun h181 => ?_)
    · skip
      refine OwnGo.iconst (v := (1 : Int32)) W7 (pn := 185) at_184 rfl rfl ?_
      refine OwnGo.goto W7 (pt := 189) at_185 (by decide) (by decide) ?_
      exact OwnGo.ireturn X7 hx hby hret hlk rfl (by simp) at_189 ⟨rfl, N5⟩ (by decide) (by decide)
    · skip
      exact absurd (by rw [e_ex]; exact own_plain xs fr sc to bd G r0 r1 (by omega) (by rw [e_bd, e_ex]) (by omega) (by omega)) h181
  refine OwnGo.iload W5 (pn := 102) at_100 rfl rfl ?_
  refine OwnGo.iload W5 (pn := 104) at_102 rfl rfl ?_
  refine OwnGo.icmp_ge W5 (pn := 107) (pt := 123) at_104 rfl (by decide) (by decide) (fun h104 => ?_) (fun h104 => ?_)
  · skip
    have h104' : f0.toInt < to.toInt := Int32.lt_iff_toInt_lt.mp h104
    obtain ⟨j1, j2, j3⟩ := own_i0 f0 (by omega) (by omega)
    refine OwnGo.aload W5 (pn := 109) at_107 rfl rfl rfl ?_
    refine OwnGo.iload W5 (pn := 111) at_109 rfl rfl ?_
    refine OwnGo.baloadB X5 hx hby hZ (pn := 112) Ab_5 j1 (OwnGo.getD_of (by rw [hl4]; exact j2)) at_111 rfl ?_
    refine OwnGo.bipush (v := (10 : Int32)) W5 (pn := 114) at_112 rfl rfl ?_
    refine OwnGo.icmp_ne W5 (pn := 117) (pt := 123) at_114 rfl (by decide) (by decide) (fun h114 => ?_) (fun h114 => ?_)
    · skip
      refine OwnGo.iload W5 (pn := 119) at_117 rfl rfl ?_
      refine OwnGo.iconst (v := (1 : Int32)) W5 (pn := 120) at_119 rfl rfl ?_
      refine OwnGo.iadd W5 (pn := 121) at_120 rfl ?_
      refine OwnGo.istore W5 (pn := 123) (l' := #[.val (.int p0), .val (.long q1), .second, .val (.int p3), .val (.int p4), .val (.int p5), .val (.ref b), .val (.int to), .val (.int (f0 + (1 : Int32))), .unset, .unset, .unset]) at_121 rfl rfl ?_
      have l := own_iy f0 1 1 (by decide) (by omega)
      have k := c_iadd f0 1
      have k1 := (f0 + 1).toInt_lt
      have k2 := (f0 + 1).le_toInt
      simp only [Int32.reduceToInt] at k
      exact B123 _ (by omega) (by omega) (fun q z => by have g := G.2.1 _ (l (by omega)).2.1 z; rw [show (f0 + (1 : Int32)).toNatClampNeg - 1 = f0.toNatClampNeg by have := (l (by omega)).2.2; omega] at g; rw [h114] at g; exact absurd g.2 (by decide))
    · skip
      exact B123 _ f.1 (by omega) (fun _ => h114)
  · skip
    exact B123 _ f.1 (by omega) (fun q => absurd (Int32.lt_iff_toInt_lt.mpr q) h104)
set_option maxRecDepth 65536 in
set_option maxHeartbeats 40000000 in
theorem comes_1 {Post : Tables → Env → Array Value → State → Outcome → State → Prop} (hpost : ∀ tb e args s v u, (limb_1_1.after args s (.returned v) u = true ∧ limb_1_2.after args s (.returned v) u = true ∧ True) → FrameEnd s (.returned v) u (Jvm.fieldLocs frame_1_writes args s ++ Jvm.arrayLocs frame_1_arrays args s ++ Jvm.staticLocs frame_1_statics s) 16 128 → Post tb e args s (.returned v) u) :
    ArmFor flags0 classFile x code maxLocals ret World_1 tables_1 room_1 Calls_1 rest_1 Pre_1 Post := by
  intro l hfl _ _ p e ha hc hk s m args below hf hA hF happ hP
  obtain ⟨hcalls, hrest, hpre⟩ := hP
  obtain ⟨-, -, -, hnamed, -, -, -, hat⟩ := (Spec.applies_iff hf).mp happ
  obtain ⟨hg, hn⟩ := and_e (Cond.before_iff.mp (show (Jvm.Cond.and given_1 narrow_1).before args s = true from hpre))
  obtain ⟨g0, k0⟩ := and_e hg
  obtain ⟨g1, k1⟩ := and_e k0
  obtain ⟨g2, k2⟩ := and_e k1
  obtain ⟨g3, k3⟩ := and_e k2
  obtain ⟨g4, k4⟩ := and_e k3
  obtain ⟨w0, w1, w2, w3, w4, rfl⟩ : ∃ w0 w1 w2 w3 w4 : Value, args = #[w0, w1, w2, w3, w4] := by
    have hs : args.size = 5 := by simpa [Cond.value, given_1] using g0
    obtain ⟨L⟩ := args
    match L, hs with
    | [w0, w1, w2, w3, w4], _ => exact ⟨w0, w1, w2, w3, w4, rfl⟩
  have hw := fun d (hd : d ∈ tables_1) => atoms_spec (ws := Jvm.Cond.code x code maxLocals ret :: tables_1) hat d (List.mem_cons_of_mem _ hd)
  have hfit : Fit s := fun {y c} hc i hi => by
    obtain ⟨ha, rfl⟩ := Array.getElem?_eq_some_iff.mp hc
    have q := List.all_eq_true.mp ((Array.all_eq_true_iff_forall_mem.mp hF) _ (Array.getElem_mem ha)) i (List.mem_range.mpr hi)
    simpa [Array.getElem?_eq_getElem hi] using q
  obtain ⟨i0, ei0⟩ := is_v g1
  obtain rfl : w0 = (.int i0) := Option.some.inj ei0
  obtain ⟨i1, ei1⟩ := isL_v g2
  obtain rfl : w1 = (.long i1) := Option.some.inj ei1
  obtain ⟨i2, ei2⟩ := is_v g3
  obtain rfl : w2 = (.int i2) := Option.some.inj ei2
  obtain ⟨i3, ei3⟩ := is_v g4
  obtain rfl : w3 = (.int i3) := Option.some.inj ei3
  obtain ⟨i4, ei4⟩ := is_v k4
  obtain rfl : w4 = (.int i4) := Option.some.inj ei4
  obtain ⟨n, o, h1, h2, h3, _, L, rfl, ⟨rfl, N⟩, hq⟩ := rm_law l s _ hw i0 i1 i2 i3 i4 s.heap s.heap.size (Nat.le_refl _) tables_1 p e ha hc hk s m _ below hf ((Spec.applies_iff_loose hf).mp happ).1 ⟨rfl, State.Warmed39.refl s, rfl⟩ trivial
  refine ⟨n, _, h1, h2, h3, hpost _ _ _ _ _ _ ⟨Cond.after_iff.mpr rfl, Cond.after_iff.mpr (eq_i res_at (Term.int_eval (1)) (rfl)), trivial⟩ ⟨hq.1, hq.2.1, (hq.2.2.sift fun y hy => Or.inr (N y hy)).mono (by decide) (by decide)⟩⟩
theorem main_1_1 : Claimed_1_1 := comes_1 fun _ _ _ _ _ _ h hF => ⟨h.1, hF⟩
theorem main_1_2 : Claimed_1_2 := comes_1 fun _ _ _ _ _ _ h hF => ⟨h.2.1, hF⟩
end Jvm.Pilot.@@N@@
namespace Jvm.Pilot.@@N@@
open Jvm Jvm.ClassFile Sem Op Lib Jvm.Free Jvm.Stand Jvm.Pilot.@@N@@.Jvm.D
/-! MADE BY PROGRAM (witnessworld.py) out of the Statement's table words and the real class files: 10 classes; the members and pool entries that the words name. The judged class is class 1, her method 1. -/
namespace start1
open Jvm.ClassFile
def u (s : String) : CpInfo := .utf8 (stringToUtf16 s)
/-- a pool by its gaps: so many unusable entries, then the entry; so many at the end -/
def gap : Nat → List CpInfo → List CpInfo
  | 0, r => r
  | n + 1, r => .unusable :: gap n r
def poolList (es : List (Nat × CpInfo)) (last : Nat) : List CpInfo := es.foldr (fun e r => gap e.1 (e.2 :: r)) (gap last [])
def pool (es : List (Nat × CpInfo)) (last : Nat) : Array CpInfo := ⟨poolList es last⟩
def fileOf (pool : Array CpInfo) (this : Nat) (attrs : Array Attribute := #[]) (ms : Array MethodInfo := #[]) (fl : Nat := 33) (sup : Nat := 0) (ifs : Array Nat := #[]) (fds : Array FieldInfo := #[]) : ClassFile where
  minorVersion := 0
  majorVersion := 65
  constantPool := pool
  accessFlags := fl
  thisClass := this
  superClass := sup
  interfaces := ifs
  fields := fds
  methods := ms
  attributes := attrs
def plain (name : String) (sup : Option ClassId) : Class where
  name := name
  kind := .ordinary
  loader := none
  accessFlags := 33
  super := sup
  interfaces := #[]
  cf := none
  fields := #[]
  methods := #[]
  instanceTypes := #[]
  staticTypes := #[]
  resolved := #[]
  callSites := []
  init := .initialized
  statics := none
  mirror := none

def pool0 : Array CpInfo := pool [(5, u "<init>"), (0, u "()V"), (1, .class_ 10), (1, u "java/lang/Object")] 113

def k0m0 : Method := { name := "<init>", desc := "()V", sig := { parameters := [], returnType := none }, accessFlags := 1, code := none }
/-- java/lang/Object -/
def k0 : Class := { plain "java/lang/Object" none with
  accessFlags := 33
  interfaces := #[]
  cf := some (fileOf pool0 8 #[] #[{ accessFlags := 1, nameIndex := 5, descriptorIndex := 6, attributes := #[] }] 33 0 #[] #[])
  fields := #[]
  methods := #[k0m0]
  instanceTypes := #[]
  staticTypes := #[]
  resolved := Array.replicate 124 none
  statics := none }

def pool1 : Array CpInfo := pool [(2, .class_ 4), (1, u "java/lang/Object"), (0, u "<init>"), (0, u "()V"), (0, .methodref 8 9), (0, .class_ 10), (0, .nameAndType 11 12), (0, u "tenantry/RequestHeadEndPinLaw"), (0, u "slot"), (0, u "([BIZJ)V"), (0, .integer 2147483647), (0, .methodref 8 15), (0, .nameAndType 16 17), (0, u "firstEnd"), (0, u "([BII)I"), (0, .methodref 19 20), (0, .class_ 21), (0, .nameAndType 22 23), (0, u "tenantry/RequestHead"), (0, u "end"), (0, u "([BIII)I"), (0, .methodref 8 25), (0, .nameAndType 26 27), (0, u "safe"), (0, u "(J)B"), (0, .long 255), (1, .methodref 8 31), (0, .nameAndType 32 33), (0, u "endsAt"), (0, u "([BIII)Z"), (2, u "law"), (0, u "(IJIII)Z")] 8

def k1m0 : Method := { name := "<init>", desc := "()V", sig := { parameters := [], returnType := none }, accessFlags := 2, code := none }
def k1c1 : Code := { maxStack := 5, maxLocals := 12, code := code, exceptionTable := #[], attributes := #[] }
def k1m1 : Method := { name := "law", desc := "(IJIII)Z", sig := { parameters := [.int, .long, .int, .int, .int], returnType := some .boolean }, accessFlags := 9, code := some k1c1 }
def k1c2 : Code := { maxStack := 6, maxLocals := 5, code := method_3_code, exceptionTable := #[], attributes := #[] }
def k1m2 : Method := { name := "slot", desc := "([BIZJ)V", sig := { parameters := [(.array .byte), .int, .boolean, .long], returnType := none }, accessFlags := 10, code := some k1c2 }
def k1c3 : Code := { maxStack := 4, maxLocals := 3, code := method_4_code, exceptionTable := #[], attributes := #[] }
def k1m3 : Method := { name := "safe", desc := "(J)B", sig := { parameters := [.long], returnType := some .byte }, accessFlags := 10, code := some k1c3 }
def k1c4 : Code := { maxStack := 3, maxLocals := 4, code := method_5_code, exceptionTable := #[], attributes := #[] }
def k1m4 : Method := { name := "endsAt", desc := "([BIII)Z", sig := { parameters := [(.array .byte), .int, .int, .int], returnType := some .boolean }, accessFlags := 10, code := some k1c4 }
def k1c5 : Code := { maxStack := 4, maxLocals := 3, code := method_6_code, exceptionTable := #[], attributes := #[] }
def k1m5 : Method := { name := "firstEnd", desc := "([BII)I", sig := { parameters := [(.array .byte), .int, .int], returnType := some .int }, accessFlags := 10, code := some k1c5 }
/-- tenantry/RequestHeadEndPinLaw -/
def k1 : Class := { plain "tenantry/RequestHeadEndPinLaw" (some 0) with
  accessFlags := 49
  interfaces := #[]
  cf := some (fileOf pool1 8 #[] #[{ accessFlags := 2, nameIndex := 5, descriptorIndex := 6, attributes := #[] }, { accessFlags := 9, nameIndex := 36, descriptorIndex := 37, attributes := #[] }, { accessFlags := 10, nameIndex := 11, descriptorIndex := 12, attributes := #[] }, { accessFlags := 10, nameIndex := 26, descriptorIndex := 27, attributes := #[] }, { accessFlags := 10, nameIndex := 32, descriptorIndex := 33, attributes := #[] }, { accessFlags := 10, nameIndex := 16, descriptorIndex := 17, attributes := #[] }] 49 2 #[] #[])
  fields := #[]
  methods := #[k1m0, k1m1, k1m2, k1m3, k1m4, k1m5]
  instanceTypes := #[]
  staticTypes := #[]
  resolved := Array.replicate 46 none
  statics := none }

def pool2 : Array CpInfo := pool [(2, .class_ 4), (1, u "java/lang/Object"), (3, .class_ 10), (1, u "tenantry/RequestHead"), (0, u "method"), (0, u "Ljava/lang/String;"), (2, u "path"), (2, u "query"), (2, u "names"), (0, u "Ljava/util/List;"), (2, u "values"), (2, u "contentLength"), (0, u "J"), (2, u "chunked"), (0, u "Z"), (2, u "closes"), (2, u "expectsContinue"), (17, u "memory"), (0, u "I"), (0, .methodref 60 61), (0, .class_ 62), (0, .nameAndType 63 64), (0, u "java/lang/Math"), (0, u "min"), (0, u "(II)I"), (0, .methodref 60 66), (0, .nameAndType 67 64), (0, u "max"), (4, .methodref 8 73), (0, .nameAndType 74 75), (0, u "isControl"), (0, u "(B)Z"), (242, u "TOKEN"), (0, u "[Z"), (4, u "MAX"), (2, u "FIELD_MEMORY"), (1, u "REQUEST_LINE"), (0, u "FIELD_LINE"), (0, u "CONTENT_LENGTH"), (6, u "end"), (0, u "([BIII)I")] 36

def k2c0 : Code := { maxStack := 5, maxLocals := 7, code := prog_13_method_2_code, exceptionTable := #[], attributes := #[] }
def k2m0 : Method := { name := "end", desc := "([BIII)I", sig := { parameters := [(.array .byte), .int, .int, .int], returnType := some .int }, accessFlags := 8, code := some k2c0 }
def k2c1 : Code := { maxStack := 2, maxLocals := 1, code := prog_13_method_24_code, exceptionTable := #[], attributes := #[] }
def k2m1 : Method := { name := "isControl", desc := "(B)Z", sig := { parameters := [.byte], returnType := some .boolean }, accessFlags := 8, code := some k2c1 }
/-- tenantry/RequestHead -/
def k2 : Class := { plain "tenantry/RequestHead" (some 0) with
  accessFlags := 48
  interfaces := #[]
  cf := some (fileOf pool2 8 #[] #[{ accessFlags := 8, nameIndex := 338, descriptorIndex := 339, attributes := #[] }, { accessFlags := 8, nameIndex := 74, descriptorIndex := 75, attributes := #[] }] 48 2 #[] #[{ accessFlags := 24, nameIndex := 324, descriptorIndex := 58, attributes := #[] }, { accessFlags := 26, nameIndex := 327, descriptorIndex := 58, attributes := #[] }, { accessFlags := 26, nameIndex := 318, descriptorIndex := 319, attributes := #[] }, { accessFlags := 26, nameIndex := 329, descriptorIndex := 12, attributes := #[] }, { accessFlags := 26, nameIndex := 330, descriptorIndex := 12, attributes := #[] }, { accessFlags := 26, nameIndex := 331, descriptorIndex := 12, attributes := #[] }, { accessFlags := 18, nameIndex := 11, descriptorIndex := 12, attributes := #[] }, { accessFlags := 18, nameIndex := 15, descriptorIndex := 12, attributes := #[] }, { accessFlags := 18, nameIndex := 18, descriptorIndex := 12, attributes := #[] }, { accessFlags := 18, nameIndex := 21, descriptorIndex := 22, attributes := #[] }, { accessFlags := 18, nameIndex := 25, descriptorIndex := 22, attributes := #[] }, { accessFlags := 18, nameIndex := 28, descriptorIndex := 29, attributes := #[] }, { accessFlags := 18, nameIndex := 32, descriptorIndex := 33, attributes := #[] }, { accessFlags := 18, nameIndex := 36, descriptorIndex := 33, attributes := #[] }, { accessFlags := 18, nameIndex := 39, descriptorIndex := 33, attributes := #[] }, { accessFlags := 18, nameIndex := 57, descriptorIndex := 58, attributes := #[] }])
  fields := #[{ name := "MAX", type := .int, accessFlags := 24, slot := 0, constantValue := 0 }, { name := "FIELD_MEMORY", type := .int, accessFlags := 26, slot := 1, constantValue := 0 }, { name := "TOKEN", type := (.array .boolean), accessFlags := 26, slot := 2, constantValue := 0 }, { name := "REQUEST_LINE", type := (.object "java/lang/String"), accessFlags := 26, slot := 3, constantValue := 0 }, { name := "FIELD_LINE", type := (.object "java/lang/String"), accessFlags := 26, slot := 4, constantValue := 0 }, { name := "CONTENT_LENGTH", type := (.object "java/lang/String"), accessFlags := 26, slot := 5, constantValue := 0 }, { name := "method", type := (.object "java/lang/String"), accessFlags := 18, slot := 0, constantValue := 0 }, { name := "path", type := (.object "java/lang/String"), accessFlags := 18, slot := 1, constantValue := 0 }, { name := "query", type := (.object "java/lang/String"), accessFlags := 18, slot := 2, constantValue := 0 }, { name := "names", type := (.object "java/util/List"), accessFlags := 18, slot := 3, constantValue := 0 }, { name := "values", type := (.object "java/util/List"), accessFlags := 18, slot := 4, constantValue := 0 }, { name := "contentLength", type := .long, accessFlags := 18, slot := 5, constantValue := 0 }, { name := "chunked", type := .boolean, accessFlags := 18, slot := 6, constantValue := 0 }, { name := "closes", type := .boolean, accessFlags := 18, slot := 7, constantValue := 0 }, { name := "expectsContinue", type := .boolean, accessFlags := 18, slot := 8, constantValue := 0 }, { name := "memory", type := .int, accessFlags := 18, slot := 9, constantValue := 0 }]
  methods := #[k2m0, k2m1]
  instanceTypes := #[(.object "java/lang/String"), (.object "java/lang/String"), (.object "java/lang/String"), (.object "java/util/List"), (.object "java/util/List"), .long, .boolean, .boolean, .boolean, .int]
  staticTypes := #[.int, .int, (.array .boolean), (.object "java/lang/String"), (.object "java/lang/String"), (.object "java/lang/String")]
  resolved := Array.replicate 376 none
  statics := none }

def pool3 : Array CpInfo := pool [(1, .class_ 2), (0, u "java/lang/Math"), (1, .class_ 6), (1, u "java/lang/Object"), (0, u "<init>"), (0, u "()V"), (89, .class_ 100), (1, u "java/lang/Math$RandomNumberGeneratorHolder"), (71, u "negativeZeroFloatBits"), (0, u "J"), (2, u "negativeZeroDoubleBits"), (21, u "max"), (2, u "min"), (43, u "$assertionsDisabled"), (0, u "Z"), (88, u "(II)I"), (2, u "twoToTheDoubleScaleDown"), (0, u "D"), (4, u "twoToTheDoubleScaleUp"), (9, u "E"), (3, u "PI"), (2, u "TAU"), (2, u "DEGREES_TO_RADIANS"), (0, u "RADIANS_TO_DEGREES")] 94

def k3m0 : Method := { name := "<init>", desc := "()V", sig := { parameters := [], returnType := none }, accessFlags := 2, code := none }
def k3c1 : Code := { maxStack := 2, maxLocals := 2, code := jdk_29_method_65_code, exceptionTable := #[], attributes := #[] }
def k3m1 : Method := { name := "max", desc := "(II)I", sig := { parameters := [.int, .int], returnType := some .int }, accessFlags := 9, code := some k3c1 }
def k3c2 : Code := { maxStack := 2, maxLocals := 2, code := jdk_29_method_69_code, exceptionTable := #[], attributes := #[] }
def k3m2 : Method := { name := "min", desc := "(II)I", sig := { parameters := [.int, .int], returnType := some .int }, accessFlags := 9, code := some k3c2 }
/-- java/lang/Math -/
def k3 : Class := { plain "java/lang/Math" (some 0) with
  accessFlags := 49
  interfaces := #[]
  cf := some (fileOf pool3 1 #[.nestMembers #[98]] #[{ accessFlags := 2, nameIndex := 7, descriptorIndex := 8, attributes := #[] }, { accessFlags := 9, nameIndex := 198, descriptorIndex := 335, attributes := #[] }, { accessFlags := 9, nameIndex := 201, descriptorIndex := 335, attributes := #[] }] 49 4 #[] #[{ accessFlags := 25, nameIndex := 354, descriptorIndex := 339, attributes := #[] }, { accessFlags := 25, nameIndex := 358, descriptorIndex := 339, attributes := #[] }, { accessFlags := 25, nameIndex := 361, descriptorIndex := 339, attributes := #[] }, { accessFlags := 26, nameIndex := 364, descriptorIndex := 339, attributes := #[] }, { accessFlags := 26, nameIndex := 365, descriptorIndex := 339, attributes := #[] }, { accessFlags := 26, nameIndex := 172, descriptorIndex := 173, attributes := #[] }, { accessFlags := 26, nameIndex := 176, descriptorIndex := 173, attributes := #[] }, { accessFlags := 8, nameIndex := 344, descriptorIndex := 339, attributes := #[] }, { accessFlags := 8, nameIndex := 338, descriptorIndex := 339, attributes := #[] }, { accessFlags := 4120, nameIndex := 245, descriptorIndex := 246, attributes := #[] }])
  fields := #[{ name := "E", type := .double, accessFlags := 25, slot := 0, constantValue := 0 }, { name := "PI", type := .double, accessFlags := 25, slot := 1, constantValue := 0 }, { name := "TAU", type := .double, accessFlags := 25, slot := 2, constantValue := 0 }, { name := "DEGREES_TO_RADIANS", type := .double, accessFlags := 26, slot := 3, constantValue := 0 }, { name := "RADIANS_TO_DEGREES", type := .double, accessFlags := 26, slot := 4, constantValue := 0 }, { name := "negativeZeroFloatBits", type := .long, accessFlags := 26, slot := 5, constantValue := 0 }, { name := "negativeZeroDoubleBits", type := .long, accessFlags := 26, slot := 6, constantValue := 0 }, { name := "twoToTheDoubleScaleUp", type := .double, accessFlags := 8, slot := 7, constantValue := 0 }, { name := "twoToTheDoubleScaleDown", type := .double, accessFlags := 8, slot := 8, constantValue := 0 }, { name := "$assertionsDisabled", type := .boolean, accessFlags := 4120, slot := 9, constantValue := 0 }]
  methods := #[k3m0, k3m1, k3m2]
  instanceTypes := #[]
  staticTypes := #[.double, .double, .double, .double, .double, .long, .long, .double, .double, .boolean]
  resolved := Array.replicate 460 none
  statics := none }

def pool4 : Array CpInfo := pool [(1, u "java/lang/Cloneable"), (0, .class_ 1), (0, u "java/lang/Object"), (0, .class_ 3)] 3

/-- java/lang/Cloneable -/
def k4 : Class := { plain "java/lang/Cloneable" (some 0) with
  accessFlags := 1537
  interfaces := #[]
  cf := some (fileOf pool4 2 #[] #[] 1537 4 #[] #[])
  fields := #[]
  methods := #[]
  instanceTypes := #[]
  staticTypes := #[]
  resolved := Array.replicate 8 none
  statics := none }

def pool5 : Array CpInfo := pool [(1, u "java/io/Serializable"), (0, .class_ 1), (0, u "java/lang/Object"), (0, .class_ 3)] 3

/-- java/io/Serializable -/
def k5 : Class := { plain "java/io/Serializable" (some 0) with
  accessFlags := 1537
  interfaces := #[]
  cf := some (fileOf pool5 2 #[] #[] 1537 4 #[] #[])
  fields := #[]
  methods := #[]
  instanceTypes := #[]
  staticTypes := #[]
  resolved := Array.replicate 8 none
  statics := none }

/-- the primitive byte -/
def k6 : Class := { plain "byte" none with kind := .primitive 'B', accessFlags := 0x411 }
/-- [B -/
def k7 : Class := { plain "[B" (some 0) with kind := .array 6 .byte, interfaces := #[4, 5], accessFlags := 1041 }

/-- the primitive int -/
def k8 : Class := { plain "int" none with kind := .primitive 'I', accessFlags := 0x411 }
/-- [I -/
def k9 : Class := { plain "[I" (some 0) with kind := .array 8 .int, interfaces := #[4, 5], accessFlags := 1041 }

def heap : Heap := #[]
def classes : Array Class := #[k0, k1, k2, k3, k4, k5, k6, k7, k8, k9]
def interned : List (Array UInt16 × Addr) := []
def slotsUsed : Nat := 0
def theMethod : MethodId := ⟨1, 1⟩
def args0 : Array Value := #[.int 5, .long 7, .int 5, .int 5, .int 5]
def aboutOver (below : List Frame) : State where
  vm := { classes := classes, interned := interned.toArray }
  heap := heap
  slotsUsed := slotsUsed
  threads := #[{ frames := .invoking theMethod args0 :: below }]
def below0 : List Frame := [.native { method := ⟨0, 0⟩, args := #[] }]
def about1 : State := aboutOver below0
def p0 : Program := .bare "" "" ""
def e0 : Env := launch0.env 0 0 0
theorem w_frames : about1.frames = Frame.invoking theMethod args0 :: below0 := rfl
set_option maxRecDepth 65536 in
theorem w_args : argsFit about1.vm theMethod args0 = true := by decide +kernel
set_option maxRecDepth 65536 in
theorem w_heap : heapFits about1 = true := by decide +kernel
set_option maxRecDepth 65536 in
theorem w_runnable : about1.curStatus? = some .runnable := by decide +kernel
set_option maxRecDepth 65536 in
theorem w_alone : about1.alone = true := by decide +kernel
set_option maxRecDepth 65536 in
theorem w_named : about1.methodNamed? x = some theMethod := by decide +kernel
set_option maxRecDepth 65536 in
theorem w_hears : about1.hears theMethod below0 = true := by decide +kernel
set_option maxRecDepth 65536 in
theorem w_ripe : about1.ripe theMethod args0 below0 = true := by decide +kernel
theorem w_running : about1.status = .running := rfl
set_option maxRecDepth 65536 in
theorem w_room : about1.hasRoom e0.platform room_1 = true :=
  launch0.hasRoom_least _ room_1 (by decide +kernel) (by decide +kernel) (by decide +kernel) (by decide +kernel) (by decide +kernel) (by decide +kernel)
theorem allAtoms_all (ts : List Jvm.Cond) (a : Array Jvm.Value) (st : Jvm.State) : (allAtoms ts).before a st = ts.all (fun c => c.before a st) := by
  induction ts with
  | nil => rfl
  | cons c t ih =>
    show (Jvm.Cond.and c (allAtoms t)).before a st = _
    rw [Jvm.Cond.before_and, ih, List.all_cons]
def words1 : List Jvm.Cond := Jvm.Cond.code x code maxLocals ret :: tables_1
/-- a 'code' word, met by the world's own term for the bytes: nothing is compared byte by byte -/
theorem code_word {y : MethodName} {bytes : ByteArray} {mx : Nat} {rt : Option FieldType} {a : Array Value} {s : State} {m : MethodId} {meth : Method} {c : Code} (h1 : s.methodNamed? y = some m) (h2 : s.vm.method? m = some meth) (h3 : meth.code = some c) (h4 : c.code = bytes)
    (h5 : (c.maxLocals == mx && c.exceptionTable.isEmpty && decide (c.maxStack ≤ mostOperands) && decide (meth.sig.returnType = rt) && !meth.locks && decide (parseMethodDescriptor y.desc = some meth.sig)) = true) : (Jvm.Cond.code y bytes mx rt).before a s = true := by
  simp only [Bool.and_eq_true, beq_iff_eq, Bool.not_eq_true', decide_eq_true_eq] at h5
  obtain ⟨⟨⟨⟨⟨g1, g2⟩, g3⟩, g4⟩, g5⟩, g6⟩ := h5
  simp [Cond.before, Cond.holds, Cond.value, h1, h2, h3, h4, g1, g2, g3, g4, g5, g6]
def isCode : Jvm.Cond → Bool
  | .code _ _ _ _ => true
  | _ => false
theorem all_split {L : List Jvm.Cond} {P : Jvm.Cond → Bool} (h1 : L.all (fun c => isCode c || P c) = true) (h2 : ∀ c ∈ L.filter isCode, P c = true) : L.all P = true := by
  refine List.all_eq_true.mpr fun c hc => ?_
  have h := List.all_eq_true.mp h1 c hc
  rcases Bool.eq_false_or_eq_true (isCode c) with hi | hi
  · exact h2 c (List.mem_filter.mpr ⟨hc, hi⟩)
  · simpa [hi] using h
set_option maxRecDepth 65536 in
theorem w_c0 : (Jvm.Cond.code x code maxLocals ret).before args0 about1 = true := code_word (m := ⟨1, 1⟩) (meth := k1m1) (c := k1c1) (by decide +kernel) rfl rfl rfl (by decide +kernel)
set_option maxRecDepth 65536 in
theorem w_c1 : (Jvm.Cond.code ({ cls := "tenantry/RequestHeadEndPinLaw", name := "slot", desc := "([BIZJ)V" } : Jvm.MethodName) method_3_code (5 : Nat) (Option.none : Option Jvm.ClassFile.FieldType)).before args0 about1 = true := code_word (m := ⟨1, 2⟩) (meth := k1m2) (c := k1c2) (by decide +kernel) rfl rfl rfl (by decide +kernel)
set_option maxRecDepth 65536 in
theorem w_c2 : (Jvm.Cond.code ({ cls := "tenantry/RequestHeadEndPinLaw", name := "safe", desc := "(J)B" } : Jvm.MethodName) method_4_code (3 : Nat) (Option.some Jvm.ClassFile.FieldType.byte)).before args0 about1 = true := code_word (m := ⟨1, 3⟩) (meth := k1m3) (c := k1c3) (by decide +kernel) rfl rfl rfl (by decide +kernel)
set_option maxRecDepth 65536 in
theorem w_c3 : (Jvm.Cond.code ({ cls := "tenantry/RequestHeadEndPinLaw", name := "firstEnd", desc := "([BII)I" } : Jvm.MethodName) method_6_code (3 : Nat) (Option.some Jvm.ClassFile.FieldType.int)).before args0 about1 = true := code_word (m := ⟨1, 5⟩) (meth := k1m5) (c := k1c5) (by decide +kernel) rfl rfl rfl (by decide +kernel)
set_option maxRecDepth 65536 in
theorem w_c4 : (Jvm.Cond.code ({ cls := "tenantry/RequestHeadEndPinLaw", name := "endsAt", desc := "([BIII)Z" } : Jvm.MethodName) method_5_code (4 : Nat) (Option.some Jvm.ClassFile.FieldType.boolean)).before args0 about1 = true := code_word (m := ⟨1, 4⟩) (meth := k1m4) (c := k1c4) (by decide +kernel) rfl rfl rfl (by decide +kernel)
set_option maxRecDepth 65536 in
theorem w_c5 : (Jvm.Cond.code ({ cls := "tenantry/RequestHead", name := "end", desc := "([BIII)I" } : Jvm.MethodName) prog_13_method_2_code (7 : Nat) (Option.some Jvm.ClassFile.FieldType.int)).before args0 about1 = true := code_word (m := ⟨2, 0⟩) (meth := k2m0) (c := k2c0) (by decide +kernel) rfl rfl rfl (by decide +kernel)
set_option maxRecDepth 65536 in
theorem w_c6 : (Jvm.Cond.code ({ cls := "java/lang/Math", name := "min", desc := "(II)I" } : Jvm.MethodName) jdk_29_method_69_code (2 : Nat) (Option.some Jvm.ClassFile.FieldType.int)).before args0 about1 = true := code_word (m := ⟨3, 2⟩) (meth := k3m2) (c := k3c2) (by decide +kernel) rfl rfl rfl (by decide +kernel)
set_option maxRecDepth 65536 in
theorem w_c7 : (Jvm.Cond.code ({ cls := "java/lang/Math", name := "max", desc := "(II)I" } : Jvm.MethodName) jdk_29_method_65_code (2 : Nat) (Option.some Jvm.ClassFile.FieldType.int)).before args0 about1 = true := code_word (m := ⟨3, 1⟩) (meth := k3m1) (c := k3c1) (by decide +kernel) rfl rfl rfl (by decide +kernel)
set_option maxRecDepth 65536 in
theorem w_c8 : (Jvm.Cond.code ({ cls := "tenantry/RequestHead", name := "isControl", desc := "(B)Z" } : Jvm.MethodName) prog_13_method_24_code (1 : Nat) (Option.some Jvm.ClassFile.FieldType.boolean)).before args0 about1 = true := code_word (m := ⟨2, 1⟩) (meth := k2m1) (c := k2c1) (by decide +kernel) rfl rfl rfl (by decide +kernel)
def codes1 : List Jvm.Cond := [Jvm.Cond.code x code maxLocals ret, Jvm.Cond.code ({ cls := "tenantry/RequestHeadEndPinLaw", name := "slot", desc := "([BIZJ)V" } : Jvm.MethodName) method_3_code (5 : Nat) (Option.none : Option Jvm.ClassFile.FieldType), Jvm.Cond.code ({ cls := "tenantry/RequestHeadEndPinLaw", name := "safe", desc := "(J)B" } : Jvm.MethodName) method_4_code (3 : Nat) (Option.some Jvm.ClassFile.FieldType.byte), Jvm.Cond.code ({ cls := "tenantry/RequestHeadEndPinLaw", name := "firstEnd", desc := "([BII)I" } : Jvm.MethodName) method_6_code (3 : Nat) (Option.some Jvm.ClassFile.FieldType.int), Jvm.Cond.code ({ cls := "tenantry/RequestHeadEndPinLaw", name := "endsAt", desc := "([BIII)Z" } : Jvm.MethodName) method_5_code (4 : Nat) (Option.some Jvm.ClassFile.FieldType.boolean), Jvm.Cond.code ({ cls := "tenantry/RequestHead", name := "end", desc := "([BIII)I" } : Jvm.MethodName) prog_13_method_2_code (7 : Nat) (Option.some Jvm.ClassFile.FieldType.int), Jvm.Cond.code ({ cls := "java/lang/Math", name := "min", desc := "(II)I" } : Jvm.MethodName) jdk_29_method_69_code (2 : Nat) (Option.some Jvm.ClassFile.FieldType.int), Jvm.Cond.code ({ cls := "java/lang/Math", name := "max", desc := "(II)I" } : Jvm.MethodName) jdk_29_method_65_code (2 : Nat) (Option.some Jvm.ClassFile.FieldType.int), Jvm.Cond.code ({ cls := "tenantry/RequestHead", name := "isControl", desc := "(B)Z" } : Jvm.MethodName) prog_13_method_24_code (1 : Nat) (Option.some Jvm.ClassFile.FieldType.boolean)]
set_option maxRecDepth 65536 in
theorem codes_eq : words1.filter isCode = codes1 := rfl
theorem w_codes : ∀ c ∈ words1.filter isCode, c.before args0 about1 = true := by
  rw [codes_eq]
  intro c hc
  simp only [codes1, List.mem_cons, List.not_mem_nil, or_false] at hc
  rcases hc with rfl | rfl | rfl | rfl | rfl | rfl | rfl | rfl | rfl
  · exact w_c0
  · exact w_c1
  · exact w_c2
  · exact w_c3
  · exact w_c4
  · exact w_c5
  · exact w_c6
  · exact w_c7
  · exact w_c8
set_option maxRecDepth 65536 in
theorem w_t1 : (words1.take 24).all (fun c => isCode c || c.before args0 about1) = true := by decide +kernel
set_option maxRecDepth 65536 in
theorem w_t2 : (words1.drop 24).all (fun c => isCode c || c.before args0 about1) = true := by decide +kernel
theorem w_tables : (allAtoms (Jvm.Cond.code x code maxLocals ret :: tables_1)).before args0 about1 = true := by
  rw [allAtoms_all]
  show words1.all (fun c => c.before args0 about1) = true
  refine all_split ?_ w_codes
  rw [← List.take_append_drop 24 words1, List.all_append, w_t1, w_t2]
  rfl
set_option maxRecDepth 65536 in
theorem w_case : (Jvm.Cond.and given_1 narrow_1).before args0 about1 = true := by decide +kernel
theorem w_applies : (headSpec (Jvm.Cond.code x code maxLocals ret :: tables_1) room_1).applies x e0.platform about1 = true :=
  (Spec.applies_iff w_frames).mpr ⟨w_running, w_runnable, w_alone, w_named, w_hears, w_ripe, w_room, w_tables⟩
theorem atStart : AtStart classFile x code maxLocals ret World_1 tables_1 room_1 Calls_1 rest_1 Pre_1 launch0 p0 e0 about1 theMethod args0 below0 :=
  ⟨lists_1, trivial, launch0.admits_env _ _ _, launch0.least_env, fairChoices_fair.cas, fairChoices_fair.clock, w_frames, w_args, w_heap, w_applies, trivial, trivial, w_case⟩
end start1
theorem witness_1 : WitnessClaimed_1 := ⟨start1.p0, start1.e0, start1.about1, start1.theMethod, start1.args0, start1.below0, start1.atStart⟩
end Jvm.Pilot.@@N@@
