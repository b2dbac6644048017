import JvmDerived
import JvmDerived.Pilot.@@N@@Statement
import JvmDerived.Pilot.@@N@@Code
set_option linter.unusedVariables false
set_option linter.unusedSimpArgs false
namespace Jvm.OwnGo
open Jvm Jvm.ClassFile Sem Op Lib Jvm.Free Jvm.Stand Jvm.LawKit Jvm.RoadKit
section Plain
variable {tb : Tables} [Ours tb] {e : Env} {below : List Frame} {Q : Outcome → State → Prop} {T : State} {m : MethodId} {c : Code} {bs : ByteArray} {ls l' : Array Slot} {st : List Value} {pc pn pt : Nat}
def Go (tb : Tables) (e : Env) (below : List Frame) (Q : Outcome → State → Prop) (T : State) : Prop := ∃ s₂ o, Steps tb e below T s₂ ∧ s₂.status = .running ∧ Ended s₂ below o ∧ Q o s₂
def Wk (tb : Tables) (T : State) (m : MethodId) (c : Code) (below : List Frame) (bs : ByteArray) : Prop := At T m c below ∧ tb.exec = Jvm.exec ∧ c.code = bs
theorem Go.step {tb : Tables} {T T' : State} (g : Go tb e below Q T') (h : ∀ t, Steps tb e below T' t → Steps tb e below T t) : Go tb e below Q T := by
  obtain ⟨s2, o, h1, r⟩ := g
  exact ⟨s2, o, h _ h1, r⟩
theorem Go.cast {tb : Tables} {g g' : JFrame} (q : g = g') (k : Go tb e below Q (T.setTop g')) : Go tb e below Q (T.setTop g) := q ▸ k
theorem iloadN (W : Wk tb T m c below bs) {k : Fin 4} {v : Int32} (hd : decode bs pc = .ok (.iload_n k, 1)) (hp : pc + 1 = pn) (hl : ls[k.val]? = some (.val (.int v))) (hr : Go tb e below Q (T.setTop (mkF m pn ls (.int v :: st)))) : Go tb e below Q (T.setTop (mkF m pc ls (st))) := by
  subst hp; exact hr.step fun t k => XS.iloadN W.1 W.2.1 rfl (hb W.2.2 hd) hl k
theorem iload (W : Wk tb T m c below bs) {k : Nat} {v : Int32} (hd : decode bs pc = .ok (.iload k, 2)) (hp : pc + 2 = pn) (hl : ls[k]? = some (.val (.int v))) (hr : Go tb e below Q (T.setTop (mkF m pn ls (.int v :: st)))) : Go tb e below Q (T.setTop (mkF m pc ls (st))) := by
  subst hp; exact hr.step fun t k => XS.iload W.1 W.2.1 rfl (hb W.2.2 hd) hl k
theorem lloadN (W : Wk tb T m c below bs) {k : Fin 4} {v : Int64} (hd : decode bs pc = .ok (.lload_n k, 1)) (hp : pc + 1 = pn) (hl : ls[k.val]? = some (.val (.long v))) (hr : Go tb e below Q (T.setTop (mkF m pn ls (.long v :: st)))) : Go tb e below Q (T.setTop (mkF m pc ls (st))) := by
  subst hp; exact hr.step fun t k => XT.lloadN W.1 W.2.1 rfl (hb W.2.2 hd) hl k
theorem lload (W : Wk tb T m c below bs) {k : Nat} {v : Int64} (hd : decode bs pc = .ok (.lload k, 2)) (hp : pc + 2 = pn) (hl : ls[k]? = some (.val (.long v))) (hr : Go tb e below Q (T.setTop (mkF m pn ls (.long v :: st)))) : Go tb e below Q (T.setTop (mkF m pc ls (st))) := by
  subst hp; exact hr.step fun t k => XT.lload W.1 W.2.1 rfl (hb W.2.2 hd) hl k
theorem aloadN (W : Wk tb T m c below bs) {k : Fin 4} {v : Value} (hd : decode bs pc = .ok (.aload_n k, 1)) (hp : pc + 1 = pn) (hl : ls[k.val]? = some (.val v)) (hv : v.isRef = true) (hr : Go tb e below Q (T.setTop (mkF m pn ls (v :: st)))) : Go tb e below Q (T.setTop (mkF m pc ls (st))) := by
  subst hp; exact hr.step fun t k => XS.aloadN W.1 W.2.1 rfl (hb W.2.2 hd) hl hv k
theorem aload (W : Wk tb T m c below bs) {k : Nat} {v : Value} (hd : decode bs pc = .ok (.aload k, 2)) (hp : pc + 2 = pn) (hl : ls[k]? = some (.val v)) (hv : v.isRef = true) (hr : Go tb e below Q (T.setTop (mkF m pn ls (v :: st)))) : Go tb e below Q (T.setTop (mkF m pc ls (st))) := by
  subst hp; exact hr.step fun t k => XS.aload W.1 W.2.1 rfl (hb W.2.2 hd) hl hv k
theorem istoreN (W : Wk tb T m c below bs) {k : Fin 4} {x : Int32} (hd : decode bs pc = .ok (.istore_n k, 1)) (hp : pc + 1 = pn) (hl : storeLocals ls k.val (.int x) = some l') (hr : Go tb e below Q (T.setTop (mkF m pn l' (st)))) : Go tb e below Q (T.setTop (mkF m pc ls (.int x :: st))) := by
  subst hp; exact hr.step fun t k => XS.istoreN W.1 W.2.1 rfl (hb W.2.2 hd) rfl hl k
theorem istore (W : Wk tb T m c below bs) {k : Nat} {x : Int32} (hd : decode bs pc = .ok (.istore k, 2)) (hp : pc + 2 = pn) (hl : storeLocals ls k (.int x) = some l') (hr : Go tb e below Q (T.setTop (mkF m pn l' (st)))) : Go tb e below Q (T.setTop (mkF m pc ls (.int x :: st))) := by
  subst hp; exact hr.step fun t k => XS.istore W.1 W.2.1 rfl (hb W.2.2 hd) rfl hl k
theorem lstoreN (W : Wk tb T m c below bs) {k : Fin 4} {x : Int64} (hd : decode bs pc = .ok (.lstore_n k, 1)) (hp : pc + 1 = pn) (hl : storeLocals ls k.val (.long x) = some l') (hr : Go tb e below Q (T.setTop (mkF m pn l' (st)))) : Go tb e below Q (T.setTop (mkF m pc ls (.long x :: st))) := by
  subst hp; exact hr.step fun t k => XT.lstoreN W.1 W.2.1 rfl (hb W.2.2 hd) rfl hl k
theorem lstore (W : Wk tb T m c below bs) {k : Nat} {x : Int64} (hd : decode bs pc = .ok (.lstore k, 2)) (hp : pc + 2 = pn) (hl : storeLocals ls k (.long x) = some l') (hr : Go tb e below Q (T.setTop (mkF m pn l' (st)))) : Go tb e below Q (T.setTop (mkF m pc ls (.long x :: st))) := by
  subst hp; exact hr.step fun t k => XT.lstore W.1 W.2.1 rfl (hb W.2.2 hd) rfl hl k
theorem astoreN (W : Wk tb T m c below bs) {k : Fin 4} {x : Value} (hd : decode bs pc = .ok (.astore_n k, 1)) (hp : pc + 1 = pn) (hv : x.isRef = true) (hl : storeLocals ls k.val x = some l') (hr : Go tb e below Q (T.setTop (mkF m pn l' (st)))) : Go tb e below Q (T.setTop (mkF m pc ls (x :: st))) := by
  subst hp; exact hr.step fun t k => XS.astoreN W.1 W.2.1 rfl (hb W.2.2 hd) rfl hv hl k
theorem astore (W : Wk tb T m c below bs) {k : Nat} {x : Value} (hd : decode bs pc = .ok (.astore k, 2)) (hp : pc + 2 = pn) (hv : x.isRef = true) (hl : storeLocals ls k x = some l') (hr : Go tb e below Q (T.setTop (mkF m pn l' (st)))) : Go tb e below Q (T.setTop (mkF m pc ls (x :: st))) := by
  subst hp; exact hr.step fun t k => XS.astore W.1 W.2.1 rfl (hb W.2.2 hd) rfl hv hl k
theorem iadd (W : Wk tb T m c below bs) {x y : Int32} (hd : decode bs pc = .ok (.iadd, 1)) (hp : pc + 1 = pn)  (hr : Go tb e below Q (T.setTop (mkF m pn ls (.int (x + y) :: st)))) : Go tb e below Q (T.setTop (mkF m pc ls (.int y :: .int x :: st))) := by
  subst hp; exact hr.step fun t k => XS.iadd W.1 W.2.1 rfl (hb W.2.2 hd) rfl k
theorem isub (W : Wk tb T m c below bs) {x y : Int32} (hd : decode bs pc = .ok (.isub, 1)) (hp : pc + 1 = pn)  (hr : Go tb e below Q (T.setTop (mkF m pn ls (.int (x - y) :: st)))) : Go tb e below Q (T.setTop (mkF m pc ls (.int y :: .int x :: st))) := by
  subst hp; exact hr.step fun t k => XS.isub W.1 W.2.1 rfl (hb W.2.2 hd) rfl k
theorem imul (W : Wk tb T m c below bs) {x y : Int32} (hd : decode bs pc = .ok (.imul, 1)) (hp : pc + 1 = pn)  (hr : Go tb e below Q (T.setTop (mkF m pn ls (.int (x * y) :: st)))) : Go tb e below Q (T.setTop (mkF m pc ls (.int y :: .int x :: st))) := by
  subst hp; exact hr.step fun t k => XS.imul W.1 W.2.1 rfl (hb W.2.2 hd) rfl k
theorem iand (W : Wk tb T m c below bs) {x y : Int32} (hd : decode bs pc = .ok (.iand, 1)) (hp : pc + 1 = pn)  (hr : Go tb e below Q (T.setTop (mkF m pn ls (.int (x &&& y) :: st)))) : Go tb e below Q (T.setTop (mkF m pc ls (.int y :: .int x :: st))) := by
  subst hp; exact hr.step fun t k => XS.iand W.1 W.2.1 rfl (hb W.2.2 hd) rfl k
theorem ior (W : Wk tb T m c below bs) {x y : Int32} (hd : decode bs pc = .ok (.ior, 1)) (hp : pc + 1 = pn)  (hr : Go tb e below Q (T.setTop (mkF m pn ls (.int (x ||| y) :: st)))) : Go tb e below Q (T.setTop (mkF m pc ls (.int y :: .int x :: st))) := by
  subst hp; exact hr.step fun t k => XT.ior W.1 W.2.1 rfl (hb W.2.2 hd) rfl k
theorem ixor (W : Wk tb T m c below bs) {x y : Int32} (hd : decode bs pc = .ok (.ixor, 1)) (hp : pc + 1 = pn)  (hr : Go tb e below Q (T.setTop (mkF m pn ls (.int (x ^^^ y) :: st)))) : Go tb e below Q (T.setTop (mkF m pc ls (.int y :: .int x :: st))) := by
  subst hp; exact hr.step fun t k => XT.ixor W.1 W.2.1 rfl (hb W.2.2 hd) rfl k
theorem ishl (W : Wk tb T m c below bs) {x y : Int32} (hd : decode bs pc = .ok (.ishl, 1)) (hp : pc + 1 = pn)  (hr : Go tb e below Q (T.setTop (mkF m pn ls (.int (x <<< (y &&& 31)) :: st)))) : Go tb e below Q (T.setTop (mkF m pc ls (.int y :: .int x :: st))) := by
  subst hp; exact hr.step fun t k => XT.ishl W.1 W.2.1 rfl (hb W.2.2 hd) rfl k
theorem ishr (W : Wk tb T m c below bs) {x y : Int32} (hd : decode bs pc = .ok (.ishr, 1)) (hp : pc + 1 = pn)  (hr : Go tb e below Q (T.setTop (mkF m pn ls (.int (x >>> (y &&& 31)) :: st)))) : Go tb e below Q (T.setTop (mkF m pc ls (.int y :: .int x :: st))) := by
  subst hp; exact hr.step fun t k => XT.ishr W.1 W.2.1 rfl (hb W.2.2 hd) rfl k
theorem iushr (W : Wk tb T m c below bs) {x y : Int32} (hd : decode bs pc = .ok (.iushr, 1)) (hp : pc + 1 = pn)  (hr : Go tb e below Q (T.setTop (mkF m pn ls (.int (XT.ushr x y) :: st)))) : Go tb e below Q (T.setTop (mkF m pc ls (.int y :: .int x :: st))) := by
  subst hp; exact hr.step fun t k => XT.iushr W.1 W.2.1 rfl (hb W.2.2 hd) rfl k
theorem ladd (W : Wk tb T m c below bs) {x y : Int64} (hd : decode bs pc = .ok (.ladd, 1)) (hp : pc + 1 = pn)  (hr : Go tb e below Q (T.setTop (mkF m pn ls (.long (x + y) :: st)))) : Go tb e below Q (T.setTop (mkF m pc ls (.long y :: .long x :: st))) := by
  subst hp; exact hr.step fun t k => XT.ladd W.1 W.2.1 rfl (hb W.2.2 hd) rfl k
theorem lsub (W : Wk tb T m c below bs) {x y : Int64} (hd : decode bs pc = .ok (.lsub, 1)) (hp : pc + 1 = pn)  (hr : Go tb e below Q (T.setTop (mkF m pn ls (.long (x - y) :: st)))) : Go tb e below Q (T.setTop (mkF m pc ls (.long y :: .long x :: st))) := by
  subst hp; exact hr.step fun t k => XT.lsub W.1 W.2.1 rfl (hb W.2.2 hd) rfl k
theorem lmul (W : Wk tb T m c below bs) {x y : Int64} (hd : decode bs pc = .ok (.lmul, 1)) (hp : pc + 1 = pn)  (hr : Go tb e below Q (T.setTop (mkF m pn ls (.long (x * y) :: st)))) : Go tb e below Q (T.setTop (mkF m pc ls (.long y :: .long x :: st))) := by
  subst hp; exact hr.step fun t k => XT.lmul W.1 W.2.1 rfl (hb W.2.2 hd) rfl k
theorem land (W : Wk tb T m c below bs) {x y : Int64} (hd : decode bs pc = .ok (.land, 1)) (hp : pc + 1 = pn)  (hr : Go tb e below Q (T.setTop (mkF m pn ls (.long (x &&& y) :: st)))) : Go tb e below Q (T.setTop (mkF m pc ls (.long y :: .long x :: st))) := by
  subst hp; exact hr.step fun t k => XT.land W.1 W.2.1 rfl (hb W.2.2 hd) rfl k
theorem lor (W : Wk tb T m c below bs) {x y : Int64} (hd : decode bs pc = .ok (.lor, 1)) (hp : pc + 1 = pn)  (hr : Go tb e below Q (T.setTop (mkF m pn ls (.long (x ||| y) :: st)))) : Go tb e below Q (T.setTop (mkF m pc ls (.long y :: .long x :: st))) := by
  subst hp; exact hr.step fun t k => XT.lor W.1 W.2.1 rfl (hb W.2.2 hd) rfl k
theorem lxor (W : Wk tb T m c below bs) {x y : Int64} (hd : decode bs pc = .ok (.lxor, 1)) (hp : pc + 1 = pn)  (hr : Go tb e below Q (T.setTop (mkF m pn ls (.long (x ^^^ y) :: st)))) : Go tb e below Q (T.setTop (mkF m pc ls (.long y :: .long x :: st))) := by
  subst hp; exact hr.step fun t k => XT.lxor W.1 W.2.1 rfl (hb W.2.2 hd) rfl k
theorem lshl (W : Wk tb T m c below bs) {x : Int64} {y : Int32} (hd : decode bs pc = .ok (.lshl, 1)) (hp : pc + 1 = pn)  (hr : Go tb e below Q (T.setTop (mkF m pn ls (.long (x <<< (y.toInt64 &&& 63)) :: st)))) : Go tb e below Q (T.setTop (mkF m pc ls (.int y :: .long x :: st))) := by
  subst hp; exact hr.step fun t k => XT.lshl W.1 W.2.1 rfl (hb W.2.2 hd) rfl k
theorem lshr (W : Wk tb T m c below bs) {x : Int64} {y : Int32} (hd : decode bs pc = .ok (.lshr, 1)) (hp : pc + 1 = pn)  (hr : Go tb e below Q (T.setTop (mkF m pn ls (.long (x >>> (y.toInt64 &&& 63)) :: st)))) : Go tb e below Q (T.setTop (mkF m pc ls (.int y :: .long x :: st))) := by
  subst hp; exact hr.step fun t k => XT.lshr W.1 W.2.1 rfl (hb W.2.2 hd) rfl k
theorem lushr (W : Wk tb T m c below bs) {x : Int64} {y : Int32} (hd : decode bs pc = .ok (.lushr, 1)) (hp : pc + 1 = pn)  (hr : Go tb e below Q (T.setTop (mkF m pn ls (.long (XT.ushrL x y) :: st)))) : Go tb e below Q (T.setTop (mkF m pc ls (.int y :: .long x :: st))) := by
  subst hp; exact hr.step fun t k => XT.lushr W.1 W.2.1 rfl (hb W.2.2 hd) rfl k
theorem i2l (W : Wk tb T m c below bs) {x : Int32} (hd : decode bs pc = .ok (.i2l, 1)) (hp : pc + 1 = pn)  (hr : Go tb e below Q (T.setTop (mkF m pn ls (.long (x.toInt64) :: st)))) : Go tb e below Q (T.setTop (mkF m pc ls (.int x :: st))) := by
  subst hp; exact hr.step fun t k => XT.i2l W.1 W.2.1 rfl (hb W.2.2 hd) rfl k
theorem l2i (W : Wk tb T m c below bs) {x : Int64} (hd : decode bs pc = .ok (.l2i, 1)) (hp : pc + 1 = pn)  (hr : Go tb e below Q (T.setTop (mkF m pn ls (.int (x.toInt32) :: st)))) : Go tb e below Q (T.setTop (mkF m pc ls (.long x :: st))) := by
  subst hp; exact hr.step fun t k => XT.l2i W.1 W.2.1 rfl (hb W.2.2 hd) rfl k
theorem i2b (W : Wk tb T m c below bs) {x : Int32} (hd : decode bs pc = .ok (.i2b, 1)) (hp : pc + 1 = pn)  (hr : Go tb e below Q (T.setTop (mkF m pn ls (.int (x.toInt8.toInt32) :: st)))) : Go tb e below Q (T.setTop (mkF m pc ls (.int x :: st))) := by
  subst hp; exact hr.step fun t k => XT.i2b W.1 W.2.1 rfl (hb W.2.2 hd) rfl k
theorem i2c (W : Wk tb T m c below bs) {x : Int32} (hd : decode bs pc = .ok (.i2c, 1)) (hp : pc + 1 = pn)  (hr : Go tb e below Q (T.setTop (mkF m pn ls (.int (x.toUInt32.toUInt16.toUInt32.toInt32) :: st)))) : Go tb e below Q (T.setTop (mkF m pc ls (.int x :: st))) := by
  subst hp; exact hr.step fun t k => XT.i2c W.1 W.2.1 rfl (hb W.2.2 hd) rfl k
theorem i2s (W : Wk tb T m c below bs) {x : Int32} (hd : decode bs pc = .ok (.i2s, 1)) (hp : pc + 1 = pn)  (hr : Go tb e below Q (T.setTop (mkF m pn ls (.int (x.toInt16.toInt32) :: st)))) : Go tb e below Q (T.setTop (mkF m pc ls (.int x :: st))) := by
  subst hp; exact hr.step fun t k => XT.i2s W.1 W.2.1 rfl (hb W.2.2 hd) rfl k
theorem ineg (W : Wk tb T m c below bs) {x : Int32} (hd : decode bs pc = .ok (.ineg, 1)) (hp : pc + 1 = pn)  (hr : Go tb e below Q (T.setTop (mkF m pn ls (.int (-x) :: st)))) : Go tb e below Q (T.setTop (mkF m pc ls (.int x :: st))) := by
  subst hp; exact hr.step fun t k => XS.ineg W.1 W.2.1 rfl (hb W.2.2 hd) rfl k
theorem lneg (W : Wk tb T m c below bs) {x : Int64} (hd : decode bs pc = .ok (.lneg, 1)) (hp : pc + 1 = pn)  (hr : Go tb e below Q (T.setTop (mkF m pn ls (.long (-x) :: st)))) : Go tb e below Q (T.setTop (mkF m pc ls (.long x :: st))) := by
  subst hp; exact hr.step fun t k => XT.lneg W.1 W.2.1 rfl (hb W.2.2 hd) rfl k
theorem idiv (W : Wk tb T m c below bs) {x y : Int32} (hd : decode bs pc = .ok (.idiv, 1)) (hp : pc + 1 = pn) (hy : y ≠ 0) (hr : Go tb e below Q (T.setTop (mkF m pn ls (.int (x / y) :: st)))) : Go tb e below Q (T.setTop (mkF m pc ls (.int y :: .int x :: st))) := by
  subst hp; exact hr.step fun t k => XS.idiv W.1 W.2.1 rfl (hb W.2.2 hd) rfl hy k
theorem irem (W : Wk tb T m c below bs) {x y : Int32} (hd : decode bs pc = .ok (.irem, 1)) (hp : pc + 1 = pn) (hy : y ≠ 0) (hr : Go tb e below Q (T.setTop (mkF m pn ls (.int (x - (x / y) * y) :: st)))) : Go tb e below Q (T.setTop (mkF m pc ls (.int y :: .int x :: st))) := by
  subst hp; exact hr.step fun t k => XS.irem W.1 W.2.1 rfl (hb W.2.2 hd) rfl hy k
theorem ldiv (W : Wk tb T m c below bs) {x y : Int64} (hd : decode bs pc = .ok (.ldiv, 1)) (hp : pc + 1 = pn) (hy : y ≠ 0) (hr : Go tb e below Q (T.setTop (mkF m pn ls (.long (x / y) :: st)))) : Go tb e below Q (T.setTop (mkF m pc ls (.long y :: .long x :: st))) := by
  subst hp; exact hr.step fun t k => XT.ldiv W.1 W.2.1 rfl (hb W.2.2 hd) rfl hy k
theorem lrem (W : Wk tb T m c below bs) {x y : Int64} (hd : decode bs pc = .ok (.lrem, 1)) (hp : pc + 1 = pn) (hy : y ≠ 0) (hr : Go tb e below Q (T.setTop (mkF m pn ls (.long (x - (x / y) * y) :: st)))) : Go tb e below Q (T.setTop (mkF m pc ls (.long y :: .long x :: st))) := by
  subst hp; exact hr.step fun t k => XT.lrem W.1 W.2.1 rfl (hb W.2.2 hd) rfl hy k
theorem lcmp (W : Wk tb T m c below bs) {x y : Int64} (hd : decode bs pc = .ok (.lcmp, 1)) (hp : pc + 1 = pn)  (hr : Go tb e below Q (T.setTop (mkF m pn ls (.int (XT.cmpL x y) :: st)))) : Go tb e below Q (T.setTop (mkF m pc ls (.long y :: .long x :: st))) := by
  subst hp; exact hr.step fun t k => XT.lcmp W.1 W.2.1 rfl (hb W.2.2 hd) rfl k
theorem dup (W : Wk tb T m c below bs) {x : Value} (hd : decode bs pc = .ok (.dup, 1)) (hp : pc + 1 = pn) (hc : x.category = 1) (hr : Go tb e below Q (T.setTop (mkF m pn ls (x :: x :: st)))) : Go tb e below Q (T.setTop (mkF m pc ls (x :: st))) := by
  subst hp; exact hr.step fun t k => XS.dup W.1 W.2.1 rfl (hb W.2.2 hd) rfl hc k
theorem dup2 (W : Wk tb T m c below bs) {x y : Value} (hd : decode bs pc = .ok (.dup2, 1)) (hp : pc + 1 = pn) (hc : x.category = 1) (hc' : y.category = 1) (hr : Go tb e below Q (T.setTop (mkF m pn ls (x :: y :: x :: y :: st)))) : Go tb e below Q (T.setTop (mkF m pc ls (x :: y :: st))) := by
  subst hp; exact hr.step fun t k => XT.dup2 W.1 W.2.1 rfl (hb W.2.2 hd) rfl hc hc' k
theorem pop (W : Wk tb T m c below bs) {x : Value} (hd : decode bs pc = .ok (.pop, 1)) (hp : pc + 1 = pn) (hc : x.category = 1) (hr : Go tb e below Q (T.setTop (mkF m pn ls (st)))) : Go tb e below Q (T.setTop (mkF m pc ls (x :: st))) := by
  subst hp; exact hr.step fun t k => XT.pop W.1 W.2.1 rfl (hb W.2.2 hd) rfl hc k
theorem aconstNull (W : Wk tb T m c below bs)  (hd : decode bs pc = .ok (.aconst_null, 1)) (hp : pc + 1 = pn)  (hr : Go tb e below Q (T.setTop (mkF m pn ls (.null :: st)))) : Go tb e below Q (T.setTop (mkF m pc ls (st))) := by
  subst hp; exact hr.step fun t k => XS.aconstNull W.1 W.2.1 rfl (hb W.2.2 hd)  k
theorem iconst (W : Wk tb T m c below bs) {i : Int} {v : Int32} (hd : decode bs pc = .ok (.iconst i, 1)) (hp : pc + 1 = pn) (hv : Int32.ofInt i = v) (hr : Go tb e below Q (T.setTop (mkF m pn ls (.int v :: st)))) : Go tb e below Q (T.setTop (mkF m pc ls st)) := by
  subst hp; exact hr.step fun t k => XT.iconstV W.1 W.2.1 rfl _ (hb W.2.2 hd) hv k
theorem bipush (W : Wk tb T m c below bs) {i : Int} {v : Int32} (hd : decode bs pc = .ok (.bipush i, 2)) (hp : pc + 2 = pn) (hv : (Int8.ofInt i).toInt32 = v) (hr : Go tb e below Q (T.setTop (mkF m pn ls (.int v :: st)))) : Go tb e below Q (T.setTop (mkF m pc ls st)) := by
  subst hp; exact hr.step fun t k => XT.bipushV W.1 W.2.1 rfl _ (hb W.2.2 hd) hv k
theorem sipush (W : Wk tb T m c below bs) {i : Int} {v : Int32} (hd : decode bs pc = .ok (.sipush i, 3)) (hp : pc + 3 = pn) (hv : (Int16.ofInt i).toInt32 = v) (hr : Go tb e below Q (T.setTop (mkF m pn ls (.int v :: st)))) : Go tb e below Q (T.setTop (mkF m pc ls st)) := by
  subst hp; exact hr.step fun t k => XT.sipushV W.1 W.2.1 rfl _ (hb W.2.2 hd) hv k
theorem lconst (W : Wk tb T m c below bs) {i : Fin 2} {v : Int64} (hd : decode bs pc = .ok (.lconst i, 1)) (hp : pc + 1 = pn) (hv : Int64.ofNat i = v) (hr : Go tb e below Q (T.setTop (mkF m pn ls (.long v :: st)))) : Go tb e below Q (T.setTop (mkF m pc ls st)) := by
  subst hp; exact hr.step fun t k => XT.lconstV W.1 W.2.1 rfl _ (hb W.2.2 hd) hv k
theorem iinc (W : Wk tb T m c below bs) {k : Nat} {cst : Int} {x v : Int32} (hd : decode bs pc = .ok (.iinc k cst, 3)) (hp : pc + 3 = pn) (hv : Int32.ofInt cst = v) (hl : ls[k]? = some (.val (.int x))) (hl' : storeLocals ls k (.int (x + v)) = some l') (hr : Go tb e below Q (T.setTop (mkF m pn l' st))) : Go tb e below Q (T.setTop (mkF m pc ls st)) := by
  subst hp; exact hr.step fun t k => XT.iincV W.1 W.2.1 rfl _ (hb W.2.2 hd) hv hl hl' k
theorem goto (W : Wk tb T m c below bs) {o : Int} (hd : decode bs pc = .ok (.goto o, 3)) (ho : 0 ≤ (pc : Int) + o) (ht : ((pc : Int) + o).toNat = pt) (hr : Go tb e below Q (T.setTop (mkF m pt ls st))) : Go tb e below Q (T.setTop (mkF m pc ls st)) := by
  exact hr.step fun t k => XS.goto W.1 W.2.1 rfl (pc0 := pc) (pc' := pt) rfl (hb W.2.2 hd) ho ht k
theorem icmp_eq (W : Wk tb T m c below bs) {x y : Int32} {o : Int} (hd : decode bs pc = .ok (.if_icmp .eq o, 3)) (hp : pc + 3 = pn) (ho : 0 ≤ (pc : Int) + o) (ht : ((pc : Int) + o).toNat = pt) (h1 : x = y → Go tb e below Q (T.setTop (mkF m pt ls st))) (h2 : ¬ (x = y) → Go tb e below Q (T.setTop (mkF m pn ls st))) : Go tb e below Q (T.setTop (mkF m pc ls (.int y :: .int x :: st))) := by
  subst hp
  by_cases h : x = y
  · exact (h1 h).step fun t k => XS.icmpYes W.1 W.2.1 rfl (pc0 := pc) (pc' := pt) rfl (hb W.2.2 hd) rfl (XT.ii_eq_t h) ho ht k
  · exact (h2 h).step fun t k => XS.icmpNo W.1 W.2.1 rfl (hb W.2.2 hd) rfl (XT.ii_eq_f h) k
theorem if_eq (W : Wk tb T m c below bs) {x : Int32} {o : Int} (hd : decode bs pc = .ok (.ifCond .eq o, 3)) (hp : pc + 3 = pn) (ho : 0 ≤ (pc : Int) + o) (ht : ((pc : Int) + o).toNat = pt) (h1 : x = 0 → Go tb e below Q (T.setTop (mkF m pt ls st))) (h2 : ¬ (x = 0) → Go tb e below Q (T.setTop (mkF m pn ls st))) : Go tb e below Q (T.setTop (mkF m pc ls (.int x :: st))) := by
  subst hp
  by_cases h : x = 0
  · exact (h1 h).step fun t k => XS.ifYes W.1 W.2.1 rfl (pc0 := pc) (pc' := pt) rfl (hb W.2.2 hd) rfl (XT.i0_eq_t h) ho ht k
  · exact (h2 h).step fun t k => XS.ifNo W.1 W.2.1 rfl (hb W.2.2 hd) rfl (XT.i0_eq_f h) k
theorem lif_eq (W : Wk tb T m c below bs) {x y : Int64} {o : Int} (hd : decode bs pc = .ok (.ifCond .eq o, 3)) (hp : pc + 3 = pn) (ho : 0 ≤ (pc : Int) + o) (ht : ((pc : Int) + o).toNat = pt) (h1 : x = y → Go tb e below Q (T.setTop (mkF m pt ls st))) (h2 : ¬ (x = y) → Go tb e below Q (T.setTop (mkF m pn ls st))) : Go tb e below Q (T.setTop (mkF m pc ls (.int (XT.cmpL x y) :: st))) := by
  subst hp
  by_cases h : x = y
  · exact (h1 h).step fun t k => XS.ifYes W.1 W.2.1 rfl (pc0 := pc) (pc' := pt) rfl (hb W.2.2 hd) rfl (XT.ll_eq_t h) ho ht k
  · exact (h2 h).step fun t k => XS.ifNo W.1 W.2.1 rfl (hb W.2.2 hd) rfl (XT.ll_eq_f h) k
theorem icmp_ne (W : Wk tb T m c below bs) {x y : Int32} {o : Int} (hd : decode bs pc = .ok (.if_icmp .ne o, 3)) (hp : pc + 3 = pn) (ho : 0 ≤ (pc : Int) + o) (ht : ((pc : Int) + o).toNat = pt) (h1 : x = y → Go tb e below Q (T.setTop (mkF m pn ls st))) (h2 : ¬ (x = y) → Go tb e below Q (T.setTop (mkF m pt ls st))) : Go tb e below Q (T.setTop (mkF m pc ls (.int y :: .int x :: st))) := by
  subst hp
  by_cases h : x = y
  · exact (h1 h).step fun t k => XS.icmpNo W.1 W.2.1 rfl (hb W.2.2 hd) rfl (XT.ii_ne_f h) k
  · exact (h2 h).step fun t k => XS.icmpYes W.1 W.2.1 rfl (pc0 := pc) (pc' := pt) rfl (hb W.2.2 hd) rfl (XT.ii_ne_t h) ho ht k
theorem if_ne (W : Wk tb T m c below bs) {x : Int32} {o : Int} (hd : decode bs pc = .ok (.ifCond .ne o, 3)) (hp : pc + 3 = pn) (ho : 0 ≤ (pc : Int) + o) (ht : ((pc : Int) + o).toNat = pt) (h1 : x = 0 → Go tb e below Q (T.setTop (mkF m pn ls st))) (h2 : ¬ (x = 0) → Go tb e below Q (T.setTop (mkF m pt ls st))) : Go tb e below Q (T.setTop (mkF m pc ls (.int x :: st))) := by
  subst hp
  by_cases h : x = 0
  · exact (h1 h).step fun t k => XS.ifNo W.1 W.2.1 rfl (hb W.2.2 hd) rfl (XT.i0_ne_f h) k
  · exact (h2 h).step fun t k => XS.ifYes W.1 W.2.1 rfl (pc0 := pc) (pc' := pt) rfl (hb W.2.2 hd) rfl (XT.i0_ne_t h) ho ht k
theorem lif_ne (W : Wk tb T m c below bs) {x y : Int64} {o : Int} (hd : decode bs pc = .ok (.ifCond .ne o, 3)) (hp : pc + 3 = pn) (ho : 0 ≤ (pc : Int) + o) (ht : ((pc : Int) + o).toNat = pt) (h1 : x = y → Go tb e below Q (T.setTop (mkF m pn ls st))) (h2 : ¬ (x = y) → Go tb e below Q (T.setTop (mkF m pt ls st))) : Go tb e below Q (T.setTop (mkF m pc ls (.int (XT.cmpL x y) :: st))) := by
  subst hp
  by_cases h : x = y
  · exact (h1 h).step fun t k => XS.ifNo W.1 W.2.1 rfl (hb W.2.2 hd) rfl (XT.ll_ne_f h) k
  · exact (h2 h).step fun t k => XS.ifYes W.1 W.2.1 rfl (pc0 := pc) (pc' := pt) rfl (hb W.2.2 hd) rfl (XT.ll_ne_t h) ho ht k
theorem icmp_lt (W : Wk tb T m c below bs) {x y : Int32} {o : Int} (hd : decode bs pc = .ok (.if_icmp .lt o, 3)) (hp : pc + 3 = pn) (ho : 0 ≤ (pc : Int) + o) (ht : ((pc : Int) + o).toNat = pt) (h1 : x < y → Go tb e below Q (T.setTop (mkF m pt ls st))) (h2 : ¬ (x < y) → Go tb e below Q (T.setTop (mkF m pn ls st))) : Go tb e below Q (T.setTop (mkF m pc ls (.int y :: .int x :: st))) := by
  subst hp
  by_cases h : x < y
  · exact (h1 h).step fun t k => XS.icmpYes W.1 W.2.1 rfl (pc0 := pc) (pc' := pt) rfl (hb W.2.2 hd) rfl (XT.ii_lt_t h) ho ht k
  · exact (h2 h).step fun t k => XS.icmpNo W.1 W.2.1 rfl (hb W.2.2 hd) rfl (XT.ii_lt_f h) k
theorem if_lt (W : Wk tb T m c below bs) {x : Int32} {o : Int} (hd : decode bs pc = .ok (.ifCond .lt o, 3)) (hp : pc + 3 = pn) (ho : 0 ≤ (pc : Int) + o) (ht : ((pc : Int) + o).toNat = pt) (h1 : x < 0 → Go tb e below Q (T.setTop (mkF m pt ls st))) (h2 : ¬ (x < 0) → Go tb e below Q (T.setTop (mkF m pn ls st))) : Go tb e below Q (T.setTop (mkF m pc ls (.int x :: st))) := by
  subst hp
  by_cases h : x < 0
  · exact (h1 h).step fun t k => XS.ifYes W.1 W.2.1 rfl (pc0 := pc) (pc' := pt) rfl (hb W.2.2 hd) rfl (XT.i0_lt_t h) ho ht k
  · exact (h2 h).step fun t k => XS.ifNo W.1 W.2.1 rfl (hb W.2.2 hd) rfl (XT.i0_lt_f h) k
theorem lif_lt (W : Wk tb T m c below bs) {x y : Int64} {o : Int} (hd : decode bs pc = .ok (.ifCond .lt o, 3)) (hp : pc + 3 = pn) (ho : 0 ≤ (pc : Int) + o) (ht : ((pc : Int) + o).toNat = pt) (h1 : x < y → Go tb e below Q (T.setTop (mkF m pt ls st))) (h2 : ¬ (x < y) → Go tb e below Q (T.setTop (mkF m pn ls st))) : Go tb e below Q (T.setTop (mkF m pc ls (.int (XT.cmpL x y) :: st))) := by
  subst hp
  by_cases h : x < y
  · exact (h1 h).step fun t k => XS.ifYes W.1 W.2.1 rfl (pc0 := pc) (pc' := pt) rfl (hb W.2.2 hd) rfl (XT.ll_lt_t h) ho ht k
  · exact (h2 h).step fun t k => XS.ifNo W.1 W.2.1 rfl (hb W.2.2 hd) rfl (XT.ll_lt_f h) k
theorem icmp_ge (W : Wk tb T m c below bs) {x y : Int32} {o : Int} (hd : decode bs pc = .ok (.if_icmp .ge o, 3)) (hp : pc + 3 = pn) (ho : 0 ≤ (pc : Int) + o) (ht : ((pc : Int) + o).toNat = pt) (h1 : x < y → Go tb e below Q (T.setTop (mkF m pn ls st))) (h2 : ¬ (x < y) → Go tb e below Q (T.setTop (mkF m pt ls st))) : Go tb e below Q (T.setTop (mkF m pc ls (.int y :: .int x :: st))) := by
  subst hp
  by_cases h : x < y
  · exact (h1 h).step fun t k => XS.icmpNo W.1 W.2.1 rfl (hb W.2.2 hd) rfl (XT.ii_ge_f h) k
  · exact (h2 h).step fun t k => XS.icmpYes W.1 W.2.1 rfl (pc0 := pc) (pc' := pt) rfl (hb W.2.2 hd) rfl (XT.ii_ge_t h) ho ht k
theorem if_ge (W : Wk tb T m c below bs) {x : Int32} {o : Int} (hd : decode bs pc = .ok (.ifCond .ge o, 3)) (hp : pc + 3 = pn) (ho : 0 ≤ (pc : Int) + o) (ht : ((pc : Int) + o).toNat = pt) (h1 : x < 0 → Go tb e below Q (T.setTop (mkF m pn ls st))) (h2 : ¬ (x < 0) → Go tb e below Q (T.setTop (mkF m pt ls st))) : Go tb e below Q (T.setTop (mkF m pc ls (.int x :: st))) := by
  subst hp
  by_cases h : x < 0
  · exact (h1 h).step fun t k => XS.ifNo W.1 W.2.1 rfl (hb W.2.2 hd) rfl (XT.i0_ge_f h) k
  · exact (h2 h).step fun t k => XS.ifYes W.1 W.2.1 rfl (pc0 := pc) (pc' := pt) rfl (hb W.2.2 hd) rfl (XT.i0_ge_t h) ho ht k
theorem lif_ge (W : Wk tb T m c below bs) {x y : Int64} {o : Int} (hd : decode bs pc = .ok (.ifCond .ge o, 3)) (hp : pc + 3 = pn) (ho : 0 ≤ (pc : Int) + o) (ht : ((pc : Int) + o).toNat = pt) (h1 : x < y → Go tb e below Q (T.setTop (mkF m pn ls st))) (h2 : ¬ (x < y) → Go tb e below Q (T.setTop (mkF m pt ls st))) : Go tb e below Q (T.setTop (mkF m pc ls (.int (XT.cmpL x y) :: st))) := by
  subst hp
  by_cases h : x < y
  · exact (h1 h).step fun t k => XS.ifNo W.1 W.2.1 rfl (hb W.2.2 hd) rfl (XT.ll_ge_f h) k
  · exact (h2 h).step fun t k => XS.ifYes W.1 W.2.1 rfl (pc0 := pc) (pc' := pt) rfl (hb W.2.2 hd) rfl (XT.ll_ge_t h) ho ht k
theorem icmp_gt (W : Wk tb T m c below bs) {x y : Int32} {o : Int} (hd : decode bs pc = .ok (.if_icmp .gt o, 3)) (hp : pc + 3 = pn) (ho : 0 ≤ (pc : Int) + o) (ht : ((pc : Int) + o).toNat = pt) (h1 : y < x → Go tb e below Q (T.setTop (mkF m pt ls st))) (h2 : ¬ (y < x) → Go tb e below Q (T.setTop (mkF m pn ls st))) : Go tb e below Q (T.setTop (mkF m pc ls (.int y :: .int x :: st))) := by
  subst hp
  by_cases h : y < x
  · exact (h1 h).step fun t k => XS.icmpYes W.1 W.2.1 rfl (pc0 := pc) (pc' := pt) rfl (hb W.2.2 hd) rfl (XT.ii_gt_t h) ho ht k
  · exact (h2 h).step fun t k => XS.icmpNo W.1 W.2.1 rfl (hb W.2.2 hd) rfl (XT.ii_gt_f h) k
theorem if_gt (W : Wk tb T m c below bs) {x : Int32} {o : Int} (hd : decode bs pc = .ok (.ifCond .gt o, 3)) (hp : pc + 3 = pn) (ho : 0 ≤ (pc : Int) + o) (ht : ((pc : Int) + o).toNat = pt) (h1 : 0 < x → Go tb e below Q (T.setTop (mkF m pt ls st))) (h2 : ¬ (0 < x) → Go tb e below Q (T.setTop (mkF m pn ls st))) : Go tb e below Q (T.setTop (mkF m pc ls (.int x :: st))) := by
  subst hp
  by_cases h : 0 < x
  · exact (h1 h).step fun t k => XS.ifYes W.1 W.2.1 rfl (pc0 := pc) (pc' := pt) rfl (hb W.2.2 hd) rfl (XT.i0_gt_t h) ho ht k
  · exact (h2 h).step fun t k => XS.ifNo W.1 W.2.1 rfl (hb W.2.2 hd) rfl (XT.i0_gt_f h) k
theorem lif_gt (W : Wk tb T m c below bs) {x y : Int64} {o : Int} (hd : decode bs pc = .ok (.ifCond .gt o, 3)) (hp : pc + 3 = pn) (ho : 0 ≤ (pc : Int) + o) (ht : ((pc : Int) + o).toNat = pt) (h1 : y < x → Go tb e below Q (T.setTop (mkF m pt ls st))) (h2 : ¬ (y < x) → Go tb e below Q (T.setTop (mkF m pn ls st))) : Go tb e below Q (T.setTop (mkF m pc ls (.int (XT.cmpL x y) :: st))) := by
  subst hp
  by_cases h : y < x
  · exact (h1 h).step fun t k => XS.ifYes W.1 W.2.1 rfl (pc0 := pc) (pc' := pt) rfl (hb W.2.2 hd) rfl (XT.ll_gt_t h) ho ht k
  · exact (h2 h).step fun t k => XS.ifNo W.1 W.2.1 rfl (hb W.2.2 hd) rfl (XT.ll_gt_f h) k
theorem icmp_le (W : Wk tb T m c below bs) {x y : Int32} {o : Int} (hd : decode bs pc = .ok (.if_icmp .le o, 3)) (hp : pc + 3 = pn) (ho : 0 ≤ (pc : Int) + o) (ht : ((pc : Int) + o).toNat = pt) (h1 : y < x → Go tb e below Q (T.setTop (mkF m pn ls st))) (h2 : ¬ (y < x) → Go tb e below Q (T.setTop (mkF m pt ls st))) : Go tb e below Q (T.setTop (mkF m pc ls (.int y :: .int x :: st))) := by
  subst hp
  by_cases h : y < x
  · exact (h1 h).step fun t k => XS.icmpNo W.1 W.2.1 rfl (hb W.2.2 hd) rfl (XT.ii_le_f h) k
  · exact (h2 h).step fun t k => XS.icmpYes W.1 W.2.1 rfl (pc0 := pc) (pc' := pt) rfl (hb W.2.2 hd) rfl (XT.ii_le_t h) ho ht k
theorem if_le (W : Wk tb T m c below bs) {x : Int32} {o : Int} (hd : decode bs pc = .ok (.ifCond .le o, 3)) (hp : pc + 3 = pn) (ho : 0 ≤ (pc : Int) + o) (ht : ((pc : Int) + o).toNat = pt) (h1 : 0 < x → Go tb e below Q (T.setTop (mkF m pn ls st))) (h2 : ¬ (0 < x) → Go tb e below Q (T.setTop (mkF m pt ls st))) : Go tb e below Q (T.setTop (mkF m pc ls (.int x :: st))) := by
  subst hp
  by_cases h : 0 < x
  · exact (h1 h).step fun t k => XS.ifNo W.1 W.2.1 rfl (hb W.2.2 hd) rfl (XT.i0_le_f h) k
  · exact (h2 h).step fun t k => XS.ifYes W.1 W.2.1 rfl (pc0 := pc) (pc' := pt) rfl (hb W.2.2 hd) rfl (XT.i0_le_t h) ho ht k
theorem lif_le (W : Wk tb T m c below bs) {x y : Int64} {o : Int} (hd : decode bs pc = .ok (.ifCond .le o, 3)) (hp : pc + 3 = pn) (ho : 0 ≤ (pc : Int) + o) (ht : ((pc : Int) + o).toNat = pt) (h1 : y < x → Go tb e below Q (T.setTop (mkF m pn ls st))) (h2 : ¬ (y < x) → Go tb e below Q (T.setTop (mkF m pt ls st))) : Go tb e below Q (T.setTop (mkF m pc ls (.int (XT.cmpL x y) :: st))) := by
  subst hp
  by_cases h : y < x
  · exact (h1 h).step fun t k => XS.ifNo W.1 W.2.1 rfl (hb W.2.2 hd) rfl (XT.ll_le_f h) k
  · exact (h2 h).step fun t k => XS.ifYes W.1 W.2.1 rfl (pc0 := pc) (pc' := pt) rfl (hb W.2.2 hd) rfl (XT.ll_le_t h) ho ht k
theorem ifnullY (W : Wk tb T m c below bs) {o : Int} (hd : decode bs pc = .ok (.ifnull o, 3)) (ho : 0 ≤ (pc : Int) + o) (ht : ((pc : Int) + o).toNat = pt) (hr : Go tb e below Q (T.setTop (mkF m pt ls st))) : Go tb e below Q (T.setTop (mkF m pc ls (.null :: st))) := by
  exact hr.step fun t k => XS.ifnullYes W.1 W.2.1 rfl (pc0 := pc) (pc' := pt) rfl (hb W.2.2 hd) rfl ho ht k
theorem ifnonnullY (W : Wk tb T m c below bs) {b : Addr} {o : Int} (hd : decode bs pc = .ok (.ifnonnull o, 3)) (ho : 0 ≤ (pc : Int) + o) (ht : ((pc : Int) + o).toNat = pt) (hr : Go tb e below Q (T.setTop (mkF m pt ls st))) : Go tb e below Q (T.setTop (mkF m pc ls (.ref b :: st))) := by
  exact hr.step fun t k => XT.ifnonnullYes W.1 W.2.1 rfl (pc0 := pc) (pc' := pt) rfl (hb W.2.2 hd) rfl ho ht k
theorem ifnullN (W : Wk tb T m c below bs) {b : Addr} {o : Int} (hd : decode bs pc = .ok (.ifnull o, 3)) (hp : pc + 3 = pn) (hr : Go tb e below Q (T.setTop (mkF m pn ls st))) : Go tb e below Q (T.setTop (mkF m pc ls (.ref b :: st))) := by
  subst hp; exact hr.step fun t k => XS.ifnullNo W.1 W.2.1 rfl (hb W.2.2 hd) rfl k
theorem ifnonnullN (W : Wk tb T m c below bs) {o : Int} (hd : decode bs pc = .ok (.ifnonnull o, 3)) (hp : pc + 3 = pn) (hr : Go tb e below Q (T.setTop (mkF m pn ls st))) : Go tb e below Q (T.setTop (mkF m pc ls (.null :: st))) := by
  subst hp; exact hr.step fun t k => XT.ifnonnullNo W.1 W.2.1 rfl (hb W.2.2 hd) rfl k
end Plain
section Stands
variable {p : Program} {l : Launch} {e : Env} {R : Room} {s : State} {m : MethodId} {args : Array Value} {below : List Frame} {meth : Method} {c : Code} {T : State} {locs : List Loc} {cells slots : Nat} {Z : State} {a0 : Array Value} {h0 : Heap} {bs : ByteArray} {ls : Array Slot} {st : List Value} {pc pn : Nat} {Q : Outcome → State → Prop}
/-- the end of a body that returned -/
def Qe (s : State) (rm : Room) (QX : Option Value → Heap → List Loc → Prop) (o : Outcome) (U' : State) : Prop := ∃ v L, o = .returned v ∧ QX v U'.heap L ∧ FrameEnd s o U' L rm.cells rm.slots
/-- a body's contract: called with these arguments over this heap it returns as QX says -/
def Con (l : Launch) (y : MethodName) (bs : ByteArray) (maxL : Nat) (ret : Option FieldType) (rm : Room) (Z : State) (as' : Array Value) (h0 : Heap) (QX : Option Value → Heap → List Loc → Prop) : Prop :=
  ∀ ws : List Jvm.Cond, MetFree l y (head1 (Jvm.Cond.code y bs maxL ret :: ws) rm) (fun a U => a = as' ∧ Z.Warmed39 U.vm ∧ U.heap = h0) (fun _ _ _ _ _ => True) (fun _ U o U' => ∃ v L, o = .returned v ∧ QX v U'.heap L ∧ FrameEnd U o U' L rm.cells rm.slots)
theorem Con.intro {y : MethodName} {maxL : Nat} {ret : Option FieldType} {rm : Room} {as' : Array Value} {QX : Option Value → Heap → List Loc → Prop} (hpn : plainName y.cls = true)
    (body : ∀ (p : Program) (e : Env) (s : State) (m : MethodId) (below : List Frame) (meth : Method) (c : Code) (T : State), Stand p l e rm s m as' below meth c T [] 0 0 → p.tables.exec = Jvm.exec → c.code = bs → c.maxLocals = maxL → Z.Warmed39 s.vm → s.vm.findClass y.cls = some m.cls → meth.name = y.name → meth.sig.returnType = ret → meth.locks = false → T.heap = h0 →
      Go p.tables e below (Qe s rm QX) (T.setTop (entryFrame m as' maxL))) : Con l y bs maxL ret rm Z as' h0 QX := by
  intro ws
  refine MetFree.of_bodySF (plainFor_of_name hpn) hisR ?_
  intro p e s m args below meth c s₁ Bd hml0 hP hK
  obtain ⟨rfl, hZ, hh⟩ := hP
  obtain ⟨s2, o, h1, h2, h3, h4⟩ := body p e s m below meth c s₁ (Stand.of_body Bd) Bd.exec Bd.bytes hml0 hZ (findClass_of_methodNamed Bd.named) (name_of_methodNamed Bd.named Bd.method).1 Bd.returns Bd.notSynchronized (by rw [← hh, Bd.state]; rfl)
  exact ⟨s2, o, h1, h2, h3, h4⟩
/-- a body that only reckons: it returns V, writes and makes nothing -/
def PureQ (V : Value) (h0 : Heap) (v : Option Value) (h : Heap) (L : List Loc) : Prop := v = some V ∧ L = [] ∧ h = h0
theorem fin_of {QX : Option Value → Heap → List Loc → Prop} {z r : Int32} {h h' : Heap} {L : List Loc} (hr : z = r) (e : h = h') (hf : QX (some (.int r)) h' L) : QX (some (.int z)) h L := by subst hr e; exact hf
theorem fin_ofL {QX : Option Value → Heap → List Loc → Prop} {z r : Int64} {h h' : Heap} {L : List Loc} (hr : z = r) (e : h = h') (hf : QX (some (.long r)) h' L) : QX (some (.long z)) h L := by subst hr e; exact hf
def rmP (fr lo : Nat) : Room := { frames := fr, cells := 0, slots := 0, locals := lo }
theorem Go.leave {rm : Room} {QX : Option Value → Heap → List Loc → Prop} (X : Stand p l e R s m args below meth c T locs cells slots) {v : Option Value} {g : JFrame} (hv : meth.sig.returnType = none → v = none) (hlk : meth.locks = false) (hq : QX v T.heap locs) (hc : cells ≤ rm.cells) (hs : slots ≤ rm.slots)
    (hst : ∀ fs, (∀ (f : JFrame) (acts : List Action), f.method = m → f.locked = none → f.entered = [] → (doReturn e (T.setTop f) acts v).1 = T.setFrames fs) → Steps p.tables e below (T.setTop g) (T.setFrames fs)) : Go p.tables e below (Qe s rm QX) (T.setTop g) := by
  obtain ⟨fs, hr, hrun, hended, hW, hsame⟩ := X.leave (v := v) hv hlk
  exact ⟨_, _, hst fs hr, hrun, hended, _, _, rfl, hq, ⟨_, rfl⟩, hW, hsame.mono hc hs⟩
theorem ireturn {rm : Room} {QX : Option Value → Heap → List Loc → Prop} (X : Stand p l e R s m args below meth c T locs cells slots) (hx : p.tables.exec = Jvm.exec) (hby : c.code = bs) {w : Int32} {t : FieldType} (hret : meth.sig.returnType = some t) (hlk : meth.locks = false) (hn : narrow t (.int w) = .int w) (hti : t = .int ∨ t = .boolean ∨ t = .byte ∨ t = .char ∨ t = .short)
    (hd : decode bs pc = .ok (.ireturn, 1)) (hq : QX (some (.int w)) T.heap locs) (hc : cells ≤ rm.cells) (hs : slots ≤ rm.slots) : Go p.tables e below (Qe s rm QX) (T.setTop (mkF m pc ls [.int w])) :=
  Go.leave X (fun h => by rw [hret] at h; cases h) hlk hq hc hs fun fs hr => X.ireturnOut hx hret hn hti (hb hby hd) hr
theorem lreturn {rm : Room} {QX : Option Value → Heap → List Loc → Prop} (X : Stand p l e R s m args below meth c T locs cells slots) (hx : p.tables.exec = Jvm.exec) (hby : c.code = bs) {w : Int64} (hret : meth.sig.returnType = some .long) (hlk : meth.locks = false)
    (hd : decode bs pc = .ok (.lreturn, 1)) (hq : QX (some (.long w)) T.heap locs) (hc : cells ≤ rm.cells) (hs : slots ≤ rm.slots) : Go p.tables e below (Qe s rm QX) (T.setTop (mkF m pc ls [.long w])) :=
  Go.leave X (fun h => by rw [hret] at h; cases h) hlk hq hc hs fun fs hr => X.lreturnOut hx hret (hb hby hd) hr
theorem areturn {rm : Room} {QX : Option Value → Heap → List Loc → Prop} (X : Stand p l e R s m args below meth c T locs cells slots) (hx : p.tables.exec = Jvm.exec) (hby : c.code = bs) {w : Value} {t : FieldType} (hret : meth.sig.returnType = some t) (hlk : meth.locks = false) (hw : w.isRef = true) (ht : t.isReference = true)
    (hd : decode bs pc = .ok (.areturn, 1)) (hq : QX (some w) T.heap locs) (hc : cells ≤ rm.cells) (hs : slots ≤ rm.slots) : Go p.tables e below (Qe s rm QX) (T.setTop (mkF m pc ls [w])) :=
  Go.leave X (fun h => by rw [hret] at h; cases h) hlk hq hc hs fun fs hr => X.areturnOut hx hw hret ht (hb hby hd) hr
theorem returnV {rm : Room} {QX : Option Value → Heap → List Loc → Prop} (X : Stand p l e R s m args below meth c T locs cells slots) (hx : p.tables.exec = Jvm.exec) (hby : c.code = bs) (hret : meth.sig.returnType = none) (hlk : meth.locks = false)
    (hd : decode bs pc = .ok (.return_, 1)) (hq : QX none T.heap locs) (hc : cells ≤ rm.cells) (hs : slots ≤ rm.slots) : Go p.tables e below (Qe s rm QX) (T.setTop (mkF m pc ls [])) :=
  Go.leave X (fun _ => rfl) hlk hq hc hs fun fs hr => X.returnOut hx hret (hb hby hd) hr
theorem ldcI (X : Stand p l e R s m args below meth c T locs cells slots) (hx : p.tables.exec = Jvm.exec) (hby : c.code = bs) (hZ : Z.Warmed39 s.vm) {own : String} {index : Nat} {v : Int32} (hown : s.vm.findClass own = some m.cls) (w : (Jvm.Cond.constant own index v).before a0 Z = true) (hd : decode bs pc = .ok (.ldc index, 2)) (hp : pc + 2 = pn)
    (hr : Go p.tables e below Q (T.setTop (mkF m pn ls (.int v :: st)))) : Go p.tables e below Q (T.setTop (mkF m pc ls st)) := by
  subst hp; exact hr.step fun t k => X.ldcI hx hown (mvT hZ w) rfl (hb hby hd) k
theorem ldc2J (X : Stand p l e R s m args below meth c T locs cells slots) (hx : p.tables.exec = Jvm.exec) (hby : c.code = bs) (hZ : Z.Warmed39 s.vm) {own : String} {index : Nat} {v : Int64} (hown : s.vm.findClass own = some m.cls) (w : (Jvm.Cond.constantLong own index v).before a0 Z = true) (hd : decode bs pc = .ok (.ldc2_w index, 3)) (hp : pc + 3 = pn)
    (hr : Go p.tables e below Q (T.setTop (mkF m pn ls (.long v :: st)))) : Go p.tables e below Q (T.setTop (mkF m pc ls st)) := by
  subst hp; exact hr.step fun t k => X.ldc2J hx hown (mvT hZ w) rfl (hb hby hd) k
/-- a static call by its contract -/
theorem callS (X : Stand p l e R s m args below meth c T locs cells slots) (hx : p.tables.exec = Jvm.exec) (hby : c.code = bs) (hZ : Z.Warmed39 s.vm) {own : String} (hown : s.vm.findClass own = some m.cls) {index : Nat} {y : MethodName} {ybs : ByteArray} {yl : Nat} {yret : Option FieldType} {rm : Room} {argsL rest : List Value} {QX : Option Value → Heap → List Loc → Prop}
    (w1 : (Jvm.Cond.methodLink own index y).before a0 Z = true) (w2 : (Jvm.Cond.static y).before a0 Z = true) (w3 : (Jvm.Cond.initialized y.cls).before a0 Z = true) (w4 : (Jvm.Cond.code y ybs yl yret).before a0 Z = true) (hy : y.cls ≠ "java/lang/invoke/MethodHandle" ∧ y.cls ≠ "java/lang/invoke/VarHandle")
    (K : Con l y ybs yl yret rm Z argsL.toArray T.heap QX) (hf : rm.frames + 1 ≤ R.frames) (hl : (rest.map fun v => v.category).sum + (yl + 11) + rm.locals ≤ R.locals) (hcl : cells + rm.cells ≤ R.cells) (hsl : slots + rm.slots ≤ R.slots)
    (hlen : ∀ sig, parseMethodDescriptor y.desc = some sig → argsL.length = sig.parameters.length) (hsize : ls.size = c.maxLocals) (hst : st = argsL.reverse ++ rest) (hd : decode bs pc = .ok (.invokestatic index, 3)) (hp : pc + 3 = pn)
    (hr : ∀ (v : Option Value) (T' : State) (L : List Loc), QX v T'.heap L → Stand p l e R s m args below meth c T' (locs ++ L) (cells + rm.cells) (slots + rm.slots) → Go p.tables e below Q (T'.setTop (mkF m pn ls (v.toList ++ rest)))) : Go p.tables e below Q (T.setTop (mkF m pc ls st)) := by
  subst hp
  obtain ⟨v, _, ⟨T2, L2, k2, n2⟩, -, X2, ⟨Lc2, hQ2, l2, y2, z2⟩, st2⟩ := Jvm.LawKit.callS X hx (y := y) hown (mvT hZ w1) (mvT hZ w2) (mvT hZ w3) (mvT hZ w4) hy (backOf (W := (rest.map fun v => v.category).sum) (K []) hZ w4 w3 hf hl) (g := mkF m pc ls st) rfl hsize (argsL := argsL) (rest := rest) hlen hst (by show 2 * 0 + _ ≤ _; omega) (hb hby hd) (fun _ _ => ⟨rfl, rfl, hcl, hsl⟩)
  dsimp only [Pt.U, Pt.locs, Pt.cells, Pt.slots] at X2 l2 y2 z2 st2 hQ2
  subst l2 y2 z2
  exact (hr v T2 Lc2 hQ2 X2).step fun t k => st2 t k
/-- a static call of a body that only reckons -/
theorem callP (X : Stand p l e R s m args below meth c T locs cells slots) (hx : p.tables.exec = Jvm.exec) (hby : c.code = bs) (hZ : Z.Warmed39 s.vm) {own : String} (hown : s.vm.findClass own = some m.cls) {index : Nat} {y : MethodName} {ybs : ByteArray} {yl fr lo : Nat} {yret : Option FieldType} {argsL rest : List Value} {V : Value}
    (w1 : (Jvm.Cond.methodLink own index y).before a0 Z = true) (w2 : (Jvm.Cond.static y).before a0 Z = true) (w3 : (Jvm.Cond.initialized y.cls).before a0 Z = true) (w4 : (Jvm.Cond.code y ybs yl yret).before a0 Z = true) (hy : y.cls ≠ "java/lang/invoke/MethodHandle" ∧ y.cls ≠ "java/lang/invoke/VarHandle")
    (K : Con l y ybs yl yret (rmP fr lo) Z argsL.toArray T.heap (PureQ V T.heap)) (hf : fr + 1 ≤ R.frames) (hl : (rest.map fun v => v.category).sum + (yl + 11) + lo ≤ R.locals) (hcl : cells ≤ R.cells) (hsl : slots ≤ R.slots)
    (hlen : ∀ sig, parseMethodDescriptor y.desc = some sig → argsL.length = sig.parameters.length) (hsize : ls.size = c.maxLocals) (hst : st = argsL.reverse ++ rest) (hd : decode bs pc = .ok (.invokestatic index, 3)) (hp : pc + 3 = pn)
    (hr : ∀ (T' : State), Stand p l e R s m args below meth c T' locs cells slots → T'.heap = T.heap → Go p.tables e below Q (T'.setTop (mkF m pn ls (V :: rest)))) : Go p.tables e below Q (T.setTop (mkF m pc ls st)) := by
  refine callS X hx hby hZ hown w1 w2 w3 w4 hy K hf hl hcl hsl hlen hsize hst hd hp ?_
  intro v T' L hQ X'
  obtain ⟨rfl, rfl, eh⟩ := hQ
  exact hr T' (by simpa [rmP] using X') eh
end Stands
end Jvm.OwnGo
namespace Jvm.Pilot.@@N@@
open Jvm Jvm.ClassFile Sem Op Lib Jvm.Free Jvm.Stand Jvm.LawKit Jvm.RoadKit Bundle Jvm.Pilot.@@N@@.Jvm.D
def own_f1_40 (v4 : Int64) : Int64 := v4
def own_f1 (q0 : Int64) : Int64 := (if (((q0 + (1028 : Int64)) - (1 : Int64)) / (1028 : Int64)) = (0 : Int64) then (own_f1_40 (q0 - ((((q0 + (1028 : Int64)) - (1 : Int64)) / (1028 : Int64)) * (4 : Int64)))) else (if (((((q0 + (1028 : Int64)) - (1 : Int64)) / (1028 : Int64)) - (1 : Int64)) * (1024 : Int64)) < (q0 - ((((q0 + (1028 : Int64)) - (1 : Int64)) / (1028 : Int64)) * (4 : Int64))) then (own_f1_40 (q0 - ((((q0 + (1028 : Int64)) - (1 : Int64)) / (1028 : Int64)) * (4 : Int64)))) else (-1 : Int64)))
theorem d1_0 : decode prog_116_method_5_code 0 = .ok (.lload_n 0, 1) := by decide +kernel
theorem d1_1 : decode prog_116_method_5_code 1 = .ok (.ldc2_w 19, 3) := by decide +kernel
theorem d1_4 : decode prog_116_method_5_code 4 = .ok (.ladd, 1) := by decide +kernel
theorem d1_5 : decode prog_116_method_5_code 5 = .ok (.lconst 1, 1) := by decide +kernel
theorem d1_6 : decode prog_116_method_5_code 6 = .ok (.lsub, 1) := by decide +kernel
theorem d1_7 : decode prog_116_method_5_code 7 = .ok (.ldc2_w 19, 3) := by decide +kernel
theorem d1_10 : decode prog_116_method_5_code 10 = .ok (.ldiv, 1) := by decide +kernel
theorem d1_11 : decode prog_116_method_5_code 11 = .ok (.lstore_n 2, 1) := by decide +kernel
theorem d1_12 : decode prog_116_method_5_code 12 = .ok (.lload_n 0, 1) := by decide +kernel
theorem d1_13 : decode prog_116_method_5_code 13 = .ok (.lload_n 2, 1) := by decide +kernel
theorem d1_14 : decode prog_116_method_5_code 14 = .ok (.ldc2_w 17, 3) := by decide +kernel
theorem d1_17 : decode prog_116_method_5_code 17 = .ok (.lmul, 1) := by decide +kernel
theorem d1_18 : decode prog_116_method_5_code 18 = .ok (.lsub, 1) := by decide +kernel
theorem d1_19 : decode prog_116_method_5_code 19 = .ok (.lstore 4, 2) := by decide +kernel
theorem d1_21 : decode prog_116_method_5_code 21 = .ok (.lload_n 2, 1) := by decide +kernel
theorem d1_22 : decode prog_116_method_5_code 22 = .ok (.lconst 0, 1) := by decide +kernel
theorem d1_23 : decode prog_116_method_5_code 23 = .ok (.lcmp, 1) := by decide +kernel
theorem d1_24 : decode prog_116_method_5_code 24 = .ok (.ifCond .eq 16, 3) := by decide +kernel
theorem d1_27 : decode prog_116_method_5_code 27 = .ok (.lload 4, 2) := by decide +kernel
theorem d1_29 : decode prog_116_method_5_code 29 = .ok (.lload_n 2, 1) := by decide +kernel
theorem d1_30 : decode prog_116_method_5_code 30 = .ok (.lconst 1, 1) := by decide +kernel
theorem d1_31 : decode prog_116_method_5_code 31 = .ok (.lsub, 1) := by decide +kernel
theorem d1_32 : decode prog_116_method_5_code 32 = .ok (.ldc2_w 11, 3) := by decide +kernel
theorem d1_35 : decode prog_116_method_5_code 35 = .ok (.lmul, 1) := by decide +kernel
theorem d1_36 : decode prog_116_method_5_code 36 = .ok (.lcmp, 1) := by decide +kernel
theorem d1_37 : decode prog_116_method_5_code 37 = .ok (.ifCond .le 8, 3) := by decide +kernel
theorem d1_40 : decode prog_116_method_5_code 40 = .ok (.lload 4, 2) := by decide +kernel
theorem d1_42 : decode prog_116_method_5_code 42 = .ok (.goto 6, 3) := by decide +kernel
theorem d1_45 : decode prog_116_method_5_code 45 = .ok (.ldc2_w 21, 3) := by decide +kernel
theorem d1_48 : decode prog_116_method_5_code 48 = .ok (.lreturn, 1) := by decide +kernel
theorem pn_0 : plainName "com/example/quire/quire/store/internal/Pages" = true := by first | (simp [plainName, overriddenIn]; done) | decide +kernel
theorem ef_1 (m : MethodId) (q0 : Int64) : entryFrame m #[(.long q0)] 6 = mkF m 0 #[.val (.long q0), .second, .unset, .unset, .unset, .unset] [] := by first | (simp [entryFrame, mkF, argsToLocals, Value.category]; done) | rfl
set_option maxRecDepth 65536 in
set_option maxHeartbeats 40000000 in
theorem rm_own_f1 (l : Launch) (Z : State) (a0 : Array Value) (hw : ∀ d ∈ tables_1, d.before a0 Z = true) (q0 : Int64) (h0 : Heap) :
    OwnGo.Con l (⟨"com/example/quire/quire/store/internal/Pages", "valuesLength", "(J)J"⟩ : MethodName) prog_116_method_5_code 6 (some .long) (OwnGo.rmP 0 0) Z #[(.long q0)] h0 (OwnGo.PureQ (.long (own_f1 q0)) h0) := by
  refine OwnGo.Con.intro pn_0 ?_
  intro p e s m below meth c T0 X0 hx hby hml hZ hown hnm hret hlk e0
  refine OwnGo.Go.cast (ef_1 m q0) ?_
  obtain ⟨r, hr⟩ : ∃ r, own_f1 q0 = r := ⟨_, rfl⟩
  rw [hr]
  have hfin : OwnGo.PureQ (.long r) h0 (some (.long r)) h0 [] := ⟨rfl, rfl, rfl⟩
  have B40 : ∀ (T0 : State) (X0 : Stand p l e (OwnGo.rmP 0 0) s m #[(.long q0)] below meth c T0 [] 0 0) (e0 : T0.heap = h0) (v2 : Int64) (v4 : Int64), own_f1_40 v4 = r → OwnGo.Go p.tables e below (OwnGo.Qe s (OwnGo.rmP 0 0) (OwnGo.PureQ (.long r) h0)) (T0.setTop (mkF m 40 #[.val (.long q0), .second, .val (.long v2), .second, .val (.long v4), .second] [])) := by
    intro T0 X0 e0 v2 v4 hr
    unfold own_f1_40 at hr
    have W0 : OwnGo.Wk p.tables T0 m c below prog_116_method_5_code := ⟨X0.here, hx, hby⟩
    refine OwnGo.lload W0 (pn := 42) d1_40 rfl rfl ?_
    refine OwnGo.goto W0 (pt := 48) d1_42 (by decide) (by decide) ?_
    exact OwnGo.lreturn X0 hx hby hret hlk d1_48 (OwnGo.fin_ofL hr e0 hfin) (by decide) (by decide)
  unfold own_f1 at hr
  have W0 : OwnGo.Wk p.tables T0 m c below prog_116_method_5_code := ⟨X0.here, hx, hby⟩
  refine OwnGo.lloadN W0 (pn := 1) d1_0 rfl rfl ?_
  refine OwnGo.ldc2J X0 hx hby hZ hown (pn := 4) (hw _ (List.mem_of_getElem? (i := 8) rfl)) d1_1 rfl ?_
  refine OwnGo.ladd W0 (pn := 5) d1_4 rfl ?_
  refine OwnGo.lconst (v := (1 : Int64)) W0 (pn := 6) d1_5 rfl rfl ?_
  refine OwnGo.lsub W0 (pn := 7) d1_6 rfl ?_
  refine OwnGo.ldc2J X0 hx hby hZ hown (pn := 10) (hw _ (List.mem_of_getElem? (i := 8) rfl)) d1_7 rfl ?_
  refine OwnGo.ldiv W0 (pn := 11) d1_10 rfl (by decide) ?_
  refine OwnGo.lstoreN W0 (pn := 12) (l' := #[.val (.long q0), .second, .val (.long (((q0 + (1028 : Int64)) - (1 : Int64)) / (1028 : Int64))), .second, .unset, .unset]) d1_11 rfl rfl ?_
  refine OwnGo.lloadN W0 (pn := 13) d1_12 rfl rfl ?_
  refine OwnGo.lloadN W0 (pn := 14) d1_13 rfl rfl ?_
  refine OwnGo.ldc2J X0 hx hby hZ hown (pn := 17) (hw _ (List.mem_of_getElem? (i := 9) rfl)) d1_14 rfl ?_
  refine OwnGo.lmul W0 (pn := 18) d1_17 rfl ?_
  refine OwnGo.lsub W0 (pn := 19) d1_18 rfl ?_
  refine OwnGo.lstore W0 (pn := 21) (l' := #[.val (.long q0), .second, .val (.long (((q0 + (1028 : Int64)) - (1 : Int64)) / (1028 : Int64))), .second, .val (.long (q0 - ((((q0 + (1028 : Int64)) - (1 : Int64)) / (1028 : Int64)) * (4 : Int64)))), .second]) d1_19 rfl rfl ?_
  refine OwnGo.lloadN W0 (pn := 22) d1_21 rfl rfl ?_
  refine OwnGo.lconst (v := (0 : Int64)) W0 (pn := 23) d1_22 rfl rfl ?_
  refine OwnGo.lcmp W0 (pn := 24) d1_23 rfl ?_
  refine OwnGo.lif_eq W0 (pn := 27) (pt := 40) d1_24 rfl (by decide) (by decide) (fun h24 => ?_) (fun h24 => ?_)
  · rw [if_pos h24] at hr
    exact B40 _ X0 e0 ((((q0 + (1028 : Int64)) - (1 : Int64)) / (1028 : Int64))) ((q0 - ((((q0 + (1028 : Int64)) - (1 : Int64)) / (1028 : Int64)) * (4 : Int64)))) hr
  · rw [if_neg h24] at hr
    refine OwnGo.lload W0 (pn := 29) d1_27 rfl rfl ?_
    refine OwnGo.lloadN W0 (pn := 30) d1_29 rfl rfl ?_
    refine OwnGo.lconst (v := (1 : Int64)) W0 (pn := 31) d1_30 rfl rfl ?_
    refine OwnGo.lsub W0 (pn := 32) d1_31 rfl ?_
    refine OwnGo.ldc2J X0 hx hby hZ hown (pn := 35) (hw _ (List.mem_of_getElem? (i := 10) rfl)) d1_32 rfl ?_
    refine OwnGo.lmul W0 (pn := 36) d1_35 rfl ?_
    refine OwnGo.lcmp W0 (pn := 37) d1_36 rfl ?_
    refine OwnGo.lif_le W0 (pn := 40) (pt := 45) d1_37 rfl (by decide) (by decide) (fun h37 => ?_) (fun h37 => ?_)
    · rw [if_pos h37] at hr
      exact B40 _ X0 e0 ((((q0 + (1028 : Int64)) - (1 : Int64)) / (1028 : Int64))) ((q0 - ((((q0 + (1028 : Int64)) - (1 : Int64)) / (1028 : Int64)) * (4 : Int64)))) hr
    · rw [if_neg h37] at hr
      refine OwnGo.ldc2J X0 hx hby hZ hown (pn := 48) (hw _ (List.mem_of_getElem? (i := 11) rfl)) d1_45 rfl ?_
      exact OwnGo.lreturn X0 hx hby hret hlk d1_48 (OwnGo.fin_ofL hr e0 hfin) (by decide) (by decide)
def own_f2 (q0 : Int64) : Int64 := (q0 + (((q0 + (1023 : Int64)) / (1024 : Int64)) * (4 : Int64)))
theorem d2_0 : decode method_2_code 0 = .ok (.lload_n 0, 1) := by decide +kernel
theorem d2_1 : decode method_2_code 1 = .ok (.lload_n 0, 1) := by decide +kernel
theorem d2_2 : decode method_2_code 2 = .ok (.ldc2_w 7, 3) := by decide +kernel
theorem d2_5 : decode method_2_code 5 = .ok (.ladd, 1) := by decide +kernel
theorem d2_6 : decode method_2_code 6 = .ok (.ldc2_w 9, 3) := by decide +kernel
theorem d2_9 : decode method_2_code 9 = .ok (.ldiv, 1) := by decide +kernel
theorem d2_10 : decode method_2_code 10 = .ok (.ldc2_w 11, 3) := by decide +kernel
theorem d2_13 : decode method_2_code 13 = .ok (.lmul, 1) := by decide +kernel
theorem d2_14 : decode method_2_code 14 = .ok (.ladd, 1) := by decide +kernel
theorem d2_15 : decode method_2_code 15 = .ok (.lreturn, 1) := by decide +kernel
theorem pn_1 : plainName "com/example/quire/quire/store/internal/PagesValuesLengthPinLaw" = true := by first | (simp [plainName, overriddenIn]; done) | decide +kernel
theorem ef_2 (m : MethodId) (q0 : Int64) : entryFrame m #[(.long q0)] 2 = mkF m 0 #[.val (.long q0), .second] [] := by first | (simp [entryFrame, mkF, argsToLocals, Value.category]; done) | rfl
set_option maxRecDepth 65536 in
set_option maxHeartbeats 40000000 in
theorem rm_own_f2 (l : Launch) (Z : State) (a0 : Array Value) (hw : ∀ d ∈ tables_1, d.before a0 Z = true) (q0 : Int64) (h0 : Heap) :
    OwnGo.Con l (⟨"com/example/quire/quire/store/internal/PagesValuesLengthPinLaw", "body", "(J)J"⟩ : MethodName) method_2_code 2 (some .long) (OwnGo.rmP 0 0) Z #[(.long q0)] h0 (OwnGo.PureQ (.long (own_f2 q0)) h0) := by
  refine OwnGo.Con.intro pn_1 ?_
  intro p e s m below meth c T0 X0 hx hby hml hZ hown hnm hret hlk e0
  refine OwnGo.Go.cast (ef_2 m q0) ?_
  obtain ⟨r, hr⟩ : ∃ r, own_f2 q0 = r := ⟨_, rfl⟩
  rw [hr]
  have hfin : OwnGo.PureQ (.long r) h0 (some (.long r)) h0 [] := ⟨rfl, rfl, rfl⟩
  unfold own_f2 at hr
  have W0 : OwnGo.Wk p.tables T0 m c below method_2_code := ⟨X0.here, hx, hby⟩
  refine OwnGo.lloadN W0 (pn := 1) d2_0 rfl rfl ?_
  refine OwnGo.lloadN W0 (pn := 2) d2_1 rfl rfl ?_
  refine OwnGo.ldc2J X0 hx hby hZ hown (pn := 5) (hw _ (List.mem_of_getElem? (i := 16) rfl)) d2_2 rfl ?_
  refine OwnGo.ladd W0 (pn := 6) d2_5 rfl ?_
  refine OwnGo.ldc2J X0 hx hby hZ hown (pn := 9) (hw _ (List.mem_of_getElem? (i := 17) rfl)) d2_6 rfl ?_
  refine OwnGo.ldiv W0 (pn := 10) d2_9 rfl (by decide) ?_
  refine OwnGo.ldc2J X0 hx hby hZ hown (pn := 13) (hw _ (List.mem_of_getElem? (i := 2) rfl)) d2_10 rfl ?_
  refine OwnGo.lmul W0 (pn := 14) d2_13 rfl ?_
  refine OwnGo.ladd W0 (pn := 15) d2_14 rfl ?_
  exact OwnGo.lreturn X0 hx hby hret hlk d2_15 (OwnGo.fin_ofL hr e0 hfin) (by decide) (by decide)
def own_f0_176 : Int32 := (0 : Int32)
def own_f0_160 (v18 : Int32) (s0 : Int32) : Int32 := (if v18 = (0 : Int32) then (own_f0_176) else (if s0 = (0 : Int32) then (own_f0_176) else (1 : Int32)))
def own_f0_139 (v10 : Int64) (s0 : Int32) : Int32 := (if (own_f1 (own_f2 v10)) = v10 then (own_f0_160 s0 (1 : Int32)) else (own_f0_160 s0 (0 : Int32)))
def own_f0_123 (v8 : Int64) (v10 : Int64) (v16 : Int64) : Int32 := (if (own_f1 v8) = v16 then (own_f0_139 v10 (1 : Int32)) else (own_f0_139 v10 (0 : Int32)))
def own_f0_57 (v8 : Int64) (v10 : Int64) : Int32 := (if (v8 - (v8 / (1028 : Int64)) * (1028 : Int64)) = (0 : Int64) then (own_f0_123 v8 v10 ((v8 / (1028 : Int64)) * (1024 : Int64))) else (if (4 : Int64) < (v8 - (v8 / (1028 : Int64)) * (1028 : Int64)) then (own_f0_123 v8 v10 ((((v8 / (1028 : Int64)) * (1024 : Int64)) + (v8 - (v8 / (1028 : Int64)) * (1028 : Int64))) - (4 : Int64))) else (own_f0_123 v8 v10 (-1 : Int64))))
def own_f0_55 (v8 : Int64) (s0 : Int64) : Int32 := (own_f0_57 v8 s0)
def own_f0_38 (q1 : Int64) (v5 : Int64) (v7 : Int32) (v8 : Int64) : Int32 := (if v7 = (0 : Int32) then (own_f0_55 v8 (q1 &&& v5)) else (own_f0_55 v8 (q1 &&& (4095 : Int64))))
def own_f0_36 (q1 : Int64) (v5 : Int64) (v7 : Int32) (s0 : Int64) : Int32 := (own_f0_38 q1 v5 v7 s0)
def own_f0_17 (q0 : Int64) (q1 : Int64) (v5 : Int64) (s0 : Int32) : Int32 := (if s0 = (0 : Int32) then (own_f0_36 q1 v5 s0 (q0 &&& v5)) else (own_f0_36 q1 v5 s0 (q0 &&& (4095 : Int64))))
def own_f0 (q0 : Int64) (q1 : Int64) (p2 : Int32) : Int32 := (if (p2 &&& (1 : Int32)) = (0 : Int32) then (own_f0_17 q0 q1 (4611686018427387903 : Int64) (0 : Int32)) else (own_f0_17 q0 q1 (4611686018427387903 : Int64) (1 : Int32)))
theorem pd_0 : parseMethodDescriptor "(J)J" = some ⟨[.long], some .long⟩ := by decide +kernel
theorem ef_0 (m : MethodId) (q0 : Int64) (q1 : Int64) (p2 : Int32) : entryFrame m #[(.long q0), (.long q1), (.int p2)] maxLocals = mkF m 0 #[.val (.long q0), .second, .val (.long q1), .second, .val (.int p2), .unset, .unset, .unset, .unset, .unset, .unset, .unset, .unset, .unset, .unset, .unset, .unset, .unset, .unset, .unset] [] := by first | (simp [entryFrame, mkF, argsToLocals, Value.category, maxLocals]; done) | rfl
set_option maxRecDepth 65536 in
set_option maxHeartbeats 40000000 in
theorem rm_own_f0 (l : Launch) (Z : State) (a0 : Array Value) (hw : ∀ d ∈ tables_1, d.before a0 Z = true) (q0 : Int64) (q1 : Int64) (p2 : Int32) (h0 : Heap) :
    OwnGo.Con l x code maxLocals ret room_1 Z #[(.long q0), (.long q1), (.int p2)] h0 (OwnGo.PureQ (.int (own_f0 q0 q1 p2)) h0) := by
  refine OwnGo.Con.intro pn_1 ?_
  intro p e s m below meth c T0 X0 hx hby hml hZ hown hnm hret hlk e0
  refine OwnGo.Go.cast (ef_0 m q0 q1 p2) ?_
  obtain ⟨r, hr⟩ : ∃ r, own_f0 q0 q1 p2 = r := ⟨_, rfl⟩
  rw [hr]
  have hfin : OwnGo.PureQ (.int r) h0 (some (.int r)) h0 [] := ⟨rfl, rfl, rfl⟩
  have B176 : ∀ (T0 : State) (X0 : Stand p l e room_1 s m #[(.long q0), (.long q1), (.int p2)] below meth c T0 [] 0 0) (e0 : T0.heap = h0) (v5 : Int64) (v7 : Int32) (v8 : Int64) (v10 : Int64) (v12 : Int64) (v14 : Int64) (v16 : Int64) (v18 : Int32) (v19 : Int32), own_f0_176 = r → OwnGo.Go p.tables e below (OwnGo.Qe s room_1 (OwnGo.PureQ (.int r) h0)) (T0.setTop (mkF m 176 #[.val (.long q0), .second, .val (.long q1), .second, .val (.int p2), .val (.long v5), .second, .val (.int v7), .val (.long v8), .second, .val (.long v10), .second, .val (.long v12), .second, .val (.long v14), .second, .val (.long v16), .second, .val (.int v18), .val (.int v19)] [])) := by
    intro T0 X0 e0 v5 v7 v8 v10 v12 v14 v16 v18 v19 hr
    unfold own_f0_176 at hr
    have W0 : OwnGo.Wk p.tables T0 m c below code := ⟨X0.here, hx, hby⟩
    refine OwnGo.iconst (v := (0 : Int32)) W0 (pn := 177) at_176 rfl rfl ?_
    exact OwnGo.ireturn X0 hx hby hret hlk rfl (by simp) at_177 (OwnGo.fin_of hr e0 hfin) (by decide) (by decide)
  have B160 : ∀ (T0 : State) (X0 : Stand p l e room_1 s m #[(.long q0), (.long q1), (.int p2)] below meth c T0 [] 0 0) (e0 : T0.heap = h0) (v5 : Int64) (v7 : Int32) (v8 : Int64) (v10 : Int64) (v12 : Int64) (v14 : Int64) (v16 : Int64) (v18 : Int32) (s0 : Int32), own_f0_160 v18 s0 = r → OwnGo.Go p.tables e below (OwnGo.Qe s room_1 (OwnGo.PureQ (.int r) h0)) (T0.setTop (mkF m 160 #[.val (.long q0), .second, .val (.long q1), .second, .val (.int p2), .val (.long v5), .second, .val (.int v7), .val (.long v8), .second, .val (.long v10), .second, .val (.long v12), .second, .val (.long v14), .second, .val (.long v16), .second, .val (.int v18), .unset] [(.int s0)])) := by
    intro T0 X0 e0 v5 v7 v8 v10 v12 v14 v16 v18 s0 hr
    unfold own_f0_160 at hr
    have W0 : OwnGo.Wk p.tables T0 m c below code := ⟨X0.here, hx, hby⟩
    refine OwnGo.istore W0 (pn := 162) (l' := #[.val (.long q0), .second, .val (.long q1), .second, .val (.int p2), .val (.long v5), .second, .val (.int v7), .val (.long v8), .second, .val (.long v10), .second, .val (.long v12), .second, .val (.long v14), .second, .val (.long v16), .second, .val (.int v18), .val (.int s0)]) at_160 rfl rfl ?_
    refine OwnGo.iload W0 (pn := 164) at_162 rfl rfl ?_
    refine OwnGo.if_eq W0 (pn := 167) (pt := 176) at_164 rfl (by decide) (by decide) (fun h164 => ?_) (fun h164 => ?_)
    · rw [if_pos h164] at hr
      exact B176 _ X0 e0 (v5) (v7) (v8) (v10) (v12) (v14) (v16) (v18) (s0) hr
    · rw [if_neg h164] at hr
      refine OwnGo.iload W0 (pn := 169) at_167 rfl rfl ?_
      refine OwnGo.if_eq W0 (pn := 172) (pt := 176) at_169 rfl (by decide) (by decide) (fun h169 => ?_) (fun h169 => ?_)
      · rw [if_pos h169] at hr
        exact B176 _ X0 e0 (v5) (v7) (v8) (v10) (v12) (v14) (v16) (v18) (s0) hr
      · rw [if_neg h169] at hr
        refine OwnGo.iconst (v := (1 : Int32)) W0 (pn := 173) at_172 rfl rfl ?_
        refine OwnGo.goto W0 (pt := 177) at_173 (by decide) (by decide) ?_
        exact OwnGo.ireturn X0 hx hby hret hlk rfl (by simp) at_177 (OwnGo.fin_of hr e0 hfin) (by decide) (by decide)
  have B139 : ∀ (T0 : State) (X0 : Stand p l e room_1 s m #[(.long q0), (.long q1), (.int p2)] below meth c T0 [] 0 0) (e0 : T0.heap = h0) (v5 : Int64) (v7 : Int32) (v8 : Int64) (v10 : Int64) (v12 : Int64) (v14 : Int64) (v16 : Int64) (s0 : Int32), own_f0_139 v10 s0 = r → OwnGo.Go p.tables e below (OwnGo.Qe s room_1 (OwnGo.PureQ (.int r) h0)) (T0.setTop (mkF m 139 #[.val (.long q0), .second, .val (.long q1), .second, .val (.int p2), .val (.long v5), .second, .val (.int v7), .val (.long v8), .second, .val (.long v10), .second, .val (.long v12), .second, .val (.long v14), .second, .val (.long v16), .second, .unset, .unset] [(.int s0)])) := by
    intro T0 X0 e0 v5 v7 v8 v10 v12 v14 v16 s0 hr
    unfold own_f0_139 at hr
    have W0 : OwnGo.Wk p.tables T0 m c below code := ⟨X0.here, hx, hby⟩
    refine OwnGo.istore W0 (pn := 141) (l' := #[.val (.long q0), .second, .val (.long q1), .second, .val (.int p2), .val (.long v5), .second, .val (.int v7), .val (.long v8), .second, .val (.long v10), .second, .val (.long v12), .second, .val (.long v14), .second, .val (.long v16), .second, .val (.int s0), .unset]) at_139 rfl rfl ?_
    refine OwnGo.lload W0 (pn := 143) at_141 rfl rfl ?_
    refine OwnGo.callP X0 hx hby hZ hown (argsL := [(.long v10)]) (rest := []) (pn := 146) (hw _ (List.mem_of_getElem? (i := 12) rfl)) (hw _ (List.mem_of_getElem? (i := 13) rfl)) (hw _ (List.mem_of_getElem? (i := 14) rfl)) (hw _ (List.mem_of_getElem? (i := 15) rfl)) (by decide) (rm_own_f2 l Z a0 hw v10 _) (by decide) (by decide) (by decide) (by decide) (lenOf pd_0 rfl) (by rw [hml]; rfl) rfl at_143 rfl (fun T1 X1 f1 => ?_)
    have e1 := f1.trans e0
    have W1 : OwnGo.Wk p.tables T1 m c below code := ⟨X1.here, hx, hby⟩
    refine OwnGo.callP X1 hx hby hZ hown (argsL := [(.long (own_f2 v10))]) (rest := []) (pn := 149) (hw _ (List.mem_of_getElem? (i := 4) rfl)) (hw _ (List.mem_of_getElem? (i := 5) rfl)) (hw _ (List.mem_of_getElem? (i := 6) rfl)) (hw _ (List.mem_of_getElem? (i := 7) rfl)) (by decide) (rm_own_f1 l Z a0 hw (own_f2 v10) _) (by decide) (by decide) (by decide) (by decide) (lenOf pd_0 rfl) (by rw [hml]; rfl) rfl at_146 rfl (fun T2 X2 f2 => ?_)
    have e2 := f2.trans e1
    have W2 : OwnGo.Wk p.tables T2 m c below code := ⟨X2.here, hx, hby⟩
    refine OwnGo.lload W2 (pn := 151) at_149 rfl rfl ?_
    refine OwnGo.lcmp W2 (pn := 152) at_151 rfl ?_
    refine OwnGo.lif_ne W2 (pn := 155) (pt := 159) at_152 rfl (by decide) (by decide) (fun h152 => ?_) (fun h152 => ?_)
    · rw [if_pos h152] at hr
      refine OwnGo.iconst (v := (1 : Int32)) W2 (pn := 156) at_155 rfl rfl ?_
      refine OwnGo.goto W2 (pt := 160) at_156 (by decide) (by decide) ?_
      exact B160 _ X2 e2 (v5) (v7) (v8) (v10) (v12) (v14) (v16) (s0) ((1 : Int32)) hr
    · rw [if_neg h152] at hr
      refine OwnGo.iconst (v := (0 : Int32)) W2 (pn := 160) at_159 rfl rfl ?_
      exact B160 _ X2 e2 (v5) (v7) (v8) (v10) (v12) (v14) (v16) (s0) ((0 : Int32)) hr
  have B123 : ∀ (T0 : State) (X0 : Stand p l e room_1 s m #[(.long q0), (.long q1), (.int p2)] below meth c T0 [] 0 0) (e0 : T0.heap = h0) (v5 : Int64) (v7 : Int32) (v8 : Int64) (v10 : Int64) (v12 : Int64) (v14 : Int64) (v16 : Int64), own_f0_123 v8 v10 v16 = r → OwnGo.Go p.tables e below (OwnGo.Qe s room_1 (OwnGo.PureQ (.int r) h0)) (T0.setTop (mkF m 123 #[.val (.long q0), .second, .val (.long q1), .second, .val (.int p2), .val (.long v5), .second, .val (.int v7), .val (.long v8), .second, .val (.long v10), .second, .val (.long v12), .second, .val (.long v14), .second, .val (.long v16), .second, .unset, .unset] [])) := by
    intro T0 X0 e0 v5 v7 v8 v10 v12 v14 v16 hr
    unfold own_f0_123 at hr
    have W0 : OwnGo.Wk p.tables T0 m c below code := ⟨X0.here, hx, hby⟩
    refine OwnGo.lload W0 (pn := 125) at_123 rfl rfl ?_
    refine OwnGo.callP X0 hx hby hZ hown (argsL := [(.long v8)]) (rest := []) (pn := 128) (hw _ (List.mem_of_getElem? (i := 4) rfl)) (hw _ (List.mem_of_getElem? (i := 5) rfl)) (hw _ (List.mem_of_getElem? (i := 6) rfl)) (hw _ (List.mem_of_getElem? (i := 7) rfl)) (by decide) (rm_own_f1 l Z a0 hw v8 _) (by decide) (by decide) (by decide) (by decide) (lenOf pd_0 rfl) (by rw [hml]; rfl) rfl at_125 rfl (fun T1 X1 f1 => ?_)
    have e1 := f1.trans e0
    have W1 : OwnGo.Wk p.tables T1 m c below code := ⟨X1.here, hx, hby⟩
    refine OwnGo.lload W1 (pn := 130) at_128 rfl rfl ?_
    refine OwnGo.lcmp W1 (pn := 131) at_130 rfl ?_
    refine OwnGo.lif_ne W1 (pn := 134) (pt := 138) at_131 rfl (by decide) (by decide) (fun h131 => ?_) (fun h131 => ?_)
    · rw [if_pos h131] at hr
      refine OwnGo.iconst (v := (1 : Int32)) W1 (pn := 135) at_134 rfl rfl ?_
      refine OwnGo.goto W1 (pt := 139) at_135 (by decide) (by decide) ?_
      exact B139 _ X1 e1 (v5) (v7) (v8) (v10) (v12) (v14) (v16) ((1 : Int32)) hr
    · rw [if_neg h131] at hr
      refine OwnGo.iconst (v := (0 : Int32)) W1 (pn := 139) at_138 rfl rfl ?_
      exact B139 _ X1 e1 (v5) (v7) (v8) (v10) (v12) (v14) (v16) ((0 : Int32)) hr
  have B57 : ∀ (T0 : State) (X0 : Stand p l e room_1 s m #[(.long q0), (.long q1), (.int p2)] below meth c T0 [] 0 0) (e0 : T0.heap = h0) (v5 : Int64) (v7 : Int32) (v8 : Int64) (v10 : Int64), own_f0_57 v8 v10 = r → OwnGo.Go p.tables e below (OwnGo.Qe s room_1 (OwnGo.PureQ (.int r) h0)) (T0.setTop (mkF m 57 #[.val (.long q0), .second, .val (.long q1), .second, .val (.int p2), .val (.long v5), .second, .val (.int v7), .val (.long v8), .second, .val (.long v10), .second, .unset, .unset, .unset, .unset, .unset, .unset, .unset, .unset] [])) := by
    intro T0 X0 e0 v5 v7 v8 v10 hr
    unfold own_f0_57 at hr
    have W0 : OwnGo.Wk p.tables T0 m c below code := ⟨X0.here, hx, hby⟩
    refine OwnGo.lload W0 (pn := 59) at_57 rfl rfl ?_
    refine OwnGo.ldc2J X0 hx hby hZ hown (pn := 62) (hw _ (List.mem_of_getElem? (i := 1) rfl)) at_59 rfl ?_
    refine OwnGo.ldiv W0 (pn := 63) at_62 rfl (by decide) ?_
    refine OwnGo.lstore W0 (pn := 65) (l' := #[.val (.long q0), .second, .val (.long q1), .second, .val (.int p2), .val (.long v5), .second, .val (.int v7), .val (.long v8), .second, .val (.long v10), .second, .val (.long (v8 / (1028 : Int64))), .second, .unset, .unset, .unset, .unset, .unset, .unset]) at_63 rfl rfl ?_
    refine OwnGo.lload W0 (pn := 67) at_65 rfl rfl ?_
    refine OwnGo.ldc2J X0 hx hby hZ hown (pn := 70) (hw _ (List.mem_of_getElem? (i := 1) rfl)) at_67 rfl ?_
    refine OwnGo.lrem W0 (pn := 71) at_70 rfl (by decide) ?_
    refine OwnGo.lstore W0 (pn := 73) (l' := #[.val (.long q0), .second, .val (.long q1), .second, .val (.int p2), .val (.long v5), .second, .val (.int v7), .val (.long v8), .second, .val (.long v10), .second, .val (.long (v8 / (1028 : Int64))), .second, .val (.long (v8 - (v8 / (1028 : Int64)) * (1028 : Int64))), .second, .unset, .unset, .unset, .unset]) at_71 rfl rfl ?_
    refine OwnGo.lload W0 (pn := 75) at_73 rfl rfl ?_
    refine OwnGo.lconst (v := (0 : Int64)) W0 (pn := 76) at_75 rfl rfl ?_
    refine OwnGo.lcmp W0 (pn := 77) at_76 rfl ?_
    refine OwnGo.lif_ne W0 (pn := 80) (pt := 91) at_77 rfl (by decide) (by decide) (fun h77 => ?_) (fun h77 => ?_)
    · rw [if_pos h77] at hr
      refine OwnGo.lload W0 (pn := 82) at_80 rfl rfl ?_
      refine OwnGo.ldc2J X0 hx hby hZ hown (pn := 85) (hw _ (List.mem_of_getElem? (i := 17) rfl)) at_82 rfl ?_
      refine OwnGo.lmul W0 (pn := 86) at_85 rfl ?_
      refine OwnGo.lstore W0 (pn := 88) (l' := #[.val (.long q0), .second, .val (.long q1), .second, .val (.int p2), .val (.long v5), .second, .val (.int v7), .val (.long v8), .second, .val (.long v10), .second, .val (.long (v8 / (1028 : Int64))), .second, .val (.long (v8 - (v8 / (1028 : Int64)) * (1028 : Int64))), .second, .val (.long ((v8 / (1028 : Int64)) * (1024 : Int64))), .second, .unset, .unset]) at_86 rfl rfl ?_
      refine OwnGo.goto W0 (pt := 123) at_88 (by decide) (by decide) ?_
      exact B123 _ X0 e0 (v5) (v7) (v8) (v10) ((v8 / (1028 : Int64))) ((v8 - (v8 / (1028 : Int64)) * (1028 : Int64))) (((v8 / (1028 : Int64)) * (1024 : Int64))) hr
    · rw [if_neg h77] at hr
      refine OwnGo.lload W0 (pn := 93) at_91 rfl rfl ?_
      refine OwnGo.ldc2J X0 hx hby hZ hown (pn := 96) (hw _ (List.mem_of_getElem? (i := 2) rfl)) at_93 rfl ?_
      refine OwnGo.lcmp W0 (pn := 97) at_96 rfl ?_
      refine OwnGo.lif_gt W0 (pn := 100) (pt := 108) at_97 rfl (by decide) (by decide) (fun h97 => ?_) (fun h97 => ?_)
      · rw [if_pos h97] at hr
        refine OwnGo.lload W0 (pn := 110) at_108 rfl rfl ?_
        refine OwnGo.ldc2J X0 hx hby hZ hown (pn := 113) (hw _ (List.mem_of_getElem? (i := 17) rfl)) at_110 rfl ?_
        refine OwnGo.lmul W0 (pn := 114) at_113 rfl ?_
        refine OwnGo.lload W0 (pn := 116) at_114 rfl rfl ?_
        refine OwnGo.ladd W0 (pn := 117) at_116 rfl ?_
        refine OwnGo.ldc2J X0 hx hby hZ hown (pn := 120) (hw _ (List.mem_of_getElem? (i := 2) rfl)) at_117 rfl ?_
        refine OwnGo.lsub W0 (pn := 121) at_120 rfl ?_
        refine OwnGo.lstore W0 (pn := 123) (l' := #[.val (.long q0), .second, .val (.long q1), .second, .val (.int p2), .val (.long v5), .second, .val (.int v7), .val (.long v8), .second, .val (.long v10), .second, .val (.long (v8 / (1028 : Int64))), .second, .val (.long (v8 - (v8 / (1028 : Int64)) * (1028 : Int64))), .second, .val (.long ((((v8 / (1028 : Int64)) * (1024 : Int64)) + (v8 - (v8 / (1028 : Int64)) * (1028 : Int64))) - (4 : Int64))), .second, .unset, .unset]) at_121 rfl rfl ?_
        exact B123 _ X0 e0 (v5) (v7) (v8) (v10) ((v8 / (1028 : Int64))) ((v8 - (v8 / (1028 : Int64)) * (1028 : Int64))) (((((v8 / (1028 : Int64)) * (1024 : Int64)) + (v8 - (v8 / (1028 : Int64)) * (1028 : Int64))) - (4 : Int64))) hr
      · rw [if_neg h97] at hr
        refine OwnGo.ldc2J X0 hx hby hZ hown (pn := 103) (hw _ (List.mem_of_getElem? (i := 3) rfl)) at_100 rfl ?_
        refine OwnGo.lstore W0 (pn := 105) (l' := #[.val (.long q0), .second, .val (.long q1), .second, .val (.int p2), .val (.long v5), .second, .val (.int v7), .val (.long v8), .second, .val (.long v10), .second, .val (.long (v8 / (1028 : Int64))), .second, .val (.long (v8 - (v8 / (1028 : Int64)) * (1028 : Int64))), .second, .val (.long (-1 : Int64)), .second, .unset, .unset]) at_103 rfl rfl ?_
        refine OwnGo.goto W0 (pt := 123) at_105 (by decide) (by decide) ?_
        exact B123 _ X0 e0 (v5) (v7) (v8) (v10) ((v8 / (1028 : Int64))) ((v8 - (v8 / (1028 : Int64)) * (1028 : Int64))) ((-1 : Int64)) hr
  have B55 : ∀ (T0 : State) (X0 : Stand p l e room_1 s m #[(.long q0), (.long q1), (.int p2)] below meth c T0 [] 0 0) (e0 : T0.heap = h0) (v5 : Int64) (v7 : Int32) (v8 : Int64) (s0 : Int64), own_f0_55 v8 s0 = r → OwnGo.Go p.tables e below (OwnGo.Qe s room_1 (OwnGo.PureQ (.int r) h0)) (T0.setTop (mkF m 55 #[.val (.long q0), .second, .val (.long q1), .second, .val (.int p2), .val (.long v5), .second, .val (.int v7), .val (.long v8), .second, .unset, .unset, .unset, .unset, .unset, .unset, .unset, .unset, .unset, .unset] [(.long s0)])) := by
    intro T0 X0 e0 v5 v7 v8 s0 hr
    unfold own_f0_55 at hr
    have W0 : OwnGo.Wk p.tables T0 m c below code := ⟨X0.here, hx, hby⟩
    refine OwnGo.lstore W0 (pn := 57) (l' := #[.val (.long q0), .second, .val (.long q1), .second, .val (.int p2), .val (.long v5), .second, .val (.int v7), .val (.long v8), .second, .val (.long s0), .second, .unset, .unset, .unset, .unset, .unset, .unset, .unset, .unset]) at_55 rfl rfl ?_
    exact B57 _ X0 e0 (v5) (v7) (v8) (s0) hr
  have B38 : ∀ (T0 : State) (X0 : Stand p l e room_1 s m #[(.long q0), (.long q1), (.int p2)] below meth c T0 [] 0 0) (e0 : T0.heap = h0) (v5 : Int64) (v7 : Int32) (v8 : Int64), own_f0_38 q1 v5 v7 v8 = r → OwnGo.Go p.tables e below (OwnGo.Qe s room_1 (OwnGo.PureQ (.int r) h0)) (T0.setTop (mkF m 38 #[.val (.long q0), .second, .val (.long q1), .second, .val (.int p2), .val (.long v5), .second, .val (.int v7), .val (.long v8), .second, .unset, .unset, .unset, .unset, .unset, .unset, .unset, .unset, .unset, .unset] [])) := by
    intro T0 X0 e0 v5 v7 v8 hr
    unfold own_f0_38 at hr
    have W0 : OwnGo.Wk p.tables T0 m c below code := ⟨X0.here, hx, hby⟩
    refine OwnGo.iload W0 (pn := 40) at_38 rfl rfl ?_
    refine OwnGo.if_eq W0 (pn := 43) (pt := 51) at_40 rfl (by decide) (by decide) (fun h40 => ?_) (fun h40 => ?_)
    · rw [if_pos h40] at hr
      refine OwnGo.lloadN W0 (pn := 52) at_51 rfl rfl ?_
      refine OwnGo.lload W0 (pn := 54) at_52 rfl rfl ?_
      refine OwnGo.land W0 (pn := 55) at_54 rfl ?_
      exact B55 _ X0 e0 (v5) (v7) (v8) ((q1 &&& v5)) hr
    · rw [if_neg h40] at hr
      refine OwnGo.lloadN W0 (pn := 44) at_43 rfl rfl ?_
      refine OwnGo.ldc2J X0 hx hby hZ hown (pn := 47) (hw _ (List.mem_of_getElem? (i := 18) rfl)) at_44 rfl ?_
      refine OwnGo.land W0 (pn := 48) at_47 rfl ?_
      refine OwnGo.goto W0 (pt := 55) at_48 (by decide) (by decide) ?_
      exact B55 _ X0 e0 (v5) (v7) (v8) ((q1 &&& (4095 : Int64))) hr
  have B36 : ∀ (T0 : State) (X0 : Stand p l e room_1 s m #[(.long q0), (.long q1), (.int p2)] below meth c T0 [] 0 0) (e0 : T0.heap = h0) (v5 : Int64) (v7 : Int32) (s0 : Int64), own_f0_36 q1 v5 v7 s0 = r → OwnGo.Go p.tables e below (OwnGo.Qe s room_1 (OwnGo.PureQ (.int r) h0)) (T0.setTop (mkF m 36 #[.val (.long q0), .second, .val (.long q1), .second, .val (.int p2), .val (.long v5), .second, .val (.int v7), .unset, .unset, .unset, .unset, .unset, .unset, .unset, .unset, .unset, .unset, .unset, .unset] [(.long s0)])) := by
    intro T0 X0 e0 v5 v7 s0 hr
    unfold own_f0_36 at hr
    have W0 : OwnGo.Wk p.tables T0 m c below code := ⟨X0.here, hx, hby⟩
    refine OwnGo.lstore W0 (pn := 38) (l' := #[.val (.long q0), .second, .val (.long q1), .second, .val (.int p2), .val (.long v5), .second, .val (.int v7), .val (.long s0), .second, .unset, .unset, .unset, .unset, .unset, .unset, .unset, .unset, .unset, .unset]) at_36 rfl rfl ?_
    exact B38 _ X0 e0 (v5) (v7) (s0) hr
  have B17 : ∀ (T0 : State) (X0 : Stand p l e room_1 s m #[(.long q0), (.long q1), (.int p2)] below meth c T0 [] 0 0) (e0 : T0.heap = h0) (v5 : Int64) (s0 : Int32), own_f0_17 q0 q1 v5 s0 = r → OwnGo.Go p.tables e below (OwnGo.Qe s room_1 (OwnGo.PureQ (.int r) h0)) (T0.setTop (mkF m 17 #[.val (.long q0), .second, .val (.long q1), .second, .val (.int p2), .val (.long v5), .second, .unset, .unset, .unset, .unset, .unset, .unset, .unset, .unset, .unset, .unset, .unset, .unset, .unset] [(.int s0)])) := by
    intro T0 X0 e0 v5 s0 hr
    unfold own_f0_17 at hr
    have W0 : OwnGo.Wk p.tables T0 m c below code := ⟨X0.here, hx, hby⟩
    refine OwnGo.istore W0 (pn := 19) (l' := #[.val (.long q0), .second, .val (.long q1), .second, .val (.int p2), .val (.long v5), .second, .val (.int s0), .unset, .unset, .unset, .unset, .unset, .unset, .unset, .unset, .unset, .unset, .unset, .unset]) at_17 rfl rfl ?_
    refine OwnGo.iload W0 (pn := 21) at_19 rfl rfl ?_
    refine OwnGo.if_eq W0 (pn := 24) (pt := 32) at_21 rfl (by decide) (by decide) (fun h21 => ?_) (fun h21 => ?_)
    · rw [if_pos h21] at hr
      refine OwnGo.lloadN W0 (pn := 33) at_32 rfl rfl ?_
      refine OwnGo.lload W0 (pn := 35) at_33 rfl rfl ?_
      refine OwnGo.land W0 (pn := 36) at_35 rfl ?_
      exact B36 _ X0 e0 (v5) (s0) ((q0 &&& v5)) hr
    · rw [if_neg h21] at hr
      refine OwnGo.lloadN W0 (pn := 25) at_24 rfl rfl ?_
      refine OwnGo.ldc2J X0 hx hby hZ hown (pn := 28) (hw _ (List.mem_of_getElem? (i := 18) rfl)) at_25 rfl ?_
      refine OwnGo.land W0 (pn := 29) at_28 rfl ?_
      refine OwnGo.goto W0 (pt := 36) at_29 (by decide) (by decide) ?_
      exact B36 _ X0 e0 (v5) (s0) ((q0 &&& (4095 : Int64))) hr
  unfold own_f0 at hr
  have W0 : OwnGo.Wk p.tables T0 m c below code := ⟨X0.here, hx, hby⟩
  refine OwnGo.ldc2J X0 hx hby hZ hown (pn := 3) (hw _ (List.mem_of_getElem? (i := 0) rfl)) at_0 rfl ?_
  refine OwnGo.lstore W0 (pn := 5) (l' := #[.val (.long q0), .second, .val (.long q1), .second, .val (.int p2), .val (.long (4611686018427387903 : Int64)), .second, .unset, .unset, .unset, .unset, .unset, .unset, .unset, .unset, .unset, .unset, .unset, .unset, .unset]) at_3 rfl rfl ?_
  refine OwnGo.iload W0 (pn := 7) at_5 rfl rfl ?_
  refine OwnGo.iconst (v := (1 : Int32)) W0 (pn := 8) at_7 rfl rfl ?_
  refine OwnGo.iand W0 (pn := 9) at_8 rfl ?_
  refine OwnGo.if_eq W0 (pn := 12) (pt := 16) at_9 rfl (by decide) (by decide) (fun h9 => ?_) (fun h9 => ?_)
  · rw [if_pos h9] at hr
    refine OwnGo.iconst (v := (0 : Int32)) W0 (pn := 17) at_16 rfl rfl ?_
    exact B17 _ X0 e0 ((4611686018427387903 : Int64)) ((0 : Int32)) hr
  · rw [if_neg h9] at hr
    refine OwnGo.iconst (v := (1 : Int32)) W0 (pn := 13) at_12 rfl rfl ?_
    refine OwnGo.goto W0 (pt := 17) at_13 (by decide) (by decide) ?_
    exact B17 _ X0 e0 ((4611686018427387903 : Int64)) ((1 : Int32)) hr
theorem own_vl (b : Int64) (h0 : 0 ≤ b.toInt) (h1 : b.toInt < 5764607523034234880) :
    (b.toInt % 1028 = 0 ∧ (own_f1 b).toInt = b.toInt / 1028 * 1024) ∨ (0 < b.toInt % 1028 ∧ b.toInt % 1028 ≤ 4 ∧ (own_f1 b).toInt = -1) ∨ (4 < b.toInt % 1028 ∧ (own_f1 b).toInt = b.toInt / 1028 * 1024 + b.toInt % 1028 - 4) := by
  simp only [own_f1, own_f1_40]
  have kA := c_ladd b 1028
  have kA1 := (b + 1028).toInt_lt
  have kA2 := (b + 1028).le_toInt
  generalize b + 1028 = A at *
  have kB := c_lsub A 1
  have kB1 := (A - 1).toInt_lt
  have kB2 := (A - 1).le_toInt
  generalize A - 1 = B at *
  have kP := (c_ldiv B 1028 1028 (by decide) (by decide)).1
  generalize B / 1028 = P at *
  have kM := c_lmul P 4
  have kM1 := (P * 4).toInt_lt
  have kM2 := (P * 4).le_toInt
  generalize P * 4 = M at *
  have kV := c_lsub b M
  have kV1 := (b - M).toInt_lt
  have kV2 := (b - M).le_toInt
  generalize b - M = V at *
  have kD := c_lsub P 1
  have kD1 := (P - 1).toInt_lt
  have kD2 := (P - 1).le_toInt
  generalize P - 1 = D at *
  have kE := c_lmul D 1024
  have kE1 := (D * 1024).toInt_lt
  have kE2 := (D * 1024).le_toInt
  generalize D * 1024 = E at *
  simp only [Int64.reduceToInt] at *
  have gA : A.toInt = b.toInt + 1028 := by omega
  have gB : B.toInt = b.toInt + 1027 := by omega
  have gP : P.toInt = (b.toInt + 1027) / 1028 := by rw [kP (by omega), gB]
  have gM : M.toInt = P.toInt * 4 := by omega
  have gV : V.toInt = b.toInt - M.toInt := by omega
  have gD : D.toInt = P.toInt - 1 := by omega
  have gE : E.toInt = D.toInt * 1024 := by omega
  clear kA kA1 kA2 kB kB1 kB2 kP kM kM1 kM2 kV kV1 kV2 kD kD1 kD2 kE kE1 kE2
  repeat' split
  all_goals (simp only [Int32.lt_iff_toInt_lt, Int32.reduceToInt, ← Int32.toInt_inj, Int64.lt_iff_toInt_lt, Int64.reduceToInt, ← Int64.toInt_inj, true_and, and_true, false_and, and_false, true_or, or_true, false_or, or_false, not_true_eq_false, not_false_eq_true] at * <;> omega)
theorem own_bd (v : Int64) (h0 : 0 ≤ v.toInt) (h1 : v.toInt < 4611686018427387904) : (own_f2 v).toInt = v.toInt + (v.toInt + 1023) / 1024 * 4 := by
  simp only [own_f2]
  have kA := c_ladd v 1023
  have kA1 := (v + 1023).toInt_lt
  have kA2 := (v + 1023).le_toInt
  generalize v + 1023 = A at *
  have kP := (c_ldiv A 1024 1024 (by decide) (by decide)).1
  generalize A / 1024 = P at *
  have kM := c_lmul P 4
  have kM1 := (P * 4).toInt_lt
  have kM2 := (P * 4).le_toInt
  generalize P * 4 = M at *
  have kV := c_ladd v M
  have kV1 := (v + M).toInt_lt
  have kV2 := (v + M).le_toInt
  generalize v + M = V at *
  simp only [Int64.reduceToInt] at *
  have gA : A.toInt = v.toInt + 1023 := by omega
  have gP : P.toInt = (v.toInt + 1023) / 1024 := by rw [kP (by omega), gA]
  have gM : M.toInt = P.toInt * 4 := by omega
  omega
theorem own_57 (b v : Int64) (hb0 : 0 ≤ b.toInt) (hb1 : b.toInt < 4611686018427387904) (hv0 : 0 ≤ v.toInt) (hv1 : v.toInt < 4611686018427387904) : own_f0_57 b v = 1 := by
  have hB := own_bd v hv0 hv1
  have hV := own_vl b hb0 (by omega)
  have hW := own_vl (own_f2 v) (by omega) (by omega)
  have kR := (c_lrem b 1028 1028 (by decide)).1 hb0
  have kQ := (c_ldiv b 1028 1028 (by decide) (by decide)).1 hb0
  simp only [own_f0_57, own_f0_123, own_f0_139, own_f0_160, own_f0_176]
  generalize own_f1 (own_f2 v) = rw at *
  generalize own_f2 v = bv at *
  generalize own_f1 b = rb at *
  generalize b - b / 1028 * 1028 = R at *
  generalize b / 1028 = q at *
  have kM := c_lmul q 1024
  have kM1 := (q * 1024).toInt_lt
  have kM2 := (q * 1024).le_toInt
  generalize q * 1024 = M at *
  have kS := c_ladd M R
  have kS1 := (M + R).toInt_lt
  have kS2 := (M + R).le_toInt
  generalize M + R = S at *
  have kT := c_lsub S 4
  have kT1 := (S - 4).toInt_lt
  have kT2 := (S - 4).le_toInt
  generalize S - 4 = D at *
  simp only [Int64.reduceToInt] at *
  have gM : M.toInt = q.toInt * 1024 := by omega
  have gS : S.toInt = M.toInt + R.toInt := by omega
  have gD : D.toInt = S.toInt - 4 := by omega
  clear kM kM1 kM2 kS kS1 kS2 kT kT1 kT2
  have w : rw.toInt = v.toInt := by omega
  clear hW hB
  repeat' split
  all_goals first | rfl | (exfalso; simp only [Int32.lt_iff_toInt_lt, Int32.reduceToInt, ← Int32.toInt_inj, Int64.lt_iff_toInt_lt, Int64.reduceToInt, ← Int64.toInt_inj, true_and, and_true, false_and, and_false, true_or, or_true, false_or, or_false, not_true_eq_false, not_false_eq_true] at * <;> omega)
theorem own_plain (q0 q1 : Int64) (p2 : Int32) : own_f0 q0 q1 p2 = 1 := by
  have a1 : (q0 &&& 4611686018427387903).toInt = q0.toInt % (2 ^ 62 : Nat) := c_maskL _ _ 62 (by decide) (by decide)
  have a2 : (q1 &&& 4611686018427387903).toInt = q1.toInt % (2 ^ 62 : Nat) := c_maskL _ _ 62 (by decide) (by decide)
  have a3 : (q0 &&& 4095).toInt = q0.toInt % (2 ^ 12 : Nat) := c_maskL _ _ 12 (by decide) (by decide)
  have a4 : (q1 &&& 4095).toInt = q1.toInt % (2 ^ 12 : Nat) := c_maskL _ _ 12 (by decide) (by decide)
  have b1 := own_57 (q0 &&& 4611686018427387903) (q1 &&& 4611686018427387903) (by omega) (by omega) (by omega) (by omega)
  have b2 := own_57 (q0 &&& 4095) (q1 &&& 4095) (by omega) (by omega) (by omega) (by omega)
  have z : ¬ ((1 : Int32) = 0) := by decide
  simp only [own_f0, own_f0_17, own_f0_36, own_f0_38, own_f0_55, z, ↓reduceIte, b1, b2]
  try (split <;> rfl)
set_option maxRecDepth 65536 in
set_option maxHeartbeats 40000000 in
theorem comes_1 {Post : Tables → Env → Array Value → State → Outcome → State → Prop} (hpost : ∀ tb e args s v u, (limb_1_1.after args s (.returned v) u = true ∧ limb_1_2.after args s (.returned v) u = true ∧ True) → FrameEnd s (.returned v) u (Jvm.fieldLocs frame_1_writes args s ++ Jvm.arrayLocs frame_1_arrays args s ++ Jvm.staticLocs frame_1_statics s) 0 0 → Post tb e args s (.returned v) u) :
    ArmFor flags0 classFile x code maxLocals ret World_1 tables_1 room_1 Calls_1 rest_1 Pre_1 Post := by
  intro l hfl _ _ p e ha hc hk s m args below hf hA hF happ hP
  obtain ⟨hcalls, hrest, hpre⟩ := hP
  obtain ⟨-, -, -, hnamed, -, -, -, hat⟩ := (Spec.applies_iff hf).mp happ
  obtain ⟨hg, hn⟩ := and_e (Cond.before_iff.mp (show (Jvm.Cond.and given_1 narrow_1).before args s = true from hpre))
  obtain ⟨g0, k0⟩ := and_e hg
  obtain ⟨g1, k1⟩ := and_e k0
  obtain ⟨g2, k2⟩ := and_e k1
  obtain ⟨w0, w1, w2, rfl⟩ : ∃ w0 w1 w2 : Value, args = #[w0, w1, w2] := by
    have hs : args.size = 3 := by simpa [Cond.value, given_1] using g0
    obtain ⟨L⟩ := args
    match L, hs with
    | [w0, w1, w2], _ => exact ⟨w0, w1, w2, rfl⟩
  have hw := fun d (hd : d ∈ tables_1) => atoms_spec (ws := Jvm.Cond.code x code maxLocals ret :: tables_1) hat d (List.mem_cons_of_mem _ hd)
  have hfit : Fit s := fun {y c} hc i hi => by
    obtain ⟨ha, rfl⟩ := Array.getElem?_eq_some_iff.mp hc
    have q := List.all_eq_true.mp ((Array.all_eq_true_iff_forall_mem.mp hF) _ (Array.getElem_mem ha)) i (List.mem_range.mpr hi)
    simpa [Array.getElem?_eq_getElem hi] using q
  obtain ⟨i0, ei0⟩ := isL_v g1
  obtain rfl : w0 = (.long i0) := Option.some.inj ei0
  obtain ⟨i1, ei1⟩ := isL_v g2
  obtain rfl : w1 = (.long i1) := Option.some.inj ei1
  obtain ⟨i2, ei2⟩ := is_v k2
  obtain rfl : w2 = (.int i2) := Option.some.inj ei2
  obtain ⟨n, o, h1, h2, h3, _, L, rfl, ⟨rfl, rfl, -⟩, hq⟩ := rm_own_f0 l s _ hw i0 i1 i2 s.heap tables_1 p e ha hc hk s m _ below hf ((Spec.applies_iff_loose hf).mp happ).1 ⟨rfl, State.Warmed39.refl s, rfl⟩ trivial
  refine ⟨n, _, h1, h2, h3, hpost _ _ _ _ _ _ ⟨Cond.after_iff.mpr rfl, Cond.after_iff.mpr (eq_i res_at (Term.int_eval (1)) (congrArg Value.int (own_plain i0 i1 i2))), trivial⟩ ⟨hq.1, hq.2.1, (hq.2.2.sift fun y hy => Or.inr (nomatch hy)).mono (by decide) (by decide)⟩⟩
theorem main_1_1 : Claimed_1_1 := comes_1 fun _ _ _ _ _ _ h hF => ⟨h.1, hF⟩
theorem main_1_2 : Claimed_1_2 := comes_1 fun _ _ _ _ _ _ h hF => ⟨h.2.1, hF⟩
end Jvm.Pilot.@@N@@
namespace Jvm.Pilot.@@N@@
open Jvm Jvm.ClassFile Sem Op Lib Jvm.Free Jvm.Stand Jvm.Pilot.@@N@@.Jvm.D
/-! MADE BY PROGRAM (witnessworld.py) out of the Statement's table words and the real class files: 9 classes; the members and pool entries that the words name. The judged class is class 1, her method 2. -/
namespace start1
open Jvm.ClassFile
def u (s : String) : CpInfo := .utf8 (stringToUtf16 s)
/-- a pool by its gaps: so many unusable entries, then the entry; so many at the end -/
def gap : Nat → List CpInfo → List CpInfo
  | 0, r => r
  | n + 1, r => .unusable :: gap n r
def poolList (es : List (Nat × CpInfo)) (last : Nat) : List CpInfo := es.foldr (fun e r => gap e.1 (e.2 :: r)) (gap last [])
def pool (es : List (Nat × CpInfo)) (last : Nat) : Array CpInfo := ⟨poolList es last⟩
def fileOf (pool : Array CpInfo) (this : Nat) (attrs : Array Attribute := #[]) (ms : Array MethodInfo := #[]) (fl : Nat := 33) (sup : Nat := 0) (ifs : Array Nat := #[]) (fds : Array FieldInfo := #[]) : ClassFile where
  minorVersion := 0
  majorVersion := 65
  constantPool := pool
  accessFlags := fl
  thisClass := this
  superClass := sup
  interfaces := ifs
  fields := fds
  methods := ms
  attributes := attrs
def plain (name : String) (sup : Option ClassId) : Class where
  name := name
  kind := .ordinary
  loader := none
  accessFlags := 33
  super := sup
  interfaces := #[]
  cf := none
  fields := #[]
  methods := #[]
  instanceTypes := #[]
  staticTypes := #[]
  resolved := #[]
  callSites := []
  init := .initialized
  statics := none
  mirror := none

def pool0 : Array CpInfo := pool [(5, u "<init>"), (0, u "()V"), (1, .class_ 10), (1, u "java/lang/Object")] 113

def k0m0 : Method := { name := "<init>", desc := "()V", sig := { parameters := [], returnType := none }, accessFlags := 1, code := none }
/-- java/lang/Object -/
def k0 : Class := { plain "java/lang/Object" none with
  accessFlags := 33
  interfaces := #[]
  cf := some (fileOf pool0 8 #[] #[{ accessFlags := 1, nameIndex := 5, descriptorIndex := 6, attributes := #[] }] 33 0 #[] #[])
  fields := #[]
  methods := #[k0m0]
  instanceTypes := #[]
  staticTypes := #[]
  resolved := Array.replicate 124 none
  statics := none }

def pool1 : Array CpInfo := pool [(2, .class_ 4), (1, u "java/lang/Object"), (0, u "<init>"), (0, u "()V"), (0, .long 1023), (1, .long 1024), (1, .long 4), (1, .long 4611686018427387903), (1, .long 4095), (1, .long 1028), (1, .long 18446744073709551615), (1, .methodref 22 23), (0, .class_ 24), (0, .nameAndType 25 26), (0, u "com/example/quire/quire/store/internal/Pages"), (0, u "valuesLength"), (0, u "(J)J"), (0, .methodref 28 29), (0, .class_ 30), (0, .nameAndType 31 26), (0, u "com/example/quire/quire/store/internal/PagesValuesLengthPinLaw"), (0, u "body"), (2, u "law"), (0, u "(JJI)Z")] 3

def k1m0 : Method := { name := "<init>", desc := "()V", sig := { parameters := [], returnType := none }, accessFlags := 2, code := none }
def k1c1 : Code := { maxStack := 6, maxLocals := 2, code := method_2_code, exceptionTable := #[], attributes := #[] }
def k1m1 : Method := { name := "body", desc := "(J)J", sig := { parameters := [.long], returnType := some .long }, accessFlags := 10, code := some k1c1 }
def k1c2 : Code := { maxStack := 4, maxLocals := 20, code := code, exceptionTable := #[], attributes := #[] }
def k1m2 : Method := { name := "law", desc := "(JJI)Z", sig := { parameters := [.long, .long, .int], returnType := some .boolean }, accessFlags := 9, code := some k1c2 }
/-- com/example/quire/quire/store/internal/PagesValuesLengthPinLaw -/
def k1 : Class := { plain "com/example/quire/quire/store/internal/PagesValuesLengthPinLaw" (some 0) with
  accessFlags := 49
  interfaces := #[]
  cf := some (fileOf pool1 28 #[] #[{ accessFlags := 2, nameIndex := 5, descriptorIndex := 6, attributes := #[] }, { accessFlags := 10, nameIndex := 31, descriptorIndex := 26, attributes := #[] }, { accessFlags := 9, nameIndex := 34, descriptorIndex := 35, attributes := #[] }] 49 2 #[] #[])
  fields := #[]
  methods := #[k1m0, k1m1, k1m2]
  instanceTypes := #[]
  staticTypes := #[]
  resolved := Array.replicate 39 none
  statics := none }

def pool2 : Array CpInfo := pool [(3, .class_ 4), (0, u "com/example/quire/quire/store/internal/Pages"), (1, .class_ 8), (1, u "java/lang/Object"), (0, u "<init>"), (0, u "()V"), (0, .long 1024), (5, .long 4), (1, .long 1028), (1, .long 18446744073709551615), (1, u "CHECKSUM_LENGTH"), (0, u "I"), (2, u "STRIDE"), (5, u "valuesLength"), (0, u "(J)J")] 3

def k2m0 : Method := { name := "<init>", desc := "()V", sig := { parameters := [], returnType := none }, accessFlags := 2, code := none }
def k2c1 : Code := { maxStack := 6, maxLocals := 6, code := prog_116_method_5_code, exceptionTable := #[], attributes := #[] }
def k2m1 : Method := { name := "valuesLength", desc := "(J)J", sig := { parameters := [.long], returnType := some .long }, accessFlags := 8, code := some k2c1 }
/-- com/example/quire/quire/store/internal/Pages -/
def k2 : Class := { plain "com/example/quire/quire/store/internal/Pages" (some 0) with
  accessFlags := 48
  interfaces := #[]
  cf := some (fileOf pool2 3 #[] #[{ accessFlags := 2, nameIndex := 9, descriptorIndex := 10, attributes := #[] }, { accessFlags := 8, nameIndex := 33, descriptorIndex := 34, attributes := #[] }] 48 6 #[] #[{ accessFlags := 24, nameIndex := 23, descriptorIndex := 24, attributes := #[] }, { accessFlags := 24, nameIndex := 27, descriptorIndex := 24, attributes := #[] }])
  fields := #[{ name := "CHECKSUM_LENGTH", type := .int, accessFlags := 24, slot := 0, constantValue := 0 }, { name := "STRIDE", type := .int, accessFlags := 24, slot := 1, constantValue := 0 }]
  methods := #[k2m0, k2m1]
  instanceTypes := #[]
  staticTypes := #[.int, .int]
  resolved := Array.replicate 38 none
  statics := none }

def pool3 : Array CpInfo := pool [(1, u "java/lang/Cloneable"), (0, .class_ 1), (0, u "java/lang/Object"), (0, .class_ 3)] 3

/-- java/lang/Cloneable -/
def k3 : Class := { plain "java/lang/Cloneable" (some 0) with
  accessFlags := 1537
  interfaces := #[]
  cf := some (fileOf pool3 2 #[] #[] 1537 4 #[] #[])
  fields := #[]
  methods := #[]
  instanceTypes := #[]
  staticTypes := #[]
  resolved := Array.replicate 8 none
  statics := none }

def pool4 : Array CpInfo := pool [(1, u "java/io/Serializable"), (0, .class_ 1), (0, u "java/lang/Object"), (0, .class_ 3)] 3

/-- java/io/Serializable -/
def k4 : Class := { plain "java/io/Serializable" (some 0) with
  accessFlags := 1537
  interfaces := #[]
  cf := some (fileOf pool4 2 #[] #[] 1537 4 #[] #[])
  fields := #[]
  methods := #[]
  instanceTypes := #[]
  staticTypes := #[]
  resolved := Array.replicate 8 none
  statics := none }

/-- the primitive byte -/
def k5 : Class := { plain "byte" none with kind := .primitive 'B', accessFlags := 0x411 }
/-- [B -/
def k6 : Class := { plain "[B" (some 0) with kind := .array 5 .byte, interfaces := #[3, 4], accessFlags := 1041 }

/-- the primitive int -/
def k7 : Class := { plain "int" none with kind := .primitive 'I', accessFlags := 0x411 }
/-- [I -/
def k8 : Class := { plain "[I" (some 0) with kind := .array 7 .int, interfaces := #[3, 4], accessFlags := 1041 }

def heap : Heap := #[]
def classes : Array Class := #[k0, k1, k2, k3, k4, k5, k6, k7, k8]
def interned : List (Array UInt16 × Addr) := []
def slotsUsed : Nat := 0
def theMethod : MethodId := ⟨1, 2⟩
def args0 : Array Value := #[.long 5, .long 7, .int 5]
def aboutOver (below : List Frame) : State where
  vm := { classes := classes, interned := interned.toArray }
  heap := heap
  slotsUsed := slotsUsed
  threads := #[{ frames := .invoking theMethod args0 :: below }]
def below0 : List Frame := [.native { method := ⟨0, 0⟩, args := #[] }]
def about1 : State := aboutOver below0
def p0 : Program := .bare "" "" ""
def e0 : Env := launch0.env 0 0 0
theorem w_frames : about1.frames = Frame.invoking theMethod args0 :: below0 := rfl
set_option maxRecDepth 65536 in
theorem w_args : argsFit about1.vm theMethod args0 = true := by decide +kernel
set_option maxRecDepth 65536 in
theorem w_heap : heapFits about1 = true := by decide +kernel
set_option maxRecDepth 65536 in
theorem w_runnable : about1.curStatus? = some .runnable := by decide +kernel
set_option maxRecDepth 65536 in
theorem w_alone : about1.alone = true := by decide +kernel
set_option maxRecDepth 65536 in
theorem w_named : about1.methodNamed? x = some theMethod := by decide +kernel
set_option maxRecDepth 65536 in
theorem w_hears : about1.hears theMethod below0 = true := by decide +kernel
set_option maxRecDepth 65536 in
theorem w_ripe : about1.ripe theMethod args0 below0 = true := by decide +kernel
theorem w_running : about1.status = .running := rfl
set_option maxRecDepth 65536 in
theorem w_room : about1.hasRoom e0.platform room_1 = true :=
  launch0.hasRoom_least _ room_1 (by decide +kernel) (by decide +kernel) (by decide +kernel) (by decide +kernel) (by decide +kernel) (by decide +kernel)
theorem allAtoms_all (ts : List Jvm.Cond) (a : Array Jvm.Value) (st : Jvm.State) : (allAtoms ts).before a st = ts.all (fun c => c.before a st) := by
  induction ts with
  | nil => rfl
  | cons c t ih =>
    show (Jvm.Cond.and c (allAtoms t)).before a st = _
    rw [Jvm.Cond.before_and, ih, List.all_cons]
def words1 : List Jvm.Cond := Jvm.Cond.code x code maxLocals ret :: tables_1
/-- a 'code' word, met by the world's own term for the bytes: nothing is compared byte by byte -/
theorem code_word {y : MethodName} {bytes : ByteArray} {mx : Nat} {rt : Option FieldType} {a : Array Value} {s : State} {m : MethodId} {meth : Method} {c : Code} (h1 : s.methodNamed? y = some m) (h2 : s.vm.method? m = some meth) (h3 : meth.code = some c) (h4 : c.code = bytes)
    (h5 : (c.maxLocals == mx && c.exceptionTable.isEmpty && decide (c.maxStack ≤ mostOperands) && decide (meth.sig.returnType = rt) && !meth.locks && decide (parseMethodDescriptor y.desc = some meth.sig)) = true) : (Jvm.Cond.code y bytes mx rt).before a s = true := by
  simp only [Bool.and_eq_true, beq_iff_eq, Bool.not_eq_true', decide_eq_true_eq] at h5
  obtain ⟨⟨⟨⟨⟨g1, g2⟩, g3⟩, g4⟩, g5⟩, g6⟩ := h5
  simp [Cond.before, Cond.holds, Cond.value, h1, h2, h3, h4, g1, g2, g3, g4, g5, g6]
def isCode : Jvm.Cond → Bool
  | .code _ _ _ _ => true
  | _ => false
theorem all_split {L : List Jvm.Cond} {P : Jvm.Cond → Bool} (h1 : L.all (fun c => isCode c || P c) = true) (h2 : ∀ c ∈ L.filter isCode, P c = true) : L.all P = true := by
  refine List.all_eq_true.mpr fun c hc => ?_
  have h := List.all_eq_true.mp h1 c hc
  rcases Bool.eq_false_or_eq_true (isCode c) with hi | hi
  · exact h2 c (List.mem_filter.mpr ⟨hc, hi⟩)
  · simpa [hi] using h
set_option maxRecDepth 65536 in
theorem w_c0 : (Jvm.Cond.code x code maxLocals ret).before args0 about1 = true := code_word (m := ⟨1, 2⟩) (meth := k1m2) (c := k1c2) (by decide +kernel) rfl rfl rfl (by decide +kernel)
set_option maxRecDepth 65536 in
theorem w_c1 : (Jvm.Cond.code ({ cls := "com/example/quire/quire/store/internal/Pages", name := "valuesLength", desc := "(J)J" } : Jvm.MethodName) prog_116_method_5_code (6 : Nat) (Option.some Jvm.ClassFile.FieldType.long)).before args0 about1 = true := code_word (m := ⟨2, 1⟩) (meth := k2m1) (c := k2c1) (by decide +kernel) rfl rfl rfl (by decide +kernel)
set_option maxRecDepth 65536 in
theorem w_c2 : (Jvm.Cond.code ({ cls := "com/example/quire/quire/store/internal/PagesValuesLengthPinLaw", name := "body", desc := "(J)J" } : Jvm.MethodName) method_2_code (2 : Nat) (Option.some Jvm.ClassFile.FieldType.long)).before args0 about1 = true := code_word (m := ⟨1, 1⟩) (meth := k1m1) (c := k1c1) (by decide +kernel) rfl rfl rfl (by decide +kernel)
def codes1 : List Jvm.Cond := [Jvm.Cond.code x code maxLocals ret, Jvm.Cond.code ({ cls := "com/example/quire/quire/store/internal/Pages", name := "valuesLength", desc := "(J)J" } : Jvm.MethodName) prog_116_method_5_code (6 : Nat) (Option.some Jvm.ClassFile.FieldType.long), Jvm.Cond.code ({ cls := "com/example/quire/quire/store/internal/PagesValuesLengthPinLaw", name := "body", desc := "(J)J" } : Jvm.MethodName) method_2_code (2 : Nat) (Option.some Jvm.ClassFile.FieldType.long)]
set_option maxRecDepth 65536 in
theorem codes_eq : words1.filter isCode = codes1 := rfl
theorem w_codes : ∀ c ∈ words1.filter isCode, c.before args0 about1 = true := by
  rw [codes_eq]
  intro c hc
  simp only [codes1, List.mem_cons, List.not_mem_nil, or_false] at hc
  rcases hc with rfl | rfl | rfl
  · exact w_c0
  · exact w_c1
  · exact w_c2
set_option maxRecDepth 65536 in
theorem w_t1 : words1.all (fun c => isCode c || c.before args0 about1) = true := by decide +kernel
theorem w_tables : (allAtoms (Jvm.Cond.code x code maxLocals ret :: tables_1)).before args0 about1 = true := by
  rw [allAtoms_all]
  show words1.all (fun c => c.before args0 about1) = true
  refine all_split ?_ w_codes
  rw [w_t1]
set_option maxRecDepth 65536 in
theorem w_case : (Jvm.Cond.and given_1 narrow_1).before args0 about1 = true := by decide +kernel
theorem w_applies : (headSpec (Jvm.Cond.code x code maxLocals ret :: tables_1) room_1).applies x e0.platform about1 = true :=
  (Spec.applies_iff w_frames).mpr ⟨w_running, w_runnable, w_alone, w_named, w_hears, w_ripe, w_room, w_tables⟩
theorem atStart : AtStart classFile x code maxLocals ret World_1 tables_1 room_1 Calls_1 rest_1 Pre_1 launch0 p0 e0 about1 theMethod args0 below0 :=
  ⟨lists_1, trivial, launch0.admits_env _ _ _, launch0.least_env, fairChoices_fair.cas, fairChoices_fair.clock, w_frames, w_args, w_heap, w_applies, trivial, trivial, w_case⟩
end start1
theorem witness_1 : WitnessClaimed_1 := ⟨start1.p0, start1.e0, start1.about1, start1.theMethod, start1.args0, start1.below0, start1.atStart⟩
end Jvm.Pilot.@@N@@
