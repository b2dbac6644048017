import JvmDerived
import JvmDerived.Pilot.@@N@@Statement
import JvmDerived.Pilot.@@N@@Code
set_option linter.unusedVariables false
set_option linter.unusedSimpArgs false
namespace Jvm.OwnGo
open Jvm Jvm.ClassFile Sem Op Lib Jvm.Free Jvm.Stand Jvm.LawKit Jvm.RoadKit
section Plain
variable {tb : Tables} [Ours tb] {e : Env} {below : List Frame} {Q : Outcome → State → Prop} {T : State} {m : MethodId} {c : Code} {bs : ByteArray} {ls l' : Array Slot} {st : List Value} {pc pn pt : Nat}
def Go (tb : Tables) (e : Env) (below : List Frame) (Q : Outcome → State → Prop) (T : State) : Prop := ∃ s₂ o, Steps tb e below T s₂ ∧ s₂.status = .running ∧ Ended s₂ below o ∧ Q o s₂
def Wk (tb : Tables) (T : State) (m : MethodId) (c : Code) (below : List Frame) (bs : ByteArray) : Prop := At T m c below ∧ tb.exec = Jvm.exec ∧ c.code = bs
theorem Go.step {tb : Tables} {T T' : State} (g : Go tb e below Q T') (h : ∀ t, Steps tb e below T' t → Steps tb e below T t) : Go tb e below Q T := by
  obtain ⟨s2, o, h1, r⟩ := g
  exact ⟨s2, o, h _ h1, r⟩
theorem Go.cast {tb : Tables} {g g' : JFrame} (q : g = g') (k : Go tb e below Q (T.setTop g')) : Go tb e below Q (T.setTop g) := q ▸ k
theorem iloadN (W : Wk tb T m c below bs) {k : Fin 4} {v : Int32} (hd : decode bs pc = .ok (.iload_n k, 1)) (hp : pc + 1 = pn) (hl : ls[k.val]? = some (.val (.int v))) (hr : Go tb e below Q (T.setTop (mkF m pn ls (.int v :: st)))) : Go tb e below Q (T.setTop (mkF m pc ls (st))) := by
  subst hp; exact hr.step fun t k => XS.iloadN W.1 W.2.1 rfl (hb W.2.2 hd) hl k
theorem iload (W : Wk tb T m c below bs) {k : Nat} {v : Int32} (hd : decode bs pc = .ok (.iload k, 2)) (hp : pc + 2 = pn) (hl : ls[k]? = some (.val (.int v))) (hr : Go tb e below Q (T.setTop (mkF m pn ls (.int v :: st)))) : Go tb e below Q (T.setTop (mkF m pc ls (st))) := by
  subst hp; exact hr.step fun t k => XS.iload W.1 W.2.1 rfl (hb W.2.2 hd) hl k
theorem lloadN (W : Wk tb T m c below bs) {k : Fin 4} {v : Int64} (hd : decode bs pc = .ok (.lload_n k, 1)) (hp : pc + 1 = pn) (hl : ls[k.val]? = some (.val (.long v))) (hr : Go tb e below Q (T.setTop (mkF m pn ls (.long v :: st)))) : Go tb e below Q (T.setTop (mkF m pc ls (st))) := by
  subst hp; exact hr.step fun t k => XT.lloadN W.1 W.2.1 rfl (hb W.2.2 hd) hl k
theorem lload (W : Wk tb T m c below bs) {k : Nat} {v : Int64} (hd : decode bs pc = .ok (.lload k, 2)) (hp : pc + 2 = pn) (hl : ls[k]? = some (.val (.long v))) (hr : Go tb e below Q (T.setTop (mkF m pn ls (.long v :: st)))) : Go tb e below Q (T.setTop (mkF m pc ls (st))) := by
  subst hp; exact hr.step fun t k => XT.lload W.1 W.2.1 rfl (hb W.2.2 hd) hl k
theorem aloadN (W : Wk tb T m c below bs) {k : Fin 4} {v : Value} (hd : decode bs pc = .ok (.aload_n k, 1)) (hp : pc + 1 = pn) (hl : ls[k.val]? = some (.val v)) (hv : v.isRef = true) (hr : Go tb e below Q (T.setTop (mkF m pn ls (v :: st)))) : Go tb e below Q (T.setTop (mkF m pc ls (st))) := by
  subst hp; exact hr.step fun t k => XS.aloadN W.1 W.2.1 rfl (hb W.2.2 hd) hl hv k
theorem aload (W : Wk tb T m c below bs) {k : Nat} {v : Value} (hd : decode bs pc = .ok (.aload k, 2)) (hp : pc + 2 = pn) (hl : ls[k]? = some (.val v)) (hv : v.isRef = true) (hr : Go tb e below Q (T.setTop (mkF m pn ls (v :: st)))) : Go tb e below Q (T.setTop (mkF m pc ls (st))) := by
  subst hp; exact hr.step fun t k => XS.aload W.1 W.2.1 rfl (hb W.2.2 hd) hl hv k
theorem istoreN (W : Wk tb T m c below bs) {k : Fin 4} {x : Int32} (hd : decode bs pc = .ok (.istore_n k, 1)) (hp : pc + 1 = pn) (hl : storeLocals ls k.val (.int x) = some l') (hr : Go tb e below Q (T.setTop (mkF m pn l' (st)))) : Go tb e below Q (T.setTop (mkF m pc ls (.int x :: st))) := by
  subst hp; exact hr.step fun t k => XS.istoreN W.1 W.2.1 rfl (hb W.2.2 hd) rfl hl k
theorem istore (W : Wk tb T m c below bs) {k : Nat} {x : Int32} (hd : decode bs pc = .ok (.istore k, 2)) (hp : pc + 2 = pn) (hl : storeLocals ls k (.int x) = some l') (hr : Go tb e below Q (T.setTop (mkF m pn l' (st)))) : Go tb e below Q (T.setTop (mkF m pc ls (.int x :: st))) := by
  subst hp; exact hr.step fun t k => XS.istore W.1 W.2.1 rfl (hb W.2.2 hd) rfl hl k
theorem lstoreN (W : Wk tb T m c below bs) {k : Fin 4} {x : Int64} (hd : decode bs pc = .ok (.lstore_n k, 1)) (hp : pc + 1 = pn) (hl : storeLocals ls k.val (.long x) = some l') (hr : Go tb e below Q (T.setTop (mkF m pn l' (st)))) : Go tb e below Q (T.setTop (mkF m pc ls (.long x :: st))) := by
  subst hp; exact hr.step fun t k => XT.lstoreN W.1 W.2.1 rfl (hb W.2.2 hd) rfl hl k
theorem lstore (W : Wk tb T m c below bs) {k : Nat} {x : Int64} (hd : decode bs pc = .ok (.lstore k, 2)) (hp : pc + 2 = pn) (hl : storeLocals ls k (.long x) = some l') (hr : Go tb e below Q (T.setTop (mkF m pn l' (st)))) : Go tb e below Q (T.setTop (mkF m pc ls (.long x :: st))) := by
  subst hp; exact hr.step fun t k => XT.lstore W.1 W.2.1 rfl (hb W.2.2 hd) rfl hl k
theorem astoreN (W : Wk tb T m c below bs) {k : Fin 4} {x : Value} (hd : decode bs pc = .ok (.astore_n k, 1)) (hp : pc + 1 = pn) (hv : x.isRef = true) (hl : storeLocals ls k.val x = some l') (hr : Go tb e below Q (T.setTop (mkF m pn l' (st)))) : Go tb e below Q (T.setTop (mkF m pc ls (x :: st))) := by
  subst hp; exact hr.step fun t k => XS.astoreN W.1 W.2.1 rfl (hb W.2.2 hd) rfl hv hl k
theorem astore (W : Wk tb T m c below bs) {k : Nat} {x : Value} (hd : decode bs pc = .ok (.astore k, 2)) (hp : pc + 2 = pn) (hv : x.isRef = true) (hl : storeLocals ls k x = some l') (hr : Go tb e below Q (T.setTop (mkF m pn l' (st)))) : Go tb e below Q (T.setTop (mkF m pc ls (x :: st))) := by
  subst hp; exact hr.step fun t k => XS.astore W.1 W.2.1 rfl (hb W.2.2 hd) rfl hv hl k
theorem iadd (W : Wk tb T m c below bs) {x y : Int32} (hd : decode bs pc = .ok (.iadd, 1)) (hp : pc + 1 = pn)  (hr : Go tb e below Q (T.setTop (mkF m pn ls (.int (x + y) :: st)))) : Go tb e below Q (T.setTop (mkF m pc ls (.int y :: .int x :: st))) := by
  subst hp; exact hr.step fun t k => XS.iadd W.1 W.2.1 rfl (hb W.2.2 hd) rfl k
theorem isub (W : Wk tb T m c below bs) {x y : Int32} (hd : decode bs pc = .ok (.isub, 1)) (hp : pc + 1 = pn)  (hr : Go tb e below Q (T.setTop (mkF m pn ls (.int (x - y) :: st)))) : Go tb e below Q (T.setTop (mkF m pc ls (.int y :: .int x :: st))) := by
  subst hp; exact hr.step fun t k => XS.isub W.1 W.2.1 rfl (hb W.2.2 hd) rfl k
theorem imul (W : Wk tb T m c below bs) {x y : Int32} (hd : decode bs pc = .ok (.imul, 1)) (hp : pc + 1 = pn)  (hr : Go tb e below Q (T.setTop (mkF m pn ls (.int (x * y) :: st)))) : Go tb e below Q (T.setTop (mkF m pc ls (.int y :: .int x :: st))) := by
  subst hp; exact hr.step fun t k => XS.imul W.1 W.2.1 rfl (hb W.2.2 hd) rfl k
theorem iand (W : Wk tb T m c below bs) {x y : Int32} (hd : decode bs pc = .ok (.iand, 1)) (hp : pc + 1 = pn)  (hr : Go tb e below Q (T.setTop (mkF m pn ls (.int (x &&& y) :: st)))) : Go tb e below Q (T.setTop (mkF m pc ls (.int y :: .int x :: st))) := by
  subst hp; exact hr.step fun t k => XS.iand W.1 W.2.1 rfl (hb W.2.2 hd) rfl k
theorem ior (W : Wk tb T m c below bs) {x y : Int32} (hd : decode bs pc = .ok (.ior, 1)) (hp : pc + 1 = pn)  (hr : Go tb e below Q (T.setTop (mkF m pn ls (.int (x ||| y) :: st)))) : Go tb e below Q (T.setTop (mkF m pc ls (.int y :: .int x :: st))) := by
  subst hp; exact hr.step fun t k => XT.ior W.1 W.2.1 rfl (hb W.2.2 hd) rfl k
theorem ixor (W : Wk tb T m c below bs) {x y : Int32} (hd : decode bs pc = .ok (.ixor, 1)) (hp : pc + 1 = pn)  (hr : Go tb e below Q (T.setTop (mkF m pn ls (.int (x ^^^ y) :: st)))) : Go tb e below Q (T.setTop (mkF m pc ls (.int y :: .int x :: st))) := by
  subst hp; exact hr.step fun t k => XT.ixor W.1 W.2.1 rfl (hb W.2.2 hd) rfl k
theorem ishl (W : Wk tb T m c below bs) {x y : Int32} (hd : decode bs pc = .ok (.ishl, 1)) (hp : pc + 1 = pn)  (hr : Go tb e below Q (T.setTop (mkF m pn ls (.int (x <<< (y &&& 31)) :: st)))) : Go tb e below Q (T.setTop (mkF m pc ls (.int y :: .int x :: st))) := by
  subst hp; exact hr.step fun t k => XT.ishl W.1 W.2.1 rfl (hb W.2.2 hd) rfl k
theorem ishr (W : Wk tb T m c below bs) {x y : Int32} (hd : decode bs pc = .ok (.ishr, 1)) (hp : pc + 1 = pn)  (hr : Go tb e below Q (T.setTop (mkF m pn ls (.int (x >>> (y &&& 31)) :: st)))) : Go tb e below Q (T.setTop (mkF m pc ls (.int y :: .int x :: st))) := by
  subst hp; exact hr.step fun t k => XT.ishr W.1 W.2.1 rfl (hb W.2.2 hd) rfl k
theorem iushr (W : Wk tb T m c below bs) {x y : Int32} (hd : decode bs pc = .ok (.iushr, 1)) (hp : pc + 1 = pn)  (hr : Go tb e below Q (T.setTop (mkF m pn ls (.int (XT.ushr x y) :: st)))) : Go tb e below Q (T.setTop (mkF m pc ls (.int y :: .int x :: st))) := by
  subst hp; exact hr.step fun t k => XT.iushr W.1 W.2.1 rfl (hb W.2.2 hd) rfl k
theorem ladd (W : Wk tb T m c below bs) {x y : Int64} (hd : decode bs pc = .ok (.ladd, 1)) (hp : pc + 1 = pn)  (hr : Go tb e below Q (T.setTop (mkF m pn ls (.long (x + y) :: st)))) : Go tb e below Q (T.setTop (mkF m pc ls (.long y :: .long x :: st))) := by
  subst hp; exact hr.step fun t k => XT.ladd W.1 W.2.1 rfl (hb W.2.2 hd) rfl k
theorem lsub (W : Wk tb T m c below bs) {x y : Int64} (hd : decode bs pc = .ok (.lsub, 1)) (hp : pc + 1 = pn)  (hr : Go tb e below Q (T.setTop (mkF m pn ls (.long (x - y) :: st)))) : Go tb e below Q (T.setTop (mkF m pc ls (.long y :: .long x :: st))) := by
  subst hp; exact hr.step fun t k => XT.lsub W.1 W.2.1 rfl (hb W.2.2 hd) rfl k
theorem lmul (W : Wk tb T m c below bs) {x y : Int64} (hd : decode bs pc = .ok (.lmul, 1)) (hp : pc + 1 = pn)  (hr : Go tb e below Q (T.setTop (mkF m pn ls (.long (x * y) :: st)))) : Go tb e below Q (T.setTop (mkF m pc ls (.long y :: .long x :: st))) := by
  subst hp; exact hr.step fun t k => XT.lmul W.1 W.2.1 rfl (hb W.2.2 hd) rfl k
theorem land (W : Wk tb T m c below bs) {x y : Int64} (hd : decode bs pc = .ok (.land, 1)) (hp : pc + 1 = pn)  (hr : Go tb e below Q (T.setTop (mkF m pn ls (.long (x &&& y) :: st)))) : Go tb e below Q (T.setTop (mkF m pc ls (.long y :: .long x :: st))) := by
  subst hp; exact hr.step fun t k => XT.land W.1 W.2.1 rfl (hb W.2.2 hd) rfl k
theorem lor (W : Wk tb T m c below bs) {x y : Int64} (hd : decode bs pc = .ok (.lor, 1)) (hp : pc + 1 = pn)  (hr : Go tb e below Q (T.setTop (mkF m pn ls (.long (x ||| y) :: st)))) : Go tb e below Q (T.setTop (mkF m pc ls (.long y :: .long x :: st))) := by
  subst hp; exact hr.step fun t k => XT.lor W.1 W.2.1 rfl (hb W.2.2 hd) rfl k
theorem lxor (W : Wk tb T m c below bs) {x y : Int64} (hd : decode bs pc = .ok (.lxor, 1)) (hp : pc + 1 = pn)  (hr : Go tb e below Q (T.setTop (mkF m pn ls (.long (x ^^^ y) :: st)))) : Go tb e below Q (T.setTop (mkF m pc ls (.long y :: .long x :: st))) := by
  subst hp; exact hr.step fun t k => XT.lxor W.1 W.2.1 rfl (hb W.2.2 hd) rfl k
theorem lshl (W : Wk tb T m c below bs) {x : Int64} {y : Int32} (hd : decode bs pc = .ok (.lshl, 1)) (hp : pc + 1 = pn)  (hr : Go tb e below Q (T.setTop (mkF m pn ls (.long (x <<< (y.toInt64 &&& 63)) :: st)))) : Go tb e below Q (T.setTop (mkF m pc ls (.int y :: .long x :: st))) := by
  subst hp; exact hr.step fun t k => XT.lshl W.1 W.2.1 rfl (hb W.2.2 hd) rfl k
theorem lshr (W : Wk tb T m c below bs) {x : Int64} {y : Int32} (hd : decode bs pc = .ok (.lshr, 1)) (hp : pc + 1 = pn)  (hr : Go tb e below Q (T.setTop (mkF m pn ls (.long (x >>> (y.toInt64 &&& 63)) :: st)))) : Go tb e below Q (T.setTop (mkF m pc ls (.int y :: .long x :: st))) := by
  subst hp; exact hr.step fun t k => XT.lshr W.1 W.2.1 rfl (hb W.2.2 hd) rfl k
theorem lushr (W : Wk tb T m c below bs) {x : Int64} {y : Int32} (hd : decode bs pc = .ok (.lushr, 1)) (hp : pc + 1 = pn)  (hr : Go tb e below Q (T.setTop (mkF m pn ls (.long (XT.ushrL x y) :: st)))) : Go tb e below Q (T.setTop (mkF m pc ls (.int y :: .long x :: st))) := by
  subst hp; exact hr.step fun t k => XT.lushr W.1 W.2.1 rfl (hb W.2.2 hd) rfl k
theorem i2l (W : Wk tb T m c below bs) {x : Int32} (hd : decode bs pc = .ok (.i2l, 1)) (hp : pc + 1 = pn)  (hr : Go tb e below Q (T.setTop (mkF m pn ls (.long (x.toInt64) :: st)))) : Go tb e below Q (T.setTop (mkF m pc ls (.int x :: st))) := by
  subst hp; exact hr.step fun t k => XT.i2l W.1 W.2.1 rfl (hb W.2.2 hd) rfl k
theorem l2i (W : Wk tb T m c below bs) {x : Int64} (hd : decode bs pc = .ok (.l2i, 1)) (hp : pc + 1 = pn)  (hr : Go tb e below Q (T.setTop (mkF m pn ls (.int (x.toInt32) :: st)))) : Go tb e below Q (T.setTop (mkF m pc ls (.long x :: st))) := by
  subst hp; exact hr.step fun t k => XT.l2i W.1 W.2.1 rfl (hb W.2.2 hd) rfl k
theorem i2b (W : Wk tb T m c below bs) {x : Int32} (hd : decode bs pc = .ok (.i2b, 1)) (hp : pc + 1 = pn)  (hr : Go tb e below Q (T.setTop (mkF m pn ls (.int (x.toInt8.toInt32) :: st)))) : Go tb e below Q (T.setTop (mkF m pc ls (.int x :: st))) := by
  subst hp; exact hr.step fun t k => XT.i2b W.1 W.2.1 rfl (hb W.2.2 hd) rfl k
theorem i2c (W : Wk tb T m c below bs) {x : Int32} (hd : decode bs pc = .ok (.i2c, 1)) (hp : pc + 1 = pn)  (hr : Go tb e below Q (T.setTop (mkF m pn ls (.int (x.toUInt32.toUInt16.toUInt32.toInt32) :: st)))) : Go tb e below Q (T.setTop (mkF m pc ls (.int x :: st))) := by
  subst hp; exact hr.step fun t k => XT.i2c W.1 W.2.1 rfl (hb W.2.2 hd) rfl k
theorem i2s (W : Wk tb T m c below bs) {x : Int32} (hd : decode bs pc = .ok (.i2s, 1)) (hp : pc + 1 = pn)  (hr : Go tb e below Q (T.setTop (mkF m pn ls (.int (x.toInt16.toInt32) :: st)))) : Go tb e below Q (T.setTop (mkF m pc ls (.int x :: st))) := by
  subst hp; exact hr.step fun t k => XT.i2s W.1 W.2.1 rfl (hb W.2.2 hd) rfl k
theorem ineg (W : Wk tb T m c below bs) {x : Int32} (hd : decode bs pc = .ok (.ineg, 1)) (hp : pc + 1 = pn)  (hr : Go tb e below Q (T.setTop (mkF m pn ls (.int (-x) :: st)))) : Go tb e below Q (T.setTop (mkF m pc ls (.int x :: st))) := by
  subst hp; exact hr.step fun t k => XS.ineg W.1 W.2.1 rfl (hb W.2.2 hd) rfl k
theorem lneg (W : Wk tb T m c below bs) {x : Int64} (hd : decode bs pc = .ok (.lneg, 1)) (hp : pc + 1 = pn)  (hr : Go tb e below Q (T.setTop (mkF m pn ls (.long (-x) :: st)))) : Go tb e below Q (T.setTop (mkF m pc ls (.long x :: st))) := by
  subst hp; exact hr.step fun t k => XT.lneg W.1 W.2.1 rfl (hb W.2.2 hd) rfl k
theorem idiv (W : Wk tb T m c below bs) {x y : Int32} (hd : decode bs pc = .ok (.idiv, 1)) (hp : pc + 1 = pn) (hy : y ≠ 0) (hr : Go tb e below Q (T.setTop (mkF m pn ls (.int (x / y) :: st)))) : Go tb e below Q (T.setTop (mkF m pc ls (.int y :: .int x :: st))) := by
  subst hp; exact hr.step fun t k => XS.idiv W.1 W.2.1 rfl (hb W.2.2 hd) rfl hy k
theorem irem (W : Wk tb T m c below bs) {x y : Int32} (hd : decode bs pc = .ok (.irem, 1)) (hp : pc + 1 = pn) (hy : y ≠ 0) (hr : Go tb e below Q (T.setTop (mkF m pn ls (.int (x - (x / y) * y) :: st)))) : Go tb e below Q (T.setTop (mkF m pc ls (.int y :: .int x :: st))) := by
  subst hp; exact hr.step fun t k => XS.irem W.1 W.2.1 rfl (hb W.2.2 hd) rfl hy k
theorem ldiv (W : Wk tb T m c below bs) {x y : Int64} (hd : decode bs pc = .ok (.ldiv, 1)) (hp : pc + 1 = pn) (hy : y ≠ 0) (hr : Go tb e below Q (T.setTop (mkF m pn ls (.long (x / y) :: st)))) : Go tb e below Q (T.setTop (mkF m pc ls (.long y :: .long x :: st))) := by
  subst hp; exact hr.step fun t k => XT.ldiv W.1 W.2.1 rfl (hb W.2.2 hd) rfl hy k
theorem lrem (W : Wk tb T m c below bs) {x y : Int64} (hd : decode bs pc = .ok (.lrem, 1)) (hp : pc + 1 = pn) (hy : y ≠ 0) (hr : Go tb e below Q (T.setTop (mkF m pn ls (.long (x - (x / y) * y) :: st)))) : Go tb e below Q (T.setTop (mkF m pc ls (.long y :: .long x :: st))) := by
  subst hp; exact hr.step fun t k => XT.lrem W.1 W.2.1 rfl (hb W.2.2 hd) rfl hy k
theorem lcmp (W : Wk tb T m c below bs) {x y : Int64} (hd : decode bs pc = .ok (.lcmp, 1)) (hp : pc + 1 = pn)  (hr : Go tb e below Q (T.setTop (mkF m pn ls (.int (XT.cmpL x y) :: st)))) : Go tb e below Q (T.setTop (mkF m pc ls (.long y :: .long x :: st))) := by
  subst hp; exact hr.step fun t k => XT.lcmp W.1 W.2.1 rfl (hb W.2.2 hd) rfl k
theorem dup (W : Wk tb T m c below bs) {x : Value} (hd : decode bs pc = .ok (.dup, 1)) (hp : pc + 1 = pn) (hc : x.category = 1) (hr : Go tb e below Q (T.setTop (mkF m pn ls (x :: x :: st)))) : Go tb e below Q (T.setTop (mkF m pc ls (x :: st))) := by
  subst hp; exact hr.step fun t k => XS.dup W.1 W.2.1 rfl (hb W.2.2 hd) rfl hc k
theorem dup2 (W : Wk tb T m c below bs) {x y : Value} (hd : decode bs pc = .ok (.dup2, 1)) (hp : pc + 1 = pn) (hc : x.category = 1) (hc' : y.category = 1) (hr : Go tb e below Q (T.setTop (mkF m pn ls (x :: y :: x :: y :: st)))) : Go tb e below Q (T.setTop (mkF m pc ls (x :: y :: st))) := by
  subst hp; exact hr.step fun t k => XT.dup2 W.1 W.2.1 rfl (hb W.2.2 hd) rfl hc hc' k
theorem pop (W : Wk tb T m c below bs) {x : Value} (hd : decode bs pc = .ok (.pop, 1)) (hp : pc + 1 = pn) (hc : x.category = 1) (hr : Go tb e below Q (T.setTop (mkF m pn ls (st)))) : Go tb e below Q (T.setTop (mkF m pc ls (x :: st))) := by
  subst hp; exact hr.step fun t k => XT.pop W.1 W.2.1 rfl (hb W.2.2 hd) rfl hc k
theorem aconstNull (W : Wk tb T m c below bs)  (hd : decode bs pc = .ok (.aconst_null, 1)) (hp : pc + 1 = pn)  (hr : Go tb e below Q (T.setTop (mkF m pn ls (.null :: st)))) : Go tb e below Q (T.setTop (mkF m pc ls (st))) := by
  subst hp; exact hr.step fun t k => XS.aconstNull W.1 W.2.1 rfl (hb W.2.2 hd)  k
theorem iconst (W : Wk tb T m c below bs) {i : Int} {v : Int32} (hd : decode bs pc = .ok (.iconst i, 1)) (hp : pc + 1 = pn) (hv : Int32.ofInt i = v) (hr : Go tb e below Q (T.setTop (mkF m pn ls (.int v :: st)))) : Go tb e below Q (T.setTop (mkF m pc ls st)) := by
  subst hp; exact hr.step fun t k => XT.iconstV W.1 W.2.1 rfl _ (hb W.2.2 hd) hv k
theorem bipush (W : Wk tb T m c below bs) {i : Int} {v : Int32} (hd : decode bs pc = .ok (.bipush i, 2)) (hp : pc + 2 = pn) (hv : (Int8.ofInt i).toInt32 = v) (hr : Go tb e below Q (T.setTop (mkF m pn ls (.int v :: st)))) : Go tb e below Q (T.setTop (mkF m pc ls st)) := by
  subst hp; exact hr.step fun t k => XT.bipushV W.1 W.2.1 rfl _ (hb W.2.2 hd) hv k
theorem sipush (W : Wk tb T m c below bs) {i : Int} {v : Int32} (hd : decode bs pc = .ok (.sipush i, 3)) (hp : pc + 3 = pn) (hv : (Int16.ofInt i).toInt32 = v) (hr : Go tb e below Q (T.setTop (mkF m pn ls (.int v :: st)))) : Go tb e below Q (T.setTop (mkF m pc ls st)) := by
  subst hp; exact hr.step fun t k => XT.sipushV W.1 W.2.1 rfl _ (hb W.2.2 hd) hv k
theorem lconst (W : Wk tb T m c below bs) {i : Fin 2} {v : Int64} (hd : decode bs pc = .ok (.lconst i, 1)) (hp : pc + 1 = pn) (hv : Int64.ofNat i = v) (hr : Go tb e below Q (T.setTop (mkF m pn ls (.long v :: st)))) : Go tb e below Q (T.setTop (mkF m pc ls st)) := by
  subst hp; exact hr.step fun t k => XT.lconstV W.1 W.2.1 rfl _ (hb W.2.2 hd) hv k
theorem iinc (W : Wk tb T m c below bs) {k : Nat} {cst : Int} {x v : Int32} (hd : decode bs pc = .ok (.iinc k cst, 3)) (hp : pc + 3 = pn) (hv : Int32.ofInt cst = v) (hl : ls[k]? = some (.val (.int x))) (hl' : storeLocals ls k (.int (x + v)) = some l') (hr : Go tb e below Q (T.setTop (mkF m pn l' st))) : Go tb e below Q (T.setTop (mkF m pc ls st)) := by
  subst hp; exact hr.step fun t k => XT.iincV W.1 W.2.1 rfl _ (hb W.2.2 hd) hv hl hl' k
theorem goto (W : Wk tb T m c below bs) {o : Int} (hd : decode bs pc = .ok (.goto o, 3)) (ho : 0 ≤ (pc : Int) + o) (ht : ((pc : Int) + o).toNat = pt) (hr : Go tb e below Q (T.setTop (mkF m pt ls st))) : Go tb e below Q (T.setTop (mkF m pc ls st)) := by
  exact hr.step fun t k => XS.goto W.1 W.2.1 rfl (pc0 := pc) (pc' := pt) rfl (hb W.2.2 hd) ho ht k
theorem icmp_eq (W : Wk tb T m c below bs) {x y : Int32} {o : Int} (hd : decode bs pc = .ok (.if_icmp .eq o, 3)) (hp : pc + 3 = pn) (ho : 0 ≤ (pc : Int) + o) (ht : ((pc : Int) + o).toNat = pt) (h1 : x = y → Go tb e below Q (T.setTop (mkF m pt ls st))) (h2 : ¬ (x = y) → Go tb e below Q (T.setTop (mkF m pn ls st))) : Go tb e below Q (T.setTop (mkF m pc ls (.int y :: .int x :: st))) := by
  subst hp
  by_cases h : x = y
  · exact (h1 h).step fun t k => XS.icmpYes W.1 W.2.1 rfl (pc0 := pc) (pc' := pt) rfl (hb W.2.2 hd) rfl (XT.ii_eq_t h) ho ht k
  · exact (h2 h).step fun t k => XS.icmpNo W.1 W.2.1 rfl (hb W.2.2 hd) rfl (XT.ii_eq_f h) k
theorem if_eq (W : Wk tb T m c below bs) {x : Int32} {o : Int} (hd : decode bs pc = .ok (.ifCond .eq o, 3)) (hp : pc + 3 = pn) (ho : 0 ≤ (pc : Int) + o) (ht : ((pc : Int) + o).toNat = pt) (h1 : x = 0 → Go tb e below Q (T.setTop (mkF m pt ls st))) (h2 : ¬ (x = 0) → Go tb e below Q (T.setTop (mkF m pn ls st))) : Go tb e below Q (T.setTop (mkF m pc ls (.int x :: st))) := by
  subst hp
  by_cases h : x = 0
  · exact (h1 h).step fun t k => XS.ifYes W.1 W.2.1 rfl (pc0 := pc) (pc' := pt) rfl (hb W.2.2 hd) rfl (XT.i0_eq_t h) ho ht k
  · exact (h2 h).step fun t k => XS.ifNo W.1 W.2.1 rfl (hb W.2.2 hd) rfl (XT.i0_eq_f h) k
theorem lif_eq (W : Wk tb T m c below bs) {x y : Int64} {o : Int} (hd : decode bs pc = .ok (.ifCond .eq o, 3)) (hp : pc + 3 = pn) (ho : 0 ≤ (pc : Int) + o) (ht : ((pc : Int) + o).toNat = pt) (h1 : x = y → Go tb e below Q (T.setTop (mkF m pt ls st))) (h2 : ¬ (x = y) → Go tb e below Q (T.setTop (mkF m pn ls st))) : Go tb e below Q (T.setTop (mkF m pc ls (.int (XT.cmpL x y) :: st))) := by
  subst hp
  by_cases h : x = y
  · exact (h1 h).step fun t k => XS.ifYes W.1 W.2.1 rfl (pc0 := pc) (pc' := pt) rfl (hb W.2.2 hd) rfl (XT.ll_eq_t h) ho ht k
  · exact (h2 h).step fun t k => XS.ifNo W.1 W.2.1 rfl (hb W.2.2 hd) rfl (XT.ll_eq_f h) k
theorem icmp_ne (W : Wk tb T m c below bs) {x y : Int32} {o : Int} (hd : decode bs pc = .ok (.if_icmp .ne o, 3)) (hp : pc + 3 = pn) (ho : 0 ≤ (pc : Int) + o) (ht : ((pc : Int) + o).toNat = pt) (h1 : x = y → Go tb e below Q (T.setTop (mkF m pn ls st))) (h2 : ¬ (x = y) → Go tb e below Q (T.setTop (mkF m pt ls st))) : Go tb e below Q (T.setTop (mkF m pc ls (.int y :: .int x :: st))) := by
  subst hp
  by_cases h : x = y
  · exact (h1 h).step fun t k => XS.icmpNo W.1 W.2.1 rfl (hb W.2.2 hd) rfl (XT.ii_ne_f h) k
  · exact (h2 h).step fun t k => XS.icmpYes W.1 W.2.1 rfl (pc0 := pc) (pc' := pt) rfl (hb W.2.2 hd) rfl (XT.ii_ne_t h) ho ht k
theorem if_ne (W : Wk tb T m c below bs) {x : Int32} {o : Int} (hd : decode bs pc = .ok (.ifCond .ne o, 3)) (hp : pc + 3 = pn) (ho : 0 ≤ (pc : Int) + o) (ht : ((pc : Int) + o).toNat = pt) (h1 : x = 0 → Go tb e below Q (T.setTop (mkF m pn ls st))) (h2 : ¬ (x = 0) → Go tb e below Q (T.setTop (mkF m pt ls st))) : Go tb e below Q (T.setTop (mkF m pc ls (.int x :: st))) := by
  subst hp
  by_cases h : x = 0
  · exact (h1 h).step fun t k => XS.ifNo W.1 W.2.1 rfl (hb W.2.2 hd) rfl (XT.i0_ne_f h) k
  · exact (h2 h).step fun t k => XS.ifYes W.1 W.2.1 rfl (pc0 := pc) (pc' := pt) rfl (hb W.2.2 hd) rfl (XT.i0_ne_t h) ho ht k
theorem lif_ne (W : Wk tb T m c below bs) {x y : Int64} {o : Int} (hd : decode bs pc = .ok (.ifCond .ne o, 3)) (hp : pc + 3 = pn) (ho : 0 ≤ (pc : Int) + o) (ht : ((pc : Int) + o).toNat = pt) (h1 : x = y → Go tb e below Q (T.setTop (mkF m pn ls st))) (h2 : ¬ (x = y) → Go tb e below Q (T.setTop (mkF m pt ls st))) : Go tb e below Q (T.setTop (mkF m pc ls (.int (XT.cmpL x y) :: st))) := by
  subst hp
  by_cases h : x = y
  · exact (h1 h).step fun t k => XS.ifNo W.1 W.2.1 rfl (hb W.2.2 hd) rfl (XT.ll_ne_f h) k
  · exact (h2 h).step fun t k => XS.ifYes W.1 W.2.1 rfl (pc0 := pc) (pc' := pt) rfl (hb W.2.2 hd) rfl (XT.ll_ne_t h) ho ht k
theorem icmp_lt (W : Wk tb T m c below bs) {x y : Int32} {o : Int} (hd : decode bs pc = .ok (.if_icmp .lt o, 3)) (hp : pc + 3 = pn) (ho : 0 ≤ (pc : Int) + o) (ht : ((pc : Int) + o).toNat = pt) (h1 : x < y → Go tb e below Q (T.setTop (mkF m pt ls st))) (h2 : ¬ (x < y) → Go tb e below Q (T.setTop (mkF m pn ls st))) : Go tb e below Q (T.setTop (mkF m pc ls (.int y :: .int x :: st))) := by
  subst hp
  by_cases h : x < y
  · exact (h1 h).step fun t k => XS.icmpYes W.1 W.2.1 rfl (pc0 := pc) (pc' := pt) rfl (hb W.2.2 hd) rfl (XT.ii_lt_t h) ho ht k
  · exact (h2 h).step fun t k => XS.icmpNo W.1 W.2.1 rfl (hb W.2.2 hd) rfl (XT.ii_lt_f h) k
theorem if_lt (W : Wk tb T m c below bs) {x : Int32} {o : Int} (hd : decode bs pc = .ok (.ifCond .lt o, 3)) (hp : pc + 3 = pn) (ho : 0 ≤ (pc : Int) + o) (ht : ((pc : Int) + o).toNat = pt) (h1 : x < 0 → Go tb e below Q (T.setTop (mkF m pt ls st))) (h2 : ¬ (x < 0) → Go tb e below Q (T.setTop (mkF m pn ls st))) : Go tb e below Q (T.setTop (mkF m pc ls (.int x :: st))) := by
  subst hp
  by_cases h : x < 0
  · exact (h1 h).step fun t k => XS.ifYes W.1 W.2.1 rfl (pc0 := pc) (pc' := pt) rfl (hb W.2.2 hd) rfl (XT.i0_lt_t h) ho ht k
  · exact (h2 h).step fun t k => XS.ifNo W.1 W.2.1 rfl (hb W.2.2 hd) rfl (XT.i0_lt_f h) k
theorem lif_lt (W : Wk tb T m c below bs) {x y : Int64} {o : Int} (hd : decode bs pc = .ok (.ifCond .lt o, 3)) (hp : pc + 3 = pn) (ho : 0 ≤ (pc : Int) + o) (ht : ((pc : Int) + o).toNat = pt) (h1 : x < y → Go tb e below Q (T.setTop (mkF m pt ls st))) (h2 : ¬ (x < y) → Go tb e below Q (T.setTop (mkF m pn ls st))) : Go tb e below Q (T.setTop (mkF m pc ls (.int (XT.cmpL x y) :: st))) := by
  subst hp
  by_cases h : x < y
  · exact (h1 h).step fun t k => XS.ifYes W.1 W.2.1 rfl (pc0 := pc) (pc' := pt) rfl (hb W.2.2 hd) rfl (XT.ll_lt_t h) ho ht k
  · exact (h2 h).step fun t k => XS.ifNo W.1 W.2.1 rfl (hb W.2.2 hd) rfl (XT.ll_lt_f h) k
theorem icmp_ge (W : Wk tb T m c below bs) {x y : Int32} {o : Int} (hd : decode bs pc = .ok (.if_icmp .ge o, 3)) (hp : pc + 3 = pn) (ho : 0 ≤ (pc : Int) + o) (ht : ((pc : Int) + o).toNat = pt) (h1 : x < y → Go tb e below Q (T.setTop (mkF m pn ls st))) (h2 : ¬ (x < y) → Go tb e below Q (T.setTop (mkF m pt ls st))) : Go tb e below Q (T.setTop (mkF m pc ls (.int y :: .int x :: st))) := by
  subst hp
  by_cases h : x < y
  · exact (h1 h).step fun t k => XS.icmpNo W.1 W.2.1 rfl (hb W.2.2 hd) rfl (XT.ii_ge_f h) k
  · exact (h2 h).step fun t k => XS.icmpYes W.1 W.2.1 rfl (pc0 := pc) (pc' := pt) rfl (hb W.2.2 hd) rfl (XT.ii_ge_t h) ho ht k
theorem if_ge (W : Wk tb T m c below bs) {x : Int32} {o : Int} (hd : decode bs pc = .ok (.ifCond .ge o, 3)) (hp : pc + 3 = pn) (ho : 0 ≤ (pc : Int) + o) (ht : ((pc : Int) + o).toNat = pt) (h1 : x < 0 → Go tb e below Q (T.setTop (mkF m pn ls st))) (h2 : ¬ (x < 0) → Go tb e below Q (T.setTop (mkF m pt ls st))) : Go tb e below Q (T.setTop (mkF m pc ls (.int x :: st))) := by
  subst hp
  by_cases h : x < 0
  · exact (h1 h).step fun t k => XS.ifNo W.1 W.2.1 rfl (hb W.2.2 hd) rfl (XT.i0_ge_f h) k
  · exact (h2 h).step fun t k => XS.ifYes W.1 W.2.1 rfl (pc0 := pc) (pc' := pt) rfl (hb W.2.2 hd) rfl (XT.i0_ge_t h) ho ht k
theorem lif_ge (W : Wk tb T m c below bs) {x y : Int64} {o : Int} (hd : decode bs pc = .ok (.ifCond .ge o, 3)) (hp : pc + 3 = pn) (ho : 0 ≤ (pc : Int) + o) (ht : ((pc : Int) + o).toNat = pt) (h1 : x < y → Go tb e below Q (T.setTop (mkF m pn ls st))) (h2 : ¬ (x < y) → Go tb e below Q (T.setTop (mkF m pt ls st))) : Go tb e below Q (T.setTop (mkF m pc ls (.int (XT.cmpL x y) :: st))) := by
  subst hp
  by_cases h : x < y
  · exact (h1 h).step fun t k => XS.ifNo W.1 W.2.1 rfl (hb W.2.2 hd) rfl (XT.ll_ge_f h) k
  · exact (h2 h).step fun t k => XS.ifYes W.1 W.2.1 rfl (pc0 := pc) (pc' := pt) rfl (hb W.2.2 hd) rfl (XT.ll_ge_t h) ho ht k
theorem icmp_gt (W : Wk tb T m c below bs) {x y : Int32} {o : Int} (hd : decode bs pc = .ok (.if_icmp .gt o, 3)) (hp : pc + 3 = pn) (ho : 0 ≤ (pc : Int) + o) (ht : ((pc : Int) + o).toNat = pt) (h1 : y < x → Go tb e below Q (T.setTop (mkF m pt ls st))) (h2 : ¬ (y < x) → Go tb e below Q (T.setTop (mkF m pn ls st))) : Go tb e below Q (T.setTop (mkF m pc ls (.int y :: .int x :: st))) := by
  subst hp
  by_cases h : y < x
  · exact (h1 h).step fun t k => XS.icmpYes W.1 W.2.1 rfl (pc0 := pc) (pc' := pt) rfl (hb W.2.2 hd) rfl (XT.ii_gt_t h) ho ht k
  · exact (h2 h).step fun t k => XS.icmpNo W.1 W.2.1 rfl (hb W.2.2 hd) rfl (XT.ii_gt_f h) k
theorem if_gt (W : Wk tb T m c below bs) {x : Int32} {o : Int} (hd : decode bs pc = .ok (.ifCond .gt o, 3)) (hp : pc + 3 = pn) (ho : 0 ≤ (pc : Int) + o) (ht : ((pc : Int) + o).toNat = pt) (h1 : 0 < x → Go tb e below Q (T.setTop (mkF m pt ls st))) (h2 : ¬ (0 < x) → Go tb e below Q (T.setTop (mkF m pn ls st))) : Go tb e below Q (T.setTop (mkF m pc ls (.int x :: st))) := by
  subst hp
  by_cases h : 0 < x
  · exact (h1 h).step fun t k => XS.ifYes W.1 W.2.1 rfl (pc0 := pc) (pc' := pt) rfl (hb W.2.2 hd) rfl (XT.i0_gt_t h) ho ht k
  · exact (h2 h).step fun t k => XS.ifNo W.1 W.2.1 rfl (hb W.2.2 hd) rfl (XT.i0_gt_f h) k
theorem lif_gt (W : Wk tb T m c below bs) {x y : Int64} {o : Int} (hd : decode bs pc = .ok (.ifCond .gt o, 3)) (hp : pc + 3 = pn) (ho : 0 ≤ (pc : Int) + o) (ht : ((pc : Int) + o).toNat = pt) (h1 : y < x → Go tb e below Q (T.setTop (mkF m pt ls st))) (h2 : ¬ (y < x) → Go tb e below Q (T.setTop (mkF m pn ls st))) : Go tb e below Q (T.setTop (mkF m pc ls (.int (XT.cmpL x y) :: st))) := by
  subst hp
  by_cases h : y < x
  · exact (h1 h).step fun t k => XS.ifYes W.1 W.2.1 rfl (pc0 := pc) (pc' := pt) rfl (hb W.2.2 hd) rfl (XT.ll_gt_t h) ho ht k
  · exact (h2 h).step fun t k => XS.ifNo W.1 W.2.1 rfl (hb W.2.2 hd) rfl (XT.ll_gt_f h) k
theorem icmp_le (W : Wk tb T m c below bs) {x y : Int32} {o : Int} (hd : decode bs pc = .ok (.if_icmp .le o, 3)) (hp : pc + 3 = pn) (ho : 0 ≤ (pc : Int) + o) (ht : ((pc : Int) + o).toNat = pt) (h1 : y < x → Go tb e below Q (T.setTop (mkF m pn ls st))) (h2 : ¬ (y < x) → Go tb e below Q (T.setTop (mkF m pt ls st))) : Go tb e below Q (T.setTop (mkF m pc ls (.int y :: .int x :: st))) := by
  subst hp
  by_cases h : y < x
  · exact (h1 h).step fun t k => XS.icmpNo W.1 W.2.1 rfl (hb W.2.2 hd) rfl (XT.ii_le_f h) k
  · exact (h2 h).step fun t k => XS.icmpYes W.1 W.2.1 rfl (pc0 := pc) (pc' := pt) rfl (hb W.2.2 hd) rfl (XT.ii_le_t h) ho ht k
theorem if_le (W : Wk tb T m c below bs) {x : Int32} {o : Int} (hd : decode bs pc = .ok (.ifCond .le o, 3)) (hp : pc + 3 = pn) (ho : 0 ≤ (pc : Int) + o) (ht : ((pc : Int) + o).toNat = pt) (h1 : 0 < x → Go tb e below Q (T.setTop (mkF m pn ls st))) (h2 : ¬ (0 < x) → Go tb e below Q (T.setTop (mkF m pt ls st))) : Go tb e below Q (T.setTop (mkF m pc ls (.int x :: st))) := by
  subst hp
  by_cases h : 0 < x
  · exact (h1 h).step fun t k => XS.ifNo W.1 W.2.1 rfl (hb W.2.2 hd) rfl (XT.i0_le_f h) k
  · exact (h2 h).step fun t k => XS.ifYes W.1 W.2.1 rfl (pc0 := pc) (pc' := pt) rfl (hb W.2.2 hd) rfl (XT.i0_le_t h) ho ht k
theorem lif_le (W : Wk tb T m c below bs) {x y : Int64} {o : Int} (hd : decode bs pc = .ok (.ifCond .le o, 3)) (hp : pc + 3 = pn) (ho : 0 ≤ (pc : Int) + o) (ht : ((pc : Int) + o).toNat = pt) (h1 : y < x → Go tb e below Q (T.setTop (mkF m pn ls st))) (h2 : ¬ (y < x) → Go tb e below Q (T.setTop (mkF m pt ls st))) : Go tb e below Q (T.setTop (mkF m pc ls (.int (XT.cmpL x y) :: st))) := by
  subst hp
  by_cases h : y < x
  · exact (h1 h).step fun t k => XS.ifNo W.1 W.2.1 rfl (hb W.2.2 hd) rfl (XT.ll_le_f h) k
  · exact (h2 h).step fun t k => XS.ifYes W.1 W.2.1 rfl (pc0 := pc) (pc' := pt) rfl (hb W.2.2 hd) rfl (XT.ll_le_t h) ho ht k
theorem ifnullY (W : Wk tb T m c below bs) {o : Int} (hd : decode bs pc = .ok (.ifnull o, 3)) (ho : 0 ≤ (pc : Int) + o) (ht : ((pc : Int) + o).toNat = pt) (hr : Go tb e below Q (T.setTop (mkF m pt ls st))) : Go tb e below Q (T.setTop (mkF m pc ls (.null :: st))) := by
  exact hr.step fun t k => XS.ifnullYes W.1 W.2.1 rfl (pc0 := pc) (pc' := pt) rfl (hb W.2.2 hd) rfl ho ht k
theorem ifnonnullY (W : Wk tb T m c below bs) {b : Addr} {o : Int} (hd : decode bs pc = .ok (.ifnonnull o, 3)) (ho : 0 ≤ (pc : Int) + o) (ht : ((pc : Int) + o).toNat = pt) (hr : Go tb e below Q (T.setTop (mkF m pt ls st))) : Go tb e below Q (T.setTop (mkF m pc ls (.ref b :: st))) := by
  exact hr.step fun t k => XT.ifnonnullYes W.1 W.2.1 rfl (pc0 := pc) (pc' := pt) rfl (hb W.2.2 hd) rfl ho ht k
theorem ifnullN (W : Wk tb T m c below bs) {b : Addr} {o : Int} (hd : decode bs pc = .ok (.ifnull o, 3)) (hp : pc + 3 = pn) (hr : Go tb e below Q (T.setTop (mkF m pn ls st))) : Go tb e below Q (T.setTop (mkF m pc ls (.ref b :: st))) := by
  subst hp; exact hr.step fun t k => XS.ifnullNo W.1 W.2.1 rfl (hb W.2.2 hd) rfl k
theorem ifnonnullN (W : Wk tb T m c below bs) {o : Int} (hd : decode bs pc = .ok (.ifnonnull o, 3)) (hp : pc + 3 = pn) (hr : Go tb e below Q (T.setTop (mkF m pn ls st))) : Go tb e below Q (T.setTop (mkF m pc ls (.null :: st))) := by
  subst hp; exact hr.step fun t k => XT.ifnonnullNo W.1 W.2.1 rfl (hb W.2.2 hd) rfl k
end Plain
section Stands
variable {p : Program} {l : Launch} {e : Env} {R : Room} {s : State} {m : MethodId} {args : Array Value} {below : List Frame} {meth : Method} {c : Code} {T : State} {locs : List Loc} {cells slots : Nat} {Z : State} {a0 : Array Value} {h0 : Heap} {bs : ByteArray} {ls : Array Slot} {st : List Value} {pc pn : Nat} {Q : Outcome → State → Prop}
/-- the end of a body that returned -/
def Qe (s : State) (rm : Room) (QX : Option Value → Heap → List Loc → Prop) (o : Outcome) (U' : State) : Prop := ∃ v L, o = .returned v ∧ QX v U'.heap L ∧ FrameEnd s o U' L rm.cells rm.slots
/-- a body's contract: called with these arguments over this heap it returns as QX says -/
def Con (l : Launch) (y : MethodName) (bs : ByteArray) (maxL : Nat) (ret : Option FieldType) (rm : Room) (Z : State) (as' : Array Value) (h0 : Heap) (QX : Option Value → Heap → List Loc → Prop) : Prop :=
  ∀ ws : List Jvm.Cond, MetFree l y (head1 (Jvm.Cond.code y bs maxL ret :: ws) rm) (fun a U => a = as' ∧ Z.Warmed39 U.vm ∧ U.heap = h0) (fun _ _ _ _ _ => True) (fun _ U o U' => ∃ v L, o = .returned v ∧ QX v U'.heap L ∧ FrameEnd U o U' L rm.cells rm.slots)
theorem Con.intro {y : MethodName} {maxL : Nat} {ret : Option FieldType} {rm : Room} {as' : Array Value} {QX : Option Value → Heap → List Loc → Prop} (hpn : plainFor y = true)
    (body : ∀ (p : Program) (e : Env) (s : State) (m : MethodId) (below : List Frame) (meth : Method) (c : Code) (T : State), Stand p l e rm s m as' below meth c T [] 0 0 → p.tables.exec = Jvm.exec → c.code = bs → c.maxLocals = maxL → Z.Warmed39 s.vm → s.vm.findClass y.cls = some m.cls → meth.name = y.name → meth.sig.returnType = ret → meth.locks = false → T.heap = h0 →
      Go p.tables e below (Qe s rm QX) (T.setTop (entryFrame m as' maxL))) : Con l y bs maxL ret rm Z as' h0 QX := by
  intro ws
  refine MetFree.of_bodySF hpn hisR ?_
  intro p e s m args below meth c s₁ Bd hml0 hP hK
  obtain ⟨rfl, hZ, hh⟩ := hP
  obtain ⟨s2, o, h1, h2, h3, h4⟩ := body p e s m below meth c s₁ (Stand.of_body Bd) Bd.exec Bd.bytes hml0 hZ (findClass_of_methodNamed Bd.named) (name_of_methodNamed Bd.named Bd.method).1 Bd.returns Bd.notSynchronized (by rw [← hh, Bd.state]; rfl)
  exact ⟨s2, o, h1, h2, h3, h4⟩
/-- a body that only reckons: it returns V, writes and makes nothing -/
def PureQ (V : Value) (h0 : Heap) (v : Option Value) (h : Heap) (L : List Loc) : Prop := v = some V ∧ L = [] ∧ h = h0
theorem fin_of {QX : Option Value → Heap → List Loc → Prop} {z r : Int32} {h h' : Heap} {L : List Loc} (hr : z = r) (e : h = h') (hf : QX (some (.int r)) h' L) : QX (some (.int z)) h L := by subst hr e; exact hf
theorem fin_ofL {QX : Option Value → Heap → List Loc → Prop} {z r : Int64} {h h' : Heap} {L : List Loc} (hr : z = r) (e : h = h') (hf : QX (some (.long r)) h' L) : QX (some (.long z)) h L := by subst hr e; exact hf
def rmP (fr lo : Nat) : Room := { frames := fr, cells := 0, slots := 0, locals := lo }
theorem Go.leave {rm : Room} {QX : Option Value → Heap → List Loc → Prop} (X : Stand p l e R s m args below meth c T locs cells slots) {v : Option Value} {g : JFrame} (hv : meth.sig.returnType = none → v = none) (hlk : meth.locks = false) (hq : QX v T.heap locs) (hc : cells ≤ rm.cells) (hs : slots ≤ rm.slots)
    (hst : ∀ fs, (∀ (f : JFrame) (acts : List Action), f.method = m → f.locked = none → f.entered = [] → (doReturn e (T.setTop f) acts v).1 = T.setFrames fs) → Steps p.tables e below (T.setTop g) (T.setFrames fs)) : Go p.tables e below (Qe s rm QX) (T.setTop g) := by
  obtain ⟨fs, hr, hrun, hended, hW, hsame⟩ := X.leave (v := v) hv hlk
  exact ⟨_, _, hst fs hr, hrun, hended, _, _, rfl, hq, ⟨_, rfl⟩, hW, hsame.mono hc hs⟩
theorem ireturn {rm : Room} {QX : Option Value → Heap → List Loc → Prop} (X : Stand p l e R s m args below meth c T locs cells slots) (hx : p.tables.exec = Jvm.exec) (hby : c.code = bs) {w : Int32} {t : FieldType} (hret : meth.sig.returnType = some t) (hlk : meth.locks = false) (hn : narrow t (.int w) = .int w) (hti : t = .int ∨ t = .boolean ∨ t = .byte ∨ t = .char ∨ t = .short)
    (hd : decode bs pc = .ok (.ireturn, 1)) (hq : QX (some (.int w)) T.heap locs) (hc : cells ≤ rm.cells) (hs : slots ≤ rm.slots) : Go p.tables e below (Qe s rm QX) (T.setTop (mkF m pc ls [.int w])) :=
  Go.leave X (fun h => by rw [hret] at h; cases h) hlk hq hc hs fun fs hr => X.ireturnOut hx hret hn hti (hb hby hd) hr
theorem lreturn {rm : Room} {QX : Option Value → Heap → List Loc → Prop} (X : Stand p l e R s m args below meth c T locs cells slots) (hx : p.tables.exec = Jvm.exec) (hby : c.code = bs) {w : Int64} (hret : meth.sig.returnType = some .long) (hlk : meth.locks = false)
    (hd : decode bs pc = .ok (.lreturn, 1)) (hq : QX (some (.long w)) T.heap locs) (hc : cells ≤ rm.cells) (hs : slots ≤ rm.slots) : Go p.tables e below (Qe s rm QX) (T.setTop (mkF m pc ls [.long w])) :=
  Go.leave X (fun h => by rw [hret] at h; cases h) hlk hq hc hs fun fs hr => X.lreturnOut hx hret (hb hby hd) hr
theorem areturn {rm : Room} {QX : Option Value → Heap → List Loc → Prop} (X : Stand p l e R s m args below meth c T locs cells slots) (hx : p.tables.exec = Jvm.exec) (hby : c.code = bs) {w : Value} {t : FieldType} (hret : meth.sig.returnType = some t) (hlk : meth.locks = false) (hw : w.isRef = true) (ht : t.isReference = true)
    (hd : decode bs pc = .ok (.areturn, 1)) (hq : QX (some w) T.heap locs) (hc : cells ≤ rm.cells) (hs : slots ≤ rm.slots) : Go p.tables e below (Qe s rm QX) (T.setTop (mkF m pc ls [w])) :=
  Go.leave X (fun h => by rw [hret] at h; cases h) hlk hq hc hs fun fs hr => X.areturnOut hx hw hret ht (hb hby hd) hr
theorem returnV {rm : Room} {QX : Option Value → Heap → List Loc → Prop} (X : Stand p l e R s m args below meth c T locs cells slots) (hx : p.tables.exec = Jvm.exec) (hby : c.code = bs) (hret : meth.sig.returnType = none) (hlk : meth.locks = false)
    (hd : decode bs pc = .ok (.return_, 1)) (hq : QX none T.heap locs) (hc : cells ≤ rm.cells) (hs : slots ≤ rm.slots) : Go p.tables e below (Qe s rm QX) (T.setTop (mkF m pc ls [])) :=
  Go.leave X (fun _ => rfl) hlk hq hc hs fun fs hr => X.returnOut hx hret (hb hby hd) hr
theorem ldcI (X : Stand p l e R s m args below meth c T locs cells slots) (hx : p.tables.exec = Jvm.exec) (hby : c.code = bs) (hZ : Z.Warmed39 s.vm) {own : String} {index : Nat} {v : Int32} (hown : s.vm.findClass own = some m.cls) (w : (Jvm.Cond.constant own index v).before a0 Z = true) (hd : decode bs pc = .ok (.ldc index, 2)) (hp : pc + 2 = pn)
    (hr : Go p.tables e below Q (T.setTop (mkF m pn ls (.int v :: st)))) : Go p.tables e below Q (T.setTop (mkF m pc ls st)) := by
  subst hp; exact hr.step fun t k => X.ldcI hx hown (mvT hZ w) rfl (hb hby hd) k
theorem ldc2J (X : Stand p l e R s m args below meth c T locs cells slots) (hx : p.tables.exec = Jvm.exec) (hby : c.code = bs) (hZ : Z.Warmed39 s.vm) {own : String} {index : Nat} {v : Int64} (hown : s.vm.findClass own = some m.cls) (w : (Jvm.Cond.constantLong own index v).before a0 Z = true) (hd : decode bs pc = .ok (.ldc2_w index, 3)) (hp : pc + 3 = pn)
    (hr : Go p.tables e below Q (T.setTop (mkF m pn ls (.long v :: st)))) : Go p.tables e below Q (T.setTop (mkF m pc ls st)) := by
  subst hp; exact hr.step fun t k => X.ldc2J hx hown (mvT hZ w) rfl (hb hby hd) k
/-- a static call by its contract -/
theorem callS (X : Stand p l e R s m args below meth c T locs cells slots) (hx : p.tables.exec = Jvm.exec) (hby : c.code = bs) (hZ : Z.Warmed39 s.vm) {own : String} (hown : s.vm.findClass own = some m.cls) {index : Nat} {y : MethodName} {ybs : ByteArray} {yl : Nat} {yret : Option FieldType} {rm : Room} {argsL rest : List Value} {QX : Option Value → Heap → List Loc → Prop}
    (w1 : (Jvm.Cond.methodLink own index y).before a0 Z = true) (w2 : (Jvm.Cond.static y).before a0 Z = true) (w3 : (Jvm.Cond.initialized y.cls).before a0 Z = true) (w4 : (Jvm.Cond.code y ybs yl yret).before a0 Z = true) (hy : y.cls ≠ "java/lang/invoke/MethodHandle" ∧ y.cls ≠ "java/lang/invoke/VarHandle")
    (K : Con l y ybs yl yret rm Z argsL.toArray T.heap QX) (hf : rm.frames + 1 ≤ R.frames) (hl : (rest.map fun v => v.category).sum + (yl + 11) + rm.locals ≤ R.locals) (hcl : cells + rm.cells ≤ R.cells) (hsl : slots + rm.slots ≤ R.slots)
    (hlen : ∀ sig, parseMethodDescriptor y.desc = some sig → argsL.length = sig.parameters.length) (hsize : ls.size = c.maxLocals) (hst : st = argsL.reverse ++ rest) (hd : decode bs pc = .ok (.invokestatic index, 3)) (hp : pc + 3 = pn)
    (hr : ∀ (v : Option Value) (T' : State) (L : List Loc), QX v T'.heap L → Stand p l e R s m args below meth c T' (locs ++ L) (cells + rm.cells) (slots + rm.slots) → Go p.tables e below Q (T'.setTop (mkF m pn ls (v.toList ++ rest)))) : Go p.tables e below Q (T.setTop (mkF m pc ls st)) := by
  subst hp
  obtain ⟨v, _, ⟨T2, L2, k2, n2⟩, -, X2, ⟨Lc2, hQ2, l2, y2, z2⟩, st2⟩ := Jvm.LawKit.callS X hx (y := y) hown (mvT hZ w1) (mvT hZ w2) (mvT hZ w3) (mvT hZ w4) hy (backOf (W := (rest.map fun v => v.category).sum) (K []) hZ w4 w3 hf hl) (g := mkF m pc ls st) rfl hsize (argsL := argsL) (rest := rest) hlen hst (by show 2 * 0 + _ ≤ _; omega) (hb hby hd) (fun _ _ => ⟨rfl, rfl, hcl, hsl⟩)
  dsimp only [Pt.U, Pt.locs, Pt.cells, Pt.slots] at X2 l2 y2 z2 st2 hQ2
  subst l2 y2 z2
  exact (hr v T2 Lc2 hQ2 X2).step fun t k => st2 t k
/-- a static call of a body that only reckons -/
theorem callP (X : Stand p l e R s m args below meth c T locs cells slots) (hx : p.tables.exec = Jvm.exec) (hby : c.code = bs) (hZ : Z.Warmed39 s.vm) {own : String} (hown : s.vm.findClass own = some m.cls) {index : Nat} {y : MethodName} {ybs : ByteArray} {yl fr lo : Nat} {yret : Option FieldType} {argsL rest : List Value} {V : Value}
    (w1 : (Jvm.Cond.methodLink own index y).before a0 Z = true) (w2 : (Jvm.Cond.static y).before a0 Z = true) (w3 : (Jvm.Cond.initialized y.cls).before a0 Z = true) (w4 : (Jvm.Cond.code y ybs yl yret).before a0 Z = true) (hy : y.cls ≠ "java/lang/invoke/MethodHandle" ∧ y.cls ≠ "java/lang/invoke/VarHandle")
    (K : Con l y ybs yl yret (rmP fr lo) Z argsL.toArray T.heap (PureQ V T.heap)) (hf : fr + 1 ≤ R.frames) (hl : (rest.map fun v => v.category).sum + (yl + 11) + lo ≤ R.locals) (hcl : cells ≤ R.cells) (hsl : slots ≤ R.slots)
    (hlen : ∀ sig, parseMethodDescriptor y.desc = some sig → argsL.length = sig.parameters.length) (hsize : ls.size = c.maxLocals) (hst : st = argsL.reverse ++ rest) (hd : decode bs pc = .ok (.invokestatic index, 3)) (hp : pc + 3 = pn)
    (hr : ∀ (T' : State), Stand p l e R s m args below meth c T' locs cells slots → T'.heap = T.heap → Go p.tables e below Q (T'.setTop (mkF m pn ls (V :: rest)))) : Go p.tables e below Q (T.setTop (mkF m pc ls st)) := by
  refine callS X hx hby hZ hown w1 w2 w3 w4 hy K hf hl hcl hsl hlen hsize hst hd hp ?_
  intro v T' L hQ X'
  obtain ⟨rfl, rfl, eh⟩ := hQ
  exact hr T' (by simpa [rmP] using X') eh
end Stands
end Jvm.OwnGo
namespace Jvm.OwnGo
open Jvm Jvm.ClassFile Sem Op Lib Jvm.Free Jvm.Stand Jvm.LawKit Jvm.RoadKit
section Arrays
variable {p : Program} {l : Launch} {e : Env} {R : Room} {s : State} {m : MethodId} {args : Array Value} {below : List Frame} {meth : Method} {c : Code} {T : State} {locs : List Loc} {cells slots : Nat} {Z : State} {a0 : Array Value} {h h' : Heap} {bs : ByteArray} {ls : Array Slot} {st : List Value} {pc pn : Nat} {Q : Outcome → State → Prop} {a b : Addr} {ty : FieldType} {xs : List Int32} {ws : List Addr}
def Ia (Z : State) (h : Heap) (a : Addr) (ty : FieldType) (xs : List Int32) : Prop := ∃ cl : Cell, Arr Z h a cl ty ∧ cl.slots.toList = xs.map Value.int
theorem Ia.lt (F : Ia Z h a ty xs) : a < h.size := by obtain ⟨cl, A, -⟩ := F; exact A.lt
theorem Ia.ext (F : Ia Z h a ty xs) (E : Ext h h') : Ia Z h' a ty xs := by obtain ⟨cl, A, r⟩ := F; exact ⟨cl, A.ext E, r⟩
theorem Ia.other {sl : Nat} {v : Value} (F : Ia Z h b ty xs) (W : Wr h h' a sl v) (q : b ≠ a) : Ia Z h' b ty xs := by obtain ⟨cl, A, r⟩ := F; exact ⟨cl, A.other W q, r⟩
theorem Ia.keep (F : Ia Z h a ty xs) (K : Keep h h' ws) (q : a ∉ ws) : Ia Z h' a ty xs := by obtain ⟨cl, A, r⟩ := F; exact ⟨cl, ⟨K.2.1 a cl A.1 q, A.2⟩, r⟩
theorem Ia.size {cl : Cell} (r : cl.slots.toList = xs.map Value.int) : cl.slots.size = xs.length := by
  have := congrArg List.length r
  simpa using this
theorem Ia.get {cl : Cell} (r : cl.slots.toList = xs.map Value.int) (k : Nat) : cl.slots[k]? = (xs[k]?).map Value.int := by
  rw [← Array.getElem?_toList, r, List.getElem?_map]
theorem getD_of {k : Nat} (h : k < xs.length) : xs[k]? = some (xs.getD k 0) := by
  simp [List.getD, List.getElem?_eq_getElem h]
theorem getD_set {k j : Nat} {v : Int32} (h : j < xs.length) : (xs.set j v).getD k 0 = if k = j then v else xs.getD k 0 := by
  simp only [List.getD, List.getElem?_set]
  by_cases q : j = k
  · subst q; simp [h]
  · simp [q, Ne.symm q]
theorem getD_rep {k n : Nat} : (List.replicate n (0 : Int32)).getD k 0 = 0 := by
  simp only [List.getD, List.getElem?_replicate]
  split <;> rfl
theorem Ia.set {sl : Nat} {v : Int32} (F : Ia Z h a ty xs) (W : Wr h h' a sl (.int v)) : Ia Z h' a ty (xs.set sl v) := by
  obtain ⟨cl, A, r⟩ := F
  refine ⟨_, A.same W, ?_⟩
  show (cl.slots.setIfInBounds sl (.int v)).toList = _
  rw [Array.toList_setIfInBounds, r, List.map_set]
theorem Ia.new {k : ClassId} {z : Int32} (A : Arr Z h a (newA k ty z) ty) (hd : defaultValue ty = .int 0) : Ia Z h a ty (List.replicate z.toNatClampNeg 0) := by
  refine ⟨_, A, ?_⟩
  simp [newA, hd]
theorem Ia.inb {cl : Cell} {j : Int32} {v : Int32} (r : cl.slots.toList = xs.map Value.int) (hj : ¬ j < 0) (hv : xs[j.toNatClampNeg]? = some v) : ¬ (j < 0 ∨ cl.slots.size ≤ j.toNatClampNeg) := by
  rintro (q | q)
  · exact hj q
  · rw [Ia.size r] at q
    have := (List.getElem?_eq_some_iff.mp hv).1
    omega
theorem Ia.inbL {cl : Cell} {j : Int32} (r : cl.slots.toList = xs.map Value.int) (hj : ¬ j < 0) (hv : j.toNatClampNeg < xs.length) : ¬ (j < 0 ∨ cl.slots.size ≤ j.toNatClampNeg) := by
  rintro (q | q)
  · exact hj q
  · rw [Ia.size r] at q; omega
theorem iaload (X : Stand p l e R s m args below meth c T locs cells slots) (hx : p.tables.exec = Jvm.exec) (hby : c.code = bs) (hZ : Z.Warmed39 s.vm) (A : Ia Z T.heap a .int xs) {j v : Int32} (hj : ¬ j < 0) (hv : xs[j.toNatClampNeg]? = some v) (hd : decode bs pc = .ok (.iaload, 1)) (hp : pc + 1 = pn)
    (hr : Go p.tables e below Q (T.setTop (mkF m pn ls (.int v :: st)))) : Go p.tables e below Q (T.setTop (mkF m pc ls (.int j :: .ref a :: st))) := by
  subst hp
  obtain ⟨cl, Ar, r⟩ := A
  exact hr.step fun t k => X.iaload hx (j := j) (v := .int v) Ar.1 (State.isArrayOf_alike hZ.alike Ar.2.1) Ar.2.2 (Ia.inb r hj hv) (by rw [Ia.get r, hv]; rfl) (g := mkF m pc ls (.int j :: .ref a :: st)) rfl rfl (hb hby hd) t k
theorem baloadB (X : Stand p l e R s m args below meth c T locs cells slots) (hx : p.tables.exec = Jvm.exec) (hby : c.code = bs) (hZ : Z.Warmed39 s.vm) (A : Ia Z T.heap a .byte xs) {j v : Int32} (hj : ¬ j < 0) (hv : xs[j.toNatClampNeg]? = some v) (hd : decode bs pc = .ok (.baload, 1)) (hp : pc + 1 = pn)
    (hr : Go p.tables e below Q (T.setTop (mkF m pn ls (.int v :: st)))) : Go p.tables e below Q (T.setTop (mkF m pc ls (.int j :: .ref a :: st))) := by
  subst hp
  obtain ⟨cl, Ar, r⟩ := A
  exact hr.step fun t k => X.baloadBytes hx (j := j) (v := .int v) Ar.1 (State.isArrayOf_alike hZ.alike Ar.2.1) Ar.2.2 (Ia.inb r hj hv) (by rw [Ia.get r, hv]; rfl) (g := mkF m pc ls (.int j :: .ref a :: st)) rfl rfl (hb hby hd) t k
theorem baloadZ (X : Stand p l e R s m args below meth c T locs cells slots) (hx : p.tables.exec = Jvm.exec) (hby : c.code = bs) (hZ : Z.Warmed39 s.vm) (A : Ia Z T.heap a .boolean xs) {j v : Int32} (hj : ¬ j < 0) (hv : xs[j.toNatClampNeg]? = some v) (hd : decode bs pc = .ok (.baload, 1)) (hp : pc + 1 = pn)
    (hr : Go p.tables e below Q (T.setTop (mkF m pn ls (.int v :: st)))) : Go p.tables e below Q (T.setTop (mkF m pc ls (.int j :: .ref a :: st))) := by
  subst hp
  obtain ⟨cl, Ar, r⟩ := A
  exact hr.step fun t k => X.baloadBooleans hx (j := j) (v := .int v) Ar.1 (State.isArrayOf_alike hZ.alike Ar.2.1) Ar.2.2 (Ia.inb r hj hv) (by rw [Ia.get r, hv]; rfl) (g := mkF m pc ls (.int j :: .ref a :: st)) rfl rfl (hb hby hd) t k
theorem caload (X : Stand p l e R s m args below meth c T locs cells slots) (hx : p.tables.exec = Jvm.exec) (hby : c.code = bs) (hZ : Z.Warmed39 s.vm) (A : Ia Z T.heap a .char xs) {j v : Int32} (hj : ¬ j < 0) (hv : xs[j.toNatClampNeg]? = some v) (hd : decode bs pc = .ok (.caload, 1)) (hp : pc + 1 = pn)
    (hr : Go p.tables e below Q (T.setTop (mkF m pn ls (.int v :: st)))) : Go p.tables e below Q (T.setTop (mkF m pc ls (.int j :: .ref a :: st))) := by
  subst hp
  obtain ⟨cl, Ar, r⟩ := A
  exact hr.step fun t k => X.caload hx (j := j) (v := .int v) Ar.1 (State.isArrayOf_alike hZ.alike Ar.2.1) Ar.2.2 (Ia.inb r hj hv) (by rw [Ia.get r, hv]; rfl) (g := mkF m pc ls (.int j :: .ref a :: st)) rfl rfl (hb hby hd) t k
theorem iastore (X : Stand p l e R s m args below meth c T locs cells slots) (hx : p.tables.exec = Jvm.exec) (hby : c.code = bs) (hZ : Z.Warmed39 s.vm) (A : Ia Z T.heap a .int xs) {j x : Int32} (hj : ¬ j < 0) (hlt : j.toNatClampNeg < xs.length) {n0 : Nat} (hn : n0 ≤ a) (N : Fr n0 locs) (hd : decode bs pc = .ok (.iastore, 1)) (hp : pc + 1 = pn)
    (hr : ∀ (T' : State) (locs' : List Loc), Stand p l e R s m args below meth c T' locs' cells slots → Fr n0 locs' → Ia Z T'.heap a .int (xs.set j.toNatClampNeg (x)) → Wr T.heap T'.heap a j.toNatClampNeg (.int (x)) → Go p.tables e below Q (T'.setTop (mkF m pn ls st))) : Go p.tables e below Q (T.setTop (mkF m pc ls (.int x :: .int j :: .ref a :: st))) := by
  subst hp
  have A' := A
  obtain ⟨cl, Ar, r⟩ := A
  obtain ⟨T', h', X', e', W', st'⟩ := stI X hx hZ rfl Ar (j := j) (x := x) (Ia.inbL r hj hlt) (g := mkF m pc ls (.int x :: .int j :: .ref a :: st)) rfl rfl (hb hby hd)
  subst e'
  exact (hr T' _ X' (Fr.snoc X' N hn) (A'.set W') W').step fun t k => st' t k
theorem bastoreB (X : Stand p l e R s m args below meth c T locs cells slots) (hx : p.tables.exec = Jvm.exec) (hby : c.code = bs) (hZ : Z.Warmed39 s.vm) (A : Ia Z T.heap a .byte xs) {j x : Int32} (hj : ¬ j < 0) (hlt : j.toNatClampNeg < xs.length) {n0 : Nat} (hn : n0 ≤ a) (N : Fr n0 locs) (hd : decode bs pc = .ok (.bastore, 1)) (hp : pc + 1 = pn)
    (hr : ∀ (T' : State) (locs' : List Loc), Stand p l e R s m args below meth c T' locs' cells slots → Fr n0 locs' → Ia Z T'.heap a .byte (xs.set j.toNatClampNeg (nar .byte x)) → Wr T.heap T'.heap a j.toNatClampNeg (.int (nar .byte x)) → Go p.tables e below Q (T'.setTop (mkF m pn ls st))) : Go p.tables e below Q (T.setTop (mkF m pc ls (.int x :: .int j :: .ref a :: st))) := by
  subst hp
  have A' := A
  obtain ⟨cl, Ar, r⟩ := A
  obtain ⟨T', h', X', e', W', st'⟩ := stB X hx hZ rfl Ar (j := j) (x := x) (Ia.inbL r hj hlt) (g := mkF m pc ls (.int x :: .int j :: .ref a :: st)) rfl rfl (hb hby hd)
  subst e'
  exact (hr T' _ X' (Fr.snoc X' N hn) (A'.set W') W').step fun t k => st' t k
theorem castore (X : Stand p l e R s m args below meth c T locs cells slots) (hx : p.tables.exec = Jvm.exec) (hby : c.code = bs) (hZ : Z.Warmed39 s.vm) (A : Ia Z T.heap a .char xs) {j x : Int32} (hj : ¬ j < 0) (hlt : j.toNatClampNeg < xs.length) {n0 : Nat} (hn : n0 ≤ a) (N : Fr n0 locs) (hd : decode bs pc = .ok (.castore, 1)) (hp : pc + 1 = pn)
    (hr : ∀ (T' : State) (locs' : List Loc), Stand p l e R s m args below meth c T' locs' cells slots → Fr n0 locs' → Ia Z T'.heap a .char (xs.set j.toNatClampNeg (nar .char x)) → Wr T.heap T'.heap a j.toNatClampNeg (.int (nar .char x)) → Go p.tables e below Q (T'.setTop (mkF m pn ls st))) : Go p.tables e below Q (T.setTop (mkF m pc ls (.int x :: .int j :: .ref a :: st))) := by
  subst hp
  have A' := A
  obtain ⟨cl, Ar, r⟩ := A
  obtain ⟨T', h', X', e', W', st'⟩ := stC X hx hZ rfl Ar (j := j) (x := x) (Ia.inbL r hj hlt) (g := mkF m pc ls (.int x :: .int j :: .ref a :: st)) rfl rfl (hb hby hd)
  subst e'
  exact (hr T' _ X' (Fr.snoc X' N hn) (A'.set W') W').step fun t k => st' t k
theorem newarr (X : Stand p l e R s m args below meth c T locs cells slots) (hx : p.tables.exec = Jvm.exec) (hby : c.code = bs) (hZ : Z.Warmed39 s.vm) {aty : ArrayType} (w : (Jvm.Cond.arrayClass (newarray.typeOf aty)).before a0 Z = true) (hdv : defaultValue (newarray.typeOf aty) = .int 0) {n : Int32} (hn : ¬ n < 0) (cap : Nat) (hcap : n.toNatClampNeg ≤ cap) (hcb : cap * 8 ≤ 536870912) (hc : cells + 1 ≤ R.cells) (hl : slots + cap ≤ R.slots) (hd : decode bs pc = .ok (.newarray aty, 2)) (hp : pc + 2 = pn)
    (hr : ∀ (T' : State), Stand p l e R s m args below meth c T' locs (cells + 1) (slots + cap) → Ext T.heap T'.heap → Ia Z T'.heap T.heap.size (newarray.typeOf aty) (List.replicate n.toNatClampNeg 0) → Go p.tables e below Q (T'.setTop (mkF m pn ls (.ref T.heap.size :: st)))) : Go p.tables e below Q (T.setTop (mkF m pc ls (.int n :: st))) := by
  subst hp
  obtain ⟨T', h', cA, X', e', E', A', st'⟩ := newP X hx hZ w rfl (g := mkF m pc ls (.int n :: st)) rfl (hb hby hd) rfl hn hcap hcb hc hl
  subst e'
  exact (hr T' X' E' (Ia.new A' hdv)).step fun t k => st' t k
theorem arrlen (X : Stand p l e R s m args below meth c T locs cells slots) (hx : p.tables.exec = Jvm.exec) (hby : c.code = bs) (hZ : Z.Warmed39 s.vm) (A : Ia Z T.heap a ty xs) {v : Int32} (hv : xs.length.toInt32 = v) (hd : decode bs pc = .ok (.arraylength, 1)) (hp : pc + 1 = pn)
    (hr : Go p.tables e below Q (T.setTop (mkF m pn ls (.int v :: st)))) : Go p.tables e below Q (T.setTop (mkF m pc ls (.ref a :: st))) := by
  subst hp
  obtain ⟨cl, Ar, r⟩ := A
  subst hv
  rw [← Ia.size r] at hr
  exact hr.step fun t k => X.arraylength hx Ar.1 (State.isArrayOf_alike hZ.alike Ar.2.1) (g := mkF m pc ls (.ref a :: st)) rfl rfl (hb hby hd) t k
theorem getst (X : Stand p l e R s m args below meth c T locs cells slots) (hx : p.tables.exec = Jvm.exec) (hby : c.code = bs) (hZ : Z.Warmed39 s.vm) {own C n d : String} {index : Nat} {v : Value} (hown : s.vm.findClass own = some m.cls) (w : (Jvm.Cond.fieldLink own index C n d).before a0 Z = true) (F : Sta Z T.heap C n d v) (hd : decode bs pc = .ok (.getstatic index, 3)) (hp : pc + 3 = pn)
    (hr : ∀ (T' : State), Stand p l e R s m args below meth c T' locs cells slots → T'.heap = T.heap → Go p.tables e below Q (T'.setTop (mkF m pn ls (v :: st)))) : Go p.tables e below Q (T.setTop (mkF m pc ls st)) := by
  subst hp
  obtain ⟨T', X', e', st'⟩ := getS X hx hZ hown (host := "") w Via.refl rfl F (g := mkF m pc ls st) rfl (hb hby hd)
  exact (hr T' X' e').step fun t k => st' t k
end Arrays
end Jvm.OwnGo
namespace Jvm.OwnGo
open Jvm Jvm.ClassFile Sem Op Lib Jvm.Free Jvm.Stand Jvm.LawKit Jvm.RoadKit
section Objects
variable {p : Program} {l : Launch} {e : Env} {R : Room} {s : State} {m : MethodId} {args : Array Value} {below : List Frame} {meth : Method} {c : Code} {T : State} {locs : List Loc} {cells slots : Nat} {Z : State} {a0 : Array Value} {bs : ByteArray} {ls : Array Slot} {st : List Value} {pc pn : Nat} {Q : Outcome → State → Prop} {a : Addr} {own C n d : String} {index : Nat}
theorem getf (X : Stand p l e R s m args below meth c T locs cells slots) (hx : p.tables.exec = Jvm.exec) (hby : c.code = bs) (hZ : Z.Warmed39 s.vm) (hown : s.vm.findClass own = some m.cls) {v : Value} (w : (Jvm.Cond.fieldLink own index C n d).before a0 Z = true) (F : Fld Z T.heap a C n d v) (hd : decode bs pc = .ok (.getfield index, 3)) (hp : pc + 3 = pn)
    (hr : ∀ (T' : State), Stand p l e R s m args below meth c T' locs cells slots → T'.heap = T.heap → Go p.tables e below Q (T'.setTop (mkF m pn ls (v :: st)))) : Go p.tables e below Q (T.setTop (mkF m pc ls (.ref a :: st))) := by
  subst hp
  obtain ⟨T', X', e', st'⟩ := getF X hx hZ hown (host := "") (Or.inl w) Via.refl rfl F (g := mkF m pc ls (.ref a :: st)) rfl rfl (hb hby hd)
  exact (hr T' X' e').step fun t k => st' t k
theorem putf (X : Stand p l e R s m args below meth c T locs cells slots) (hx : p.tables.exec = Jvm.exec) (hby : c.code = bs) (hZ : Z.Warmed39 s.vm) (hown : s.vm.findClass own = some m.cls) {v old : Value} {K : String} {kk n0 : Nat} {ty : FieldType} (w : (Jvm.Cond.fieldLink own index C n d).before a0 Z = true) (F : Fld Z T.heap a C n d old) (E : Exa Z T.heap a K)
    (L : (Jvm.Cond.lays K C n d).before a0 Z = true ∨ ((Jvm.Cond.laysFinal K C n d).before a0 Z = true ∧ own = C ∧ meth.name = "<init>")) (wi : (Jvm.Cond.instantiable K kk).before a0 Z = true) (hty : parseFieldDescriptor d = some ty) (hn : narrow ty v = v) (hf : fits ty v = true) (ho : n0 ≤ a) (N : Fr n0 locs) (hd : decode bs pc = .ok (.putfield index, 3)) (hp : pc + 3 = pn)
    (hr : ∀ (T' : State) (locs' : List Loc), Stand p l e R s m args below meth c T' locs' cells slots → Fr n0 locs' → Wr T.heap T'.heap a (Jvm.RoadKit.slotOf Z C n d) v → Go p.tables e below Q (T'.setTop (mkF m pn ls st))) : Go p.tables e below Q (T.setTop (mkF m pc ls (v :: .ref a :: st))) := by
  subst hp
  obtain ⟨T', h', X', e', W', st'⟩ := putF X hx hZ hown (host := "") (Or.inl w) Via.refl rfl F E L wi hty hn hf (g := mkF m pc ls (v :: .ref a :: st)) rfl rfl (hb hby hd)
  subst e'
  exact (hr T' _ X' (Fr.snoc X' N ho) W').step fun t k => st' t k
theorem newobj (X : Stand p l e R s m args below meth c T locs cells slots) (hx : p.tables.exec = Jvm.exec) (hby : c.code = bs) (hZ : Z.Warmed39 s.vm) (hown : s.vm.findClass own = some m.cls) {k : Nat} (w1 : (Jvm.Cond.classLink own index C).before a0 Z = true) (w2 : (Jvm.Cond.instantiable C k).before a0 Z = true) (w3 : (Jvm.Cond.initialized C).before a0 Z = true) (hc : cells + 1 ≤ R.cells) (hl : slots + k ≤ R.slots) (hd : decode bs pc = .ok (.new index, 3)) (hp : pc + 3 = pn)
    (hr : ∀ (T' : State), Stand p l e R s m args below meth c T' locs (cells + 1) (slots + k) → Ext T.heap T'.heap → Exa Z T'.heap T.heap.size C → (∀ {O nm d : String} {ty : FieldType}, Laid Z a0 C O nm d → parseFieldDescriptor d = some ty → Fld Z T'.heap T.heap.size O nm d (defaultValue ty)) → Go p.tables e below Q (T'.setTop (mkF m pn ls (.ref T.heap.size :: st)))) : Go p.tables e below Q (T.setTop (mkF m pc ls st)) := by
  subst hp
  obtain ⟨T', h', X', e', E', A', D', -, st'⟩ := newO X hx hZ hown w1 w2 w3 rfl (g := mkF m pc ls st) rfl (hb hby hd) hc hl
  subst e'
  exact (hr T' X' E' A' D').step fun t k => st' t k
theorem initobj (X : Stand p l e R s m args below meth c T locs cells slots) (hx : p.tables.exec = Jvm.exec) (hby : c.code = bs) (hZ : Z.Warmed39 s.vm) (hown : s.vm.findClass own = some m.cls) (w1 : (Jvm.Cond.methodLink own index Lib.objectInit).before a0 Z = true) (w2 : (Jvm.Cond.instanceMethod Lib.objectInit).before a0 Z = true) (w3 : (Jvm.Cond.code Lib.objectInit ⟨#[0xb1]⟩ 1 none).before a0 Z = true) (hsize : ls.size = c.maxLocals) (hf : 1 ≤ R.frames) (hl : (st.map fun v => v.category).sum + 12 ≤ R.locals) (hd : decode bs pc = .ok (.invokespecial index, 3)) (hp : pc + 3 = pn)
    (hr : ∀ (T' : State), Stand p l e R s m args below meth c T' locs cells slots → T'.heap = T.heap → Go p.tables e below Q (T'.setTop (mkF m pn ls st))) : Go p.tables e below Q (T.setTop (mkF m pc ls (.ref a :: st))) := by
  subst hp
  obtain ⟨T', X', e', st'⟩ := initO X hx hZ hown w1 w2 w3 rfl (g := mkF m pc ls (.ref a :: st)) rfl hsize rfl (hb hby hd) hf (W := (st.map fun v => v.category).sum) (by show 2 * 0 + _ ≤ _; omega) hl
  exact (hr T' X' e').step fun t k => st' t k
/-- a constructor by its contract -/
theorem callI (X : Stand p l e R s m args below meth c T locs cells slots) (hx : p.tables.exec = Jvm.exec) (hby : c.code = bs) (hZ : Z.Warmed39 s.vm) (hown : s.vm.findClass own = some m.cls) {y : MethodName} {ybs : ByteArray} {yl : Nat} {rm : Room} {argsL rest : List Value} {QX : Option Value → Heap → List Loc → Prop} (hy1 : y.name = "<init>")
    (w1 : (Jvm.Cond.methodLink own index y).before a0 Z = true) (w2 : (Jvm.Cond.instanceMethod y).before a0 Z = true) (w3 : (Jvm.Cond.initialized y.cls).before a0 Z = true) (w4 : (Jvm.Cond.code y ybs yl none).before a0 Z = true) (hy : y.cls ≠ "java/lang/invoke/MethodHandle" ∧ y.cls ≠ "java/lang/invoke/VarHandle")
    (K : Con l y ybs yl none rm Z (Value.ref a :: argsL).toArray T.heap QX) (hf : rm.frames + 1 ≤ R.frames) (hl : (rest.map fun v => v.category).sum + (yl + 11) + rm.locals ≤ R.locals) (hcl : cells + rm.cells ≤ R.cells) (hsl : slots + rm.slots ≤ R.slots)
    (hlen : ∀ sig, parseMethodDescriptor y.desc = some sig → argsL.length = sig.parameters.length) (hsize : ls.size = c.maxLocals) (hst : st = argsL.reverse ++ .ref a :: rest) (hd : decode bs pc = .ok (.invokespecial index, 3)) (hp : pc + 3 = pn)
    (hr : ∀ (v : Option Value) (T' : State) (L : List Loc), QX v T'.heap L → Stand p l e R s m args below meth c T' (locs ++ L) (cells + rm.cells) (slots + rm.slots) → Go p.tables e below Q (T'.setTop (mkF m pn ls (v.toList ++ rest)))) : Go p.tables e below Q (T.setTop (mkF m pc ls st)) := by
  subst hp
  obtain ⟨v, _, ⟨T2, L2, k2, n2⟩, -, X2, ⟨Lc2, hQ2, l2, y2, z2⟩, st2⟩ := X.specialBack hx (y := y) hy1 hown (mvT hZ w1) (mvT hZ w2) (mvT hZ w4) hy (backOf (W := (rest.map fun v => v.category).sum) (K []) hZ w4 w3 hf hl) (g := mkF m pc ls st) rfl hsize (Steps.refl _) (a := a) (argsL := argsL) (rest := rest) hlen hst (by show 2 * 0 + _ ≤ _; omega) (hb hby hd) (fun _ _ => ⟨rfl, rfl, hcl, hsl⟩)
  dsimp only [Pt.U, Pt.locs, Pt.cells, Pt.slots] at X2 l2 y2 z2 st2 hQ2
  subst l2 y2 z2
  exact (hr v T2 Lc2 hQ2 X2).step fun t k => st2.trans k
/-- an instance method by its contract -/
theorem callV (X : Stand p l e R s m args below meth c T locs cells slots) (hx : p.tables.exec = Jvm.exec) (hby : c.code = bs) (hZ : Z.Warmed39 s.vm) (hown : s.vm.findClass own = some m.cls) {y : MethodName} {ybs : ByteArray} {yl : Nat} {yret : Option FieldType} {rm : Room} {argsL rest : List Value} {QX : Option Value → Heap → List Loc → Prop}
    (w1 : (Jvm.Cond.methodLink own index y).before a0 Z = true) (w2 : (Jvm.Cond.declares y).before a0 Z = true) (w5 : (Jvm.Cond.selects C y y).before a0 Z = true) (w6 : (Jvm.Cond.instanceMethod y).before a0 Z = true) (w3 : (Jvm.Cond.initialized y.cls).before a0 Z = true) (w4 : (Jvm.Cond.code y ybs yl yret).before a0 Z = true) (hy : y.cls ≠ "java/lang/invoke/MethodHandle" ∧ y.cls ≠ "java/lang/invoke/VarHandle") (E : Exa Z T.heap a C)
    (K : Con l y ybs yl yret rm Z (Value.ref a :: argsL).toArray T.heap QX) (hf : rm.frames + 1 ≤ R.frames) (hl : (rest.map fun v => v.category).sum + (yl + 11) + rm.locals ≤ R.locals) (hcl : cells + rm.cells ≤ R.cells) (hsl : slots + rm.slots ≤ R.slots)
    (hlen : ∀ sig, parseMethodDescriptor y.desc = some sig → argsL.length = sig.parameters.length) (hsize : ls.size = c.maxLocals) (hst : st = argsL.reverse ++ .ref a :: rest) (hd : decode bs pc = .ok (.invokevirtual index, 3)) (hp : pc + 3 = pn)
    (hr : ∀ (v : Option Value) (T' : State) (L : List Loc), QX v T'.heap L → Stand p l e R s m args below meth c T' (locs ++ L) (cells + rm.cells) (slots + rm.slots) → Go p.tables e below Q (T'.setTop (mkF m pn ls (v.toList ++ rest)))) : Go p.tables e below Q (T.setTop (mkF m pc ls st)) := by
  subst hp
  obtain ⟨cq, kq, qa, qb, qc⟩ := isOf hZ rfl E
  obtain ⟨v, _, ⟨T2, L2, k2, n2⟩, -, X2, ⟨Lc2, hQ2, l2, y2, z2⟩, st2⟩ := X.virtualBack hx (y := y) (z := y) hown (mvT hZ w1) (mvT hZ w2) (notFace_of_selects (args := #[]) (mvT hZ w5)) (mvT hZ w5) (mvT hZ w6) hy (backOf (W := (rest.map fun v => v.category).sum) (K []) hZ w4 w3 hf hl) qa qc (g := mkF m pc ls st) rfl hsize (Steps.refl _) (argsL := argsL) (rest := rest) hlen hst (by show 2 * 0 + _ ≤ _; omega) (hb hby hd) (fun _ _ => ⟨rfl, rfl, hcl, hsl⟩)
  dsimp only [Pt.U, Pt.locs, Pt.cells, Pt.slots] at X2 l2 y2 z2 st2 hQ2
  subst l2 y2 z2
  exact (hr v T2 Lc2 hQ2 X2).step fun t k => st2.trans k
/-- an instance method that only reckons -/
theorem callVP (X : Stand p l e R s m args below meth c T locs cells slots) (hx : p.tables.exec = Jvm.exec) (hby : c.code = bs) (hZ : Z.Warmed39 s.vm) (hown : s.vm.findClass own = some m.cls) {y : MethodName} {ybs : ByteArray} {yl fr lo : Nat} {yret : Option FieldType} {argsL rest : List Value} {V : Value}
    (w1 : (Jvm.Cond.methodLink own index y).before a0 Z = true) (w2 : (Jvm.Cond.declares y).before a0 Z = true) (w5 : (Jvm.Cond.selects C y y).before a0 Z = true) (w6 : (Jvm.Cond.instanceMethod y).before a0 Z = true) (w3 : (Jvm.Cond.initialized y.cls).before a0 Z = true) (w4 : (Jvm.Cond.code y ybs yl yret).before a0 Z = true) (hy : y.cls ≠ "java/lang/invoke/MethodHandle" ∧ y.cls ≠ "java/lang/invoke/VarHandle") (E : Exa Z T.heap a C)
    (K : Con l y ybs yl yret (rmP fr lo) Z (Value.ref a :: argsL).toArray T.heap (PureQ V T.heap)) (hf : fr + 1 ≤ R.frames) (hl : (rest.map fun v => v.category).sum + (yl + 11) + lo ≤ R.locals) (hcl : cells ≤ R.cells) (hsl : slots ≤ R.slots)
    (hlen : ∀ sig, parseMethodDescriptor y.desc = some sig → argsL.length = sig.parameters.length) (hsize : ls.size = c.maxLocals) (hst : st = argsL.reverse ++ .ref a :: rest) (hd : decode bs pc = .ok (.invokevirtual index, 3)) (hp : pc + 3 = pn)
    (hr : ∀ (T' : State), Stand p l e R s m args below meth c T' locs cells slots → T'.heap = T.heap → Go p.tables e below Q (T'.setTop (mkF m pn ls (V :: rest)))) : Go p.tables e below Q (T.setTop (mkF m pc ls st)) := by
  refine callV X hx hby hZ hown w1 w2 w5 w6 w3 w4 hy E K hf hl hcl hsl hlen hsize hst hd hp ?_
  intro v T' L hQ X'
  obtain ⟨rfl, rfl, eh⟩ := hQ
  exact hr T' (by simpa [rmP] using X') eh
theorem newarrX (X : Stand p l e R s m args below meth c T locs cells slots) (hx : p.tables.exec = Jvm.exec) (hby : c.code = bs) (hZ : Z.Warmed39 s.vm) {aty : ArrayType} (w : (Jvm.Cond.arrayClass (newarray.typeOf aty)).before a0 Z = true) {n : Int32} (hn : ¬ n < 0) (cap : Nat) (hcap : n.toNatClampNeg ≤ cap) (hcb : cap * 8 ≤ 536870912) (hc : cells + 1 ≤ R.cells) (hl : slots + cap ≤ R.slots) (hd : decode bs pc = .ok (.newarray aty, 2)) (hp : pc + 2 = pn)
    (hr : ∀ (T' : State), Stand p l e R s m args below meth c T' locs (cells + 1) (slots + cap) → Ext T.heap T'.heap → Go p.tables e below Q (T'.setTop (mkF m pn ls (.ref T.heap.size :: st)))) : Go p.tables e below Q (T.setTop (mkF m pc ls (.int n :: st))) := by
  subst hp
  obtain ⟨T', h', cA, X', e', E', -, st'⟩ := newP X hx hZ w rfl (g := mkF m pc ls (.int n :: st)) rfl (hb hby hd) rfl hn hcap hcb hc hl
  subst e'
  exact (hr T' X' E').step fun t k => st' t k
end Objects
end Jvm.OwnGo
namespace Jvm.Pilot.@@N@@
open Jvm Jvm.ClassFile Sem Op Lib Jvm.Free Jvm.Stand Jvm.LawKit Jvm.RoadKit Bundle Jvm.Pilot.@@N@@.Jvm.D
theorem pd_0 : parseMethodDescriptor "(ILcom/example/quire/quire/document/FieldType;Lcom/example/quire/quire/values/NumericEncoding;J[JI[I[I[J)V" = some ⟨[.int, (.object "com/example/quire/quire/document/FieldType"), (.object "com/example/quire/quire/values/NumericEncoding"), .long, (.array .long), .int, (.array .int), (.array .int), (.array .long)], none⟩ := by decide +kernel
theorem pd_1 : parseMethodDescriptor "()V" = some ⟨[], none⟩ := by decide +kernel
theorem pd_2 : parseMethodDescriptor "()I" = some ⟨[], some .int⟩ := by decide +kernel
theorem pd_3 : parseMethodDescriptor "(I)I" = some ⟨[.int], some .int⟩ := by decide +kernel
theorem pd_4 : parseMethodDescriptor "(II)I" = some ⟨[.int, .int], some .int⟩ := by decide +kernel
theorem pd_5 : parseMethodDescriptor "(III)I" = some ⟨[.int, .int, .int], some .int⟩ := by decide +kernel
theorem pd_6 : parseMethodDescriptor "(IIIIII)Z" = some ⟨[.int, .int, .int, .int, .int, .int], some .boolean⟩ := by decide +kernel
theorem pf_0 : parseFieldDescriptor "I" = some .int := by decide +kernel
theorem pf_1 : parseFieldDescriptor "Lcom/example/quire/quire/document/FieldType;" = some (.object "com/example/quire/quire/document/FieldType") := by decide +kernel
theorem pf_2 : parseFieldDescriptor "Lcom/example/quire/quire/values/NumericEncoding;" = some (.object "com/example/quire/quire/values/NumericEncoding") := by decide +kernel
theorem pf_3 : parseFieldDescriptor "J" = some .long := by decide +kernel
theorem pf_4 : parseFieldDescriptor "[J" = some (.array .long) := by decide +kernel
theorem pf_6 : parseFieldDescriptor "[I" = some (.array .int) := by decide +kernel
def own_min (p0 : Int32) (p1 : Int32) : Int32 := (if p1 < p0 then p1 else p0)
theorem d7_0 : decode jdk_29_method_69_code 0 = .ok (.iload_n 0, 1) := by decide +kernel
theorem d7_1 : decode jdk_29_method_69_code 1 = .ok (.iload_n 1, 1) := by decide +kernel
theorem d7_2 : decode jdk_29_method_69_code 2 = .ok (.if_icmp .gt 7, 3) := by decide +kernel
theorem d7_5 : decode jdk_29_method_69_code 5 = .ok (.iload_n 0, 1) := by decide +kernel
theorem d7_6 : decode jdk_29_method_69_code 6 = .ok (.goto 4, 3) := by decide +kernel
theorem d7_9 : decode jdk_29_method_69_code 9 = .ok (.iload_n 1, 1) := by decide +kernel
theorem d7_10 : decode jdk_29_method_69_code 10 = .ok (.ireturn, 1) := by decide +kernel
theorem pm_0 : plainFor (⟨"java/lang/Math", "min", "(II)I"⟩ : MethodName) = true := by decide +kernel
theorem ef_7 (m : MethodId) (p0 : Int32) (p1 : Int32) : entryFrame m #[(.int p0), (.int p1)] 2 = mkF m 0 #[.val (.int p0), .val (.int p1)] [] := by first | (simp [entryFrame, mkF, argsToLocals, Value.category]; done) | rfl
set_option maxRecDepth 65536 in
set_option maxHeartbeats 40000000 in
theorem rm_own_min (l : Launch) (Z : State) (a0 : Array Value) (hw : ∀ d ∈ tables_1, d.before a0 Z = true) (p0 : Int32) (p1 : Int32) (h0 : Heap) :
    OwnGo.Con l (⟨"java/lang/Math", "min", "(II)I"⟩ : MethodName) jdk_29_method_69_code 2 (some .int) (OwnGo.rmP 0 0) Z #[(.int p0), (.int p1)] h0 (OwnGo.PureQ (.int (own_min p0 p1)) h0) := by
  refine OwnGo.Con.intro pm_0 ?_
  intro p e s m below meth c T0 X0 hx hby hml hZ hown hnm hret hlk e0
  refine OwnGo.Go.cast (ef_7 m p0 p1) ?_
  obtain ⟨r, hr⟩ : ∃ r, own_min p0 p1 = r := ⟨_, rfl⟩
  rw [hr]
  have hfin : OwnGo.PureQ (.int r) h0 (some (.int r)) h0 [] := ⟨rfl, rfl, rfl⟩
  unfold own_min at hr
  have W0 : OwnGo.Wk p.tables T0 m c below jdk_29_method_69_code := ⟨X0.here, hx, hby⟩
  refine OwnGo.iloadN W0 (pn := 1) d7_0 rfl rfl ?_
  refine OwnGo.iloadN W0 (pn := 2) d7_1 rfl rfl ?_
  refine OwnGo.icmp_gt W0 (pn := 5) (pt := 9) d7_2 rfl (by decide) (by decide) (fun h2 => ?_) (fun h2 => ?_)
  · rw [if_pos h2] at hr
    refine OwnGo.iloadN W0 (pn := 10) d7_9 rfl rfl ?_
    exact OwnGo.ireturn X0 hx hby hret hlk rfl (by simp) d7_10 (OwnGo.fin_of hr e0 hfin) (by decide) (by decide)
  · rw [if_neg h2] at hr
    refine OwnGo.iloadN W0 (pn := 6) d7_5 rfl rfl ?_
    refine OwnGo.goto W0 (pt := 10) d7_6 (by decide) (by decide) ?_
    exact OwnGo.ireturn X0 hx hby hret hlk rfl (by simp) d7_10 (OwnGo.fin_of hr e0 hfin) (by decide) (by decide)
def own_bd (p0 : Int32) (p1 : Int32) : Int32 := (own_min (4096 : Int32) (p0 - (p1 * (4096 : Int32))))
theorem d6_0 : decode prog_189_method_6_code 0 = .ok (.sipush 4096, 3) := by decide +kernel
theorem d6_3 : decode prog_189_method_6_code 3 = .ok (.iload_n 0, 1) := by decide +kernel
theorem d6_4 : decode prog_189_method_6_code 4 = .ok (.iload_n 1, 1) := by decide +kernel
theorem d6_5 : decode prog_189_method_6_code 5 = .ok (.sipush 4096, 3) := by decide +kernel
theorem d6_8 : decode prog_189_method_6_code 8 = .ok (.imul, 1) := by decide +kernel
theorem d6_9 : decode prog_189_method_6_code 9 = .ok (.isub, 1) := by decide +kernel
theorem d6_10 : decode prog_189_method_6_code 10 = .ok (.invokestatic 38, 3) := by decide +kernel
theorem d6_13 : decode prog_189_method_6_code 13 = .ok (.ireturn, 1) := by decide +kernel
theorem pn_0 : plainName "com/example/quire/quire/values/internal/ValuesFormat" = true := by first | (simp [plainName, overriddenIn]; done) | decide +kernel
theorem ef_6 (m : MethodId) (p0 : Int32) (p1 : Int32) : entryFrame m #[(.int p0), (.int p1)] 2 = mkF m 0 #[.val (.int p0), .val (.int p1)] [] := by first | (simp [entryFrame, mkF, argsToLocals, Value.category]; done) | rfl
set_option maxRecDepth 65536 in
set_option maxHeartbeats 40000000 in
theorem rm_own_bd (l : Launch) (Z : State) (a0 : Array Value) (hw : ∀ d ∈ tables_1, d.before a0 Z = true) (p0 : Int32) (p1 : Int32) (h0 : Heap) :
    OwnGo.Con l (⟨"com/example/quire/quire/values/internal/ValuesFormat", "blockDocs", "(II)I"⟩ : MethodName) prog_189_method_6_code 2 (some .int) (OwnGo.rmP 1 21) Z #[(.int p0), (.int p1)] h0 (OwnGo.PureQ (.int (own_bd p0 p1)) h0) := by
  refine OwnGo.Con.intro (plainFor_of_name pn_0) ?_
  intro p e s m below meth c T0 X0 hx hby hml hZ hown hnm hret hlk e0
  refine OwnGo.Go.cast (ef_6 m p0 p1) ?_
  obtain ⟨r, hr⟩ : ∃ r, own_bd p0 p1 = r := ⟨_, rfl⟩
  rw [hr]
  have hfin : OwnGo.PureQ (.int r) h0 (some (.int r)) h0 [] := ⟨rfl, rfl, rfl⟩
  unfold own_bd at hr
  have W0 : OwnGo.Wk p.tables T0 m c below prog_189_method_6_code := ⟨X0.here, hx, hby⟩
  refine OwnGo.sipush (v := (4096 : Int32)) W0 (pn := 3) d6_0 rfl rfl ?_
  refine OwnGo.iloadN W0 (pn := 4) d6_3 rfl rfl ?_
  refine OwnGo.iloadN W0 (pn := 5) d6_4 rfl rfl ?_
  refine OwnGo.sipush (v := (4096 : Int32)) W0 (pn := 8) d6_5 rfl rfl ?_
  refine OwnGo.imul W0 (pn := 9) d6_8 rfl ?_
  refine OwnGo.isub W0 (pn := 10) d6_9 rfl ?_
  refine OwnGo.callP X0 hx hby hZ hown (argsL := [(.int (4096 : Int32)), (.int (p0 - (p1 * (4096 : Int32))))]) (rest := []) (pn := 13) (hw _ (List.mem_of_getElem? (i := 59) rfl)) (hw _ (List.mem_of_getElem? (i := 60) rfl)) (hw _ (List.mem_of_getElem? (i := 61) rfl)) (hw _ (List.mem_of_getElem? (i := 62) rfl)) (by decide) (rm_own_min l Z a0 hw (4096 : Int32) (p0 - (p1 * (4096 : Int32))) _) (by decide) (Nat.le_of_ble_eq_true rfl) (by decide) (by decide) (lenOf pd_4 rfl) (by rw [hml]; rfl) rfl d6_10 rfl (fun T1 X1 f1 => ?_)
  have e1 := f1.trans e0
  have W1 : OwnGo.Wk p.tables T1 m c below prog_189_method_6_code := ⟨X1.here, hx, hby⟩
  exact OwnGo.ireturn X1 hx hby hret hlk rfl (by simp) d6_13 (OwnGo.fin_of hr e1 hfin) (by decide) (by decide)
def own_bml_9 : Int32 := (0 : Int32)
def own_bml (p0 : Int32) (p1 : Int32) : Int32 := (if p1 = (0 : Int32) then (own_bml_9) else (if p1 = p0 then (own_bml_9) else (((p0 + (8 : Int32)) - (1 : Int32)) / (8 : Int32))))
theorem d9_0 : decode prog_189_method_7_code 0 = .ok (.iload_n 1, 1) := by decide +kernel
theorem d9_1 : decode prog_189_method_7_code 1 = .ok (.ifCond .eq 8, 3) := by decide +kernel
theorem d9_4 : decode prog_189_method_7_code 4 = .ok (.iload_n 1, 1) := by decide +kernel
theorem d9_5 : decode prog_189_method_7_code 5 = .ok (.iload_n 0, 1) := by decide +kernel
theorem d9_6 : decode prog_189_method_7_code 6 = .ok (.if_icmp .ne 7, 3) := by decide +kernel
theorem d9_9 : decode prog_189_method_7_code 9 = .ok (.iconst 0, 1) := by decide +kernel
theorem d9_10 : decode prog_189_method_7_code 10 = .ok (.goto 12, 3) := by decide +kernel
theorem d9_13 : decode prog_189_method_7_code 13 = .ok (.iload_n 0, 1) := by decide +kernel
theorem d9_14 : decode prog_189_method_7_code 14 = .ok (.bipush 8, 2) := by decide +kernel
theorem d9_16 : decode prog_189_method_7_code 16 = .ok (.iadd, 1) := by decide +kernel
theorem d9_17 : decode prog_189_method_7_code 17 = .ok (.iconst 1, 1) := by decide +kernel
theorem d9_18 : decode prog_189_method_7_code 18 = .ok (.isub, 1) := by decide +kernel
theorem d9_19 : decode prog_189_method_7_code 19 = .ok (.bipush 8, 2) := by decide +kernel
theorem d9_21 : decode prog_189_method_7_code 21 = .ok (.idiv, 1) := by decide +kernel
theorem d9_22 : decode prog_189_method_7_code 22 = .ok (.ireturn, 1) := by decide +kernel
theorem ef_9 (m : MethodId) (p0 : Int32) (p1 : Int32) : entryFrame m #[(.int p0), (.int p1)] 2 = mkF m 0 #[.val (.int p0), .val (.int p1)] [] := by first | (simp [entryFrame, mkF, argsToLocals, Value.category]; done) | rfl
set_option maxRecDepth 65536 in
set_option maxHeartbeats 40000000 in
theorem rm_own_bml (l : Launch) (Z : State) (a0 : Array Value) (hw : ∀ d ∈ tables_1, d.before a0 Z = true) (p0 : Int32) (p1 : Int32) (h0 : Heap) :
    OwnGo.Con l (⟨"com/example/quire/quire/values/internal/ValuesFormat", "bitmapLength", "(II)I"⟩ : MethodName) prog_189_method_7_code 2 (some .int) (OwnGo.rmP 0 0) Z #[(.int p0), (.int p1)] h0 (OwnGo.PureQ (.int (own_bml p0 p1)) h0) := by
  refine OwnGo.Con.intro (plainFor_of_name pn_0) ?_
  intro p e s m below meth c T0 X0 hx hby hml hZ hown hnm hret hlk e0
  refine OwnGo.Go.cast (ef_9 m p0 p1) ?_
  obtain ⟨r, hr⟩ : ∃ r, own_bml p0 p1 = r := ⟨_, rfl⟩
  rw [hr]
  have hfin : OwnGo.PureQ (.int r) h0 (some (.int r)) h0 [] := ⟨rfl, rfl, rfl⟩
  have B9 : ∀ (T0 : State) (X0 : Stand p l e (OwnGo.rmP 0 0) s m #[(.int p0), (.int p1)] below meth c T0 [] 0 0) (e0 : T0.heap = h0), own_bml_9 = r → OwnGo.Go p.tables e below (OwnGo.Qe s (OwnGo.rmP 0 0) (OwnGo.PureQ (.int r) h0)) (T0.setTop (mkF m 9 #[.val (.int p0), .val (.int p1)] [])) := by
    intro T0 X0 e0 hr
    unfold own_bml_9 at hr
    have W0 : OwnGo.Wk p.tables T0 m c below prog_189_method_7_code := ⟨X0.here, hx, hby⟩
    refine OwnGo.iconst (v := (0 : Int32)) W0 (pn := 10) d9_9 rfl rfl ?_
    refine OwnGo.goto W0 (pt := 22) d9_10 (by decide) (by decide) ?_
    exact OwnGo.ireturn X0 hx hby hret hlk rfl (by simp) d9_22 (OwnGo.fin_of hr e0 hfin) (by decide) (by decide)
  unfold own_bml at hr
  have W0 : OwnGo.Wk p.tables T0 m c below prog_189_method_7_code := ⟨X0.here, hx, hby⟩
  refine OwnGo.iloadN W0 (pn := 1) d9_0 rfl rfl ?_
  refine OwnGo.if_eq W0 (pn := 4) (pt := 9) d9_1 rfl (by decide) (by decide) (fun h1 => ?_) (fun h1 => ?_)
  · rw [if_pos h1] at hr
    exact B9 _ X0 e0 hr
  · rw [if_neg h1] at hr
    refine OwnGo.iloadN W0 (pn := 5) d9_4 rfl rfl ?_
    refine OwnGo.iloadN W0 (pn := 6) d9_5 rfl rfl ?_
    refine OwnGo.icmp_ne W0 (pn := 9) (pt := 13) d9_6 rfl (by decide) (by decide) (fun h6 => ?_) (fun h6 => ?_)
    · rw [if_pos h6] at hr
      exact B9 _ X0 e0 hr
    · rw [if_neg h6] at hr
      refine OwnGo.iloadN W0 (pn := 14) d9_13 rfl rfl ?_
      refine OwnGo.bipush (v := (8 : Int32)) W0 (pn := 16) d9_14 rfl rfl ?_
      refine OwnGo.iadd W0 (pn := 17) d9_16 rfl ?_
      refine OwnGo.iconst (v := (1 : Int32)) W0 (pn := 18) d9_17 rfl rfl ?_
      refine OwnGo.isub W0 (pn := 19) d9_18 rfl ?_
      refine OwnGo.bipush (v := (8 : Int32)) W0 (pn := 21) d9_19 rfl rfl ?_
      refine OwnGo.idiv W0 (pn := 22) d9_21 rfl (by decide) ?_
      exact OwnGo.ireturn X0 hx hby hret hlk rfl (by simp) d9_22 (OwnGo.fin_of hr e0 hfin) (by decide) (by decide)
def own_bl (p0 : Int32) (p1 : Int32) (p2 : Int32) : Int32 := ((own_bml p0 p1) + ((((((p1.toInt64) * (p2.toInt64)) + (8 : Int64)) - (1 : Int64)) / (8 : Int64)).toInt32))
theorem d8_0 : decode prog_189_method_8_code 0 = .ok (.iload_n 0, 1) := by decide +kernel
theorem d8_1 : decode prog_189_method_8_code 1 = .ok (.iload_n 1, 1) := by decide +kernel
theorem d8_2 : decode prog_189_method_8_code 2 = .ok (.invokestatic 46, 3) := by decide +kernel
theorem d8_5 : decode prog_189_method_8_code 5 = .ok (.iload_n 1, 1) := by decide +kernel
theorem d8_6 : decode prog_189_method_8_code 6 = .ok (.i2l, 1) := by decide +kernel
theorem d8_7 : decode prog_189_method_8_code 7 = .ok (.iload_n 2, 1) := by decide +kernel
theorem d8_8 : decode prog_189_method_8_code 8 = .ok (.i2l, 1) := by decide +kernel
theorem d8_9 : decode prog_189_method_8_code 9 = .ok (.lmul, 1) := by decide +kernel
theorem d8_10 : decode prog_189_method_8_code 10 = .ok (.ldc2_w 49, 3) := by decide +kernel
theorem d8_13 : decode prog_189_method_8_code 13 = .ok (.ladd, 1) := by decide +kernel
theorem d8_14 : decode prog_189_method_8_code 14 = .ok (.lconst 1, 1) := by decide +kernel
theorem d8_15 : decode prog_189_method_8_code 15 = .ok (.lsub, 1) := by decide +kernel
theorem d8_16 : decode prog_189_method_8_code 16 = .ok (.ldc2_w 49, 3) := by decide +kernel
theorem d8_19 : decode prog_189_method_8_code 19 = .ok (.ldiv, 1) := by decide +kernel
theorem d8_20 : decode prog_189_method_8_code 20 = .ok (.l2i, 1) := by decide +kernel
theorem d8_21 : decode prog_189_method_8_code 21 = .ok (.iadd, 1) := by decide +kernel
theorem d8_22 : decode prog_189_method_8_code 22 = .ok (.ireturn, 1) := by decide +kernel
theorem ef_8 (m : MethodId) (p0 : Int32) (p1 : Int32) (p2 : Int32) : entryFrame m #[(.int p0), (.int p1), (.int p2)] 3 = mkF m 0 #[.val (.int p0), .val (.int p1), .val (.int p2)] [] := by first | (simp [entryFrame, mkF, argsToLocals, Value.category]; done) | rfl
set_option maxRecDepth 65536 in
set_option maxHeartbeats 40000000 in
theorem rm_own_bl (l : Launch) (Z : State) (a0 : Array Value) (hw : ∀ d ∈ tables_1, d.before a0 Z = true) (p0 : Int32) (p1 : Int32) (p2 : Int32) (h0 : Heap) :
    OwnGo.Con l (⟨"com/example/quire/quire/values/internal/ValuesFormat", "blockLength", "(III)I"⟩ : MethodName) prog_189_method_8_code 3 (some .int) (OwnGo.rmP 1 21) Z #[(.int p0), (.int p1), (.int p2)] h0 (OwnGo.PureQ (.int (own_bl p0 p1 p2)) h0) := by
  refine OwnGo.Con.intro (plainFor_of_name pn_0) ?_
  intro p e s m below meth c T0 X0 hx hby hml hZ hown hnm hret hlk e0
  refine OwnGo.Go.cast (ef_8 m p0 p1 p2) ?_
  obtain ⟨r, hr⟩ : ∃ r, own_bl p0 p1 p2 = r := ⟨_, rfl⟩
  rw [hr]
  have hfin : OwnGo.PureQ (.int r) h0 (some (.int r)) h0 [] := ⟨rfl, rfl, rfl⟩
  unfold own_bl at hr
  have W0 : OwnGo.Wk p.tables T0 m c below prog_189_method_8_code := ⟨X0.here, hx, hby⟩
  refine OwnGo.iloadN W0 (pn := 1) d8_0 rfl rfl ?_
  refine OwnGo.iloadN W0 (pn := 2) d8_1 rfl rfl ?_
  refine OwnGo.callP X0 hx hby hZ hown (argsL := [(.int p0), (.int p1)]) (rest := []) (pn := 5) (hw _ (List.mem_of_getElem? (i := 66) rfl)) (hw _ (List.mem_of_getElem? (i := 67) rfl)) (hw _ (List.mem_of_getElem? (i := 57) rfl)) (hw _ (List.mem_of_getElem? (i := 68) rfl)) (by decide) (rm_own_bml l Z a0 hw p0 p1 _) (by decide) (Nat.le_of_ble_eq_true rfl) (by decide) (by decide) (lenOf pd_4 rfl) (by rw [hml]; rfl) rfl d8_2 rfl (fun T1 X1 f1 => ?_)
  have e1 := f1.trans e0
  have W1 : OwnGo.Wk p.tables T1 m c below prog_189_method_8_code := ⟨X1.here, hx, hby⟩
  refine OwnGo.iloadN W1 (pn := 6) d8_5 rfl rfl ?_
  refine OwnGo.i2l W1 (pn := 7) d8_6 rfl ?_
  refine OwnGo.iloadN W1 (pn := 8) d8_7 rfl rfl ?_
  refine OwnGo.i2l W1 (pn := 9) d8_8 rfl ?_
  refine OwnGo.lmul W1 (pn := 10) d8_9 rfl ?_
  refine OwnGo.ldc2J X1 hx hby hZ hown (pn := 13) (hw _ (List.mem_of_getElem? (i := 69) rfl)) d8_10 rfl ?_
  refine OwnGo.ladd W1 (pn := 14) d8_13 rfl ?_
  refine OwnGo.lconst (v := (1 : Int64)) W1 (pn := 15) d8_14 rfl rfl ?_
  refine OwnGo.lsub W1 (pn := 16) d8_15 rfl ?_
  refine OwnGo.ldc2J X1 hx hby hZ hown (pn := 19) (hw _ (List.mem_of_getElem? (i := 69) rfl)) d8_16 rfl ?_
  refine OwnGo.ldiv W1 (pn := 20) d8_19 rfl (by decide) ?_
  refine OwnGo.l2i W1 (pn := 21) d8_20 rfl ?_
  refine OwnGo.iadd W1 (pn := 22) d8_21 rfl ?_
  exact OwnGo.ireturn X1 hx hby hret hlk rfl (by simp) d8_22 (OwnGo.fin_of hr e1 hfin) (by decide) (by decide)
def own_pc (p0 : Int32) : Int32 := (((p0 + (1024 : Int32)) - (1 : Int32)) / (1024 : Int32))
theorem d10_0 : decode prog_189_method_9_code 0 = .ok (.iload_n 0, 1) := by decide +kernel
theorem d10_1 : decode prog_189_method_9_code 1 = .ok (.sipush 1024, 3) := by decide +kernel
theorem d10_4 : decode prog_189_method_9_code 4 = .ok (.iadd, 1) := by decide +kernel
theorem d10_5 : decode prog_189_method_9_code 5 = .ok (.iconst 1, 1) := by decide +kernel
theorem d10_6 : decode prog_189_method_9_code 6 = .ok (.isub, 1) := by decide +kernel
theorem d10_7 : decode prog_189_method_9_code 7 = .ok (.sipush 1024, 3) := by decide +kernel
theorem d10_10 : decode prog_189_method_9_code 10 = .ok (.idiv, 1) := by decide +kernel
theorem d10_11 : decode prog_189_method_9_code 11 = .ok (.ireturn, 1) := by decide +kernel
theorem ef_10 (m : MethodId) (p0 : Int32) : entryFrame m #[(.int p0)] 1 = mkF m 0 #[.val (.int p0)] [] := by first | (simp [entryFrame, mkF, argsToLocals, Value.category]; done) | rfl
set_option maxRecDepth 65536 in
set_option maxHeartbeats 40000000 in
theorem rm_own_pc (l : Launch) (Z : State) (a0 : Array Value) (hw : ∀ d ∈ tables_1, d.before a0 Z = true) (p0 : Int32) (h0 : Heap) :
    OwnGo.Con l (⟨"com/example/quire/quire/values/internal/ValuesFormat", "partCount", "(I)I"⟩ : MethodName) prog_189_method_9_code 1 (some .int) (OwnGo.rmP 0 0) Z #[(.int p0)] h0 (OwnGo.PureQ (.int (own_pc p0)) h0) := by
  refine OwnGo.Con.intro (plainFor_of_name pn_0) ?_
  intro p e s m below meth c T0 X0 hx hby hml hZ hown hnm hret hlk e0
  refine OwnGo.Go.cast (ef_10 m p0) ?_
  obtain ⟨r, hr⟩ : ∃ r, own_pc p0 = r := ⟨_, rfl⟩
  rw [hr]
  have hfin : OwnGo.PureQ (.int r) h0 (some (.int r)) h0 [] := ⟨rfl, rfl, rfl⟩
  unfold own_pc at hr
  have W0 : OwnGo.Wk p.tables T0 m c below prog_189_method_9_code := ⟨X0.here, hx, hby⟩
  refine OwnGo.iloadN W0 (pn := 1) d10_0 rfl rfl ?_
  refine OwnGo.sipush (v := (1024 : Int32)) W0 (pn := 4) d10_1 rfl rfl ?_
  refine OwnGo.iadd W0 (pn := 5) d10_4 rfl ?_
  refine OwnGo.iconst (v := (1 : Int32)) W0 (pn := 6) d10_5 rfl rfl ?_
  refine OwnGo.isub W0 (pn := 7) d10_6 rfl ?_
  refine OwnGo.sipush (v := (1024 : Int32)) W0 (pn := 10) d10_7 rfl rfl ?_
  refine OwnGo.idiv W0 (pn := 11) d10_10 rfl (by decide) ?_
  exact OwnGo.ireturn X0 hx hby hret hlk rfl (by simp) d10_11 (OwnGo.fin_of hr e0 hfin) (by decide) (by decide)
theorem own_ix (i : Int32) (n : Nat) (h0 : 0 ≤ i.toInt) (h1 : i.toInt < n) : ¬ i < 0 ∧ i.toNatClampNeg < n ∧ (i.toNatClampNeg : Int) = i.toInt := by
  have e : i.toNatClampNeg = i.toInt.toNat := rfl
  refine ⟨?_, by omega, by omega⟩
  rw [Int32.lt_iff_toInt_lt]; simp only [Int32.reduceToInt]; omega
theorem own_ad (a b : Int32) (h : a.toInt + b.toInt < 2147483648) (h' : -2147483648 ≤ a.toInt + b.toInt) : (a + b).toInt = a.toInt + b.toInt := by
  have k := c_iadd a b
  have k1 := (a + b).toInt_lt
  have k2 := (a + b).le_toInt
  omega
theorem own_su (a b : Int32) (h : a.toInt - b.toInt < 2147483648) (h' : -2147483648 ≤ a.toInt - b.toInt) : (a - b).toInt = a.toInt - b.toInt := by
  have k := c_isub a b
  have k1 := (a - b).toInt_lt
  have k2 := (a - b).le_toInt
  omega
theorem pn_1 : plainName "com/example/quire/quire/values/internal/FieldLayout" = true := by first | (simp [plainName, overriddenIn]; done) | decide +kernel
theorem d5_0 : decode prog_161_method_6_code 0 = .ok (.aload_n 0, 1) := by decide +kernel
theorem d5_1 : decode prog_161_method_6_code 1 = .ok (.getfield 29, 3) := by decide +kernel
theorem d5_4 : decode prog_161_method_6_code 4 = .ok (.iload_n 1, 1) := by decide +kernel
theorem d5_5 : decode prog_161_method_6_code 5 = .ok (.invokestatic 79, 3) := by decide +kernel
theorem d5_8 : decode prog_161_method_6_code 8 = .ok (.ireturn, 1) := by decide +kernel
theorem ef_5 (m : MethodId) (o : Addr) (p1 : Int32) : entryFrame m #[(.ref o), (.int p1)] 2 = mkF m 0 #[.val (.ref o), .val (.int p1)] [] := by first | (simp [entryFrame, mkF, argsToLocals, Value.category]; done) | rfl
set_option maxRecDepth 65536 in
set_option maxHeartbeats 40000000 in
theorem rm_docs (l : Launch) (Z : State) (a0 : Array Value) (hw : ∀ d ∈ tables_1, d.before a0 Z = true) (o : Addr) (p1 : Int32) (dc : Int32) (h0 : Heap) (F : Fld Z h0 o "com/example/quire/quire/values/internal/FieldLayout" "docCount" "I" (.int dc)) :
    OwnGo.Con l (⟨"com/example/quire/quire/values/internal/FieldLayout", "docs", "(I)I"⟩ : MethodName) prog_161_method_6_code 2 (some .int) (OwnGo.rmP 2 48) Z #[(.ref o), (.int p1)] h0 (OwnGo.PureQ (.int (own_bd dc p1)) h0) := by
  refine OwnGo.Con.intro (plainFor_of_name pn_1) ?_
  intro p e s m below meth c T0 X0 hx hby hml hZ hown hnm hret hlk e0
  refine OwnGo.Go.cast (ef_5 m o p1) ?_
  have F_0 : Fld Z T0.heap o "com/example/quire/quire/values/internal/FieldLayout" "docCount" "I" (.int dc) := by rw [e0]; exact F
  have W0 : OwnGo.Wk p.tables T0 m c below prog_161_method_6_code := ⟨X0.here, hx, hby⟩
  refine OwnGo.aloadN W0 (pn := 1) d5_0 rfl rfl rfl ?_
  refine OwnGo.getf X0 hx hby hZ hown (pn := 4) (hw _ (List.mem_of_getElem? (i := 28) rfl)) F_0 d5_1 rfl (fun T1 X1 f1 => ?_)
  have F_o_docCount_1 : Fld Z T1.heap o "com/example/quire/quire/values/internal/FieldLayout" "docCount" "I" (.int dc) := by rw [f1]; exact F_0
  have W1 : OwnGo.Wk p.tables T1 m c below prog_161_method_6_code := ⟨X1.here, hx, hby⟩
  refine OwnGo.iloadN W1 (pn := 5) d5_4 rfl rfl ?_
  refine OwnGo.callP X1 hx hby hZ hown (argsL := [(.int dc), (.int p1)]) (rest := []) (pn := 8) (hw _ (List.mem_of_getElem? (i := 55) rfl)) (hw _ (List.mem_of_getElem? (i := 56) rfl)) (hw _ (List.mem_of_getElem? (i := 57) rfl)) (hw _ (List.mem_of_getElem? (i := 58) rfl)) (by decide) (rm_own_bd l Z a0 hw dc p1 _) (by decide) (Nat.le_of_ble_eq_true rfl) (by decide) (by decide) (lenOf pd_4 rfl) (by rw [hml]; rfl) rfl d5_5 rfl (fun T2 X2 f2 => ?_)
  have F_o_docCount_2 : Fld Z T2.heap o "com/example/quire/quire/values/internal/FieldLayout" "docCount" "I" (.int dc) := by rw [f2]; exact F_o_docCount_1
  have W2 : OwnGo.Wk p.tables T2 m c below prog_161_method_6_code := ⟨X2.here, hx, hby⟩
  have ee := f2.trans (f1.trans e0)
  exact OwnGo.ireturn X2 hx hby hret hlk rfl (by simp) d5_8 ⟨rfl, rfl, ee⟩ (by decide) (by decide)
theorem d4_0 : decode prog_161_method_9_code 0 = .ok (.aload_n 0, 1) := by decide +kernel
theorem d4_1 : decode prog_161_method_9_code 1 = .ok (.iload_n 1, 1) := by decide +kernel
theorem d4_2 : decode prog_161_method_9_code 2 = .ok (.invokevirtual 83, 3) := by decide +kernel
theorem d4_5 : decode prog_161_method_9_code 5 = .ok (.aload_n 0, 1) := by decide +kernel
theorem d4_6 : decode prog_161_method_9_code 6 = .ok (.getfield 32, 3) := by decide +kernel
theorem d4_9 : decode prog_161_method_9_code 9 = .ok (.iload_n 1, 1) := by decide +kernel
theorem d4_10 : decode prog_161_method_9_code 10 = .ok (.iaload, 1) := by decide +kernel
theorem d4_11 : decode prog_161_method_9_code 11 = .ok (.aload_n 0, 1) := by decide +kernel
theorem d4_12 : decode prog_161_method_9_code 12 = .ok (.getfield 36, 3) := by decide +kernel
theorem d4_15 : decode prog_161_method_9_code 15 = .ok (.iload_n 1, 1) := by decide +kernel
theorem d4_16 : decode prog_161_method_9_code 16 = .ok (.iaload, 1) := by decide +kernel
theorem d4_17 : decode prog_161_method_9_code 17 = .ok (.invokestatic 86, 3) := by decide +kernel
theorem d4_20 : decode prog_161_method_9_code 20 = .ok (.ireturn, 1) := by decide +kernel
theorem ef_4 (m : MethodId) (o : Addr) (p1 : Int32) : entryFrame m #[(.ref o), (.int p1)] 2 = mkF m 0 #[.val (.ref o), .val (.int p1)] [] := by first | (simp [entryFrame, mkF, argsToLocals, Value.category]; done) | rfl
set_option maxRecDepth 65536 in
set_option maxHeartbeats 40000000 in
theorem rm_len (l : Launch) (Z : State) (a0 : Array Value) (hw : ∀ d ∈ tables_1, d.before a0 Z = true) (o : Addr) (p1 : Int32) (dc : Int32) (ca wa : Addr) (xs ws : List Int32) (h0 : Heap) (E : Exa Z h0 o "com/example/quire/quire/values/internal/FieldLayout") (F1 : Fld Z h0 o "com/example/quire/quire/values/internal/FieldLayout" "docCount" "I" (.int dc)) (F2 : Fld Z h0 o "com/example/quire/quire/values/internal/FieldLayout" "counts" "[I" (.ref ca)) (F3 : Fld Z h0 o "com/example/quire/quire/values/internal/FieldLayout" "widths" "[I" (.ref wa)) (A1 : OwnGo.Ia Z h0 ca .int xs) (A2 : OwnGo.Ia Z h0 wa .int ws) (i0 : 0 ≤ p1.toInt) (i1 : p1.toInt < xs.length) (i2 : p1.toInt < ws.length) :
    OwnGo.Con l (⟨"com/example/quire/quire/values/internal/FieldLayout", "length", "(I)I"⟩ : MethodName) prog_161_method_9_code 2 (some .int) (OwnGo.rmP 3 72) Z #[(.ref o), (.int p1)] h0 (OwnGo.PureQ (.int (own_bl (own_bd dc p1) (xs.getD p1.toNatClampNeg 0) (ws.getD p1.toNatClampNeg 0))) h0) := by
  refine OwnGo.Con.intro (plainFor_of_name pn_1) ?_
  intro p e s m below meth c T0 X0 hx hby hml hZ hown hnm hret hlk e0
  refine OwnGo.Go.cast (ef_4 m o p1) ?_
  have F_o_docCount_0 : Fld Z T0.heap o "com/example/quire/quire/values/internal/FieldLayout" "docCount" "I" (.int dc) := by rw [e0]; exact F1
  have F_o_counts_0 : Fld Z T0.heap o "com/example/quire/quire/values/internal/FieldLayout" "counts" "[I" (.ref ca) := by rw [e0]; exact F2
  have F_o_widths_0 : Fld Z T0.heap o "com/example/quire/quire/values/internal/FieldLayout" "widths" "[I" (.ref wa) := by rw [e0]; exact F3
  have E_o_0 : Exa Z T0.heap o "com/example/quire/quire/values/internal/FieldLayout" := by rw [e0]; exact E
  have Aca_0 : OwnGo.Ia Z T0.heap ca .int xs := by rw [e0]; exact A1
  have Awa_0 : OwnGo.Ia Z T0.heap wa .int ws := by rw [e0]; exact A2
  have j1 := own_ix p1 xs.length i0 i1
  have j2 := own_ix p1 ws.length i0 i2
  have W0 : OwnGo.Wk p.tables T0 m c below prog_161_method_9_code := ⟨X0.here, hx, hby⟩
  refine OwnGo.aloadN W0 (pn := 1) d4_0 rfl rfl rfl ?_
  refine OwnGo.iloadN W0 (pn := 2) d4_1 rfl rfl ?_
  refine OwnGo.callVP X0 hx hby hZ hown (argsL := [(.int p1)]) (rest := []) (pn := 5) (hw _ (List.mem_of_getElem? (i := 50) rfl)) (hw _ (List.mem_of_getElem? (i := 51) rfl)) (hw _ (List.mem_of_getElem? (i := 53) rfl)) (hw _ (List.mem_of_getElem? (i := 52) rfl)) (hw _ (List.mem_of_getElem? (i := 5) rfl)) (hw _ (List.mem_of_getElem? (i := 54) rfl)) (by decide) E_o_0 (rm_docs l Z a0 hw o p1 dc _ F_o_docCount_0) (by decide) (Nat.le_of_ble_eq_true rfl) (by decide) (by decide) (lenOf pd_3 rfl) (by rw [hml]; rfl) rfl d4_2 rfl (fun T1 X1 f1 => ?_)
  have Aca_1 : OwnGo.Ia Z T1.heap ca .int xs := by rw [f1]; exact Aca_0
  have Awa_1 : OwnGo.Ia Z T1.heap wa .int ws := by rw [f1]; exact Awa_0
  have F_o_docCount_1 : Fld Z T1.heap o "com/example/quire/quire/values/internal/FieldLayout" "docCount" "I" (.int dc) := by rw [f1]; exact F_o_docCount_0
  have F_o_counts_1 : Fld Z T1.heap o "com/example/quire/quire/values/internal/FieldLayout" "counts" "[I" (.ref ca) := by rw [f1]; exact F_o_counts_0
  have F_o_widths_1 : Fld Z T1.heap o "com/example/quire/quire/values/internal/FieldLayout" "widths" "[I" (.ref wa) := by rw [f1]; exact F_o_widths_0
  have E_o_1 : Exa Z T1.heap o "com/example/quire/quire/values/internal/FieldLayout" := by rw [f1]; exact E_o_0
  have W1 : OwnGo.Wk p.tables T1 m c below prog_161_method_9_code := ⟨X1.here, hx, hby⟩
  refine OwnGo.aloadN W1 (pn := 6) d4_5 rfl rfl rfl ?_
  refine OwnGo.getf X1 hx hby hZ hown (pn := 9) (hw _ (List.mem_of_getElem? (i := 30) rfl)) F_o_counts_1 d4_6 rfl (fun T2 X2 f2 => ?_)
  have Aca_2 : OwnGo.Ia Z T2.heap ca .int xs := by rw [f2]; exact Aca_1
  have Awa_2 : OwnGo.Ia Z T2.heap wa .int ws := by rw [f2]; exact Awa_1
  have F_o_docCount_2 : Fld Z T2.heap o "com/example/quire/quire/values/internal/FieldLayout" "docCount" "I" (.int dc) := by rw [f2]; exact F_o_docCount_1
  have F_o_counts_2 : Fld Z T2.heap o "com/example/quire/quire/values/internal/FieldLayout" "counts" "[I" (.ref ca) := by rw [f2]; exact F_o_counts_1
  have F_o_widths_2 : Fld Z T2.heap o "com/example/quire/quire/values/internal/FieldLayout" "widths" "[I" (.ref wa) := by rw [f2]; exact F_o_widths_1
  have E_o_2 : Exa Z T2.heap o "com/example/quire/quire/values/internal/FieldLayout" := by rw [f2]; exact E_o_1
  have W2 : OwnGo.Wk p.tables T2 m c below prog_161_method_9_code := ⟨X2.here, hx, hby⟩
  refine OwnGo.iloadN W2 (pn := 10) d4_9 rfl rfl ?_
  refine OwnGo.iaload X2 hx hby hZ (pn := 11) Aca_2 j1.1 (OwnGo.getD_of j1.2.1) d4_10 rfl ?_
  refine OwnGo.aloadN W2 (pn := 12) d4_11 rfl rfl rfl ?_
  refine OwnGo.getf X2 hx hby hZ hown (pn := 15) (hw _ (List.mem_of_getElem? (i := 32) rfl)) F_o_widths_2 d4_12 rfl (fun T3 X3 f3 => ?_)
  have Aca_3 : OwnGo.Ia Z T3.heap ca .int xs := by rw [f3]; exact Aca_2
  have Awa_3 : OwnGo.Ia Z T3.heap wa .int ws := by rw [f3]; exact Awa_2
  have F_o_docCount_3 : Fld Z T3.heap o "com/example/quire/quire/values/internal/FieldLayout" "docCount" "I" (.int dc) := by rw [f3]; exact F_o_docCount_2
  have F_o_counts_3 : Fld Z T3.heap o "com/example/quire/quire/values/internal/FieldLayout" "counts" "[I" (.ref ca) := by rw [f3]; exact F_o_counts_2
  have F_o_widths_3 : Fld Z T3.heap o "com/example/quire/quire/values/internal/FieldLayout" "widths" "[I" (.ref wa) := by rw [f3]; exact F_o_widths_2
  have E_o_3 : Exa Z T3.heap o "com/example/quire/quire/values/internal/FieldLayout" := by rw [f3]; exact E_o_2
  have W3 : OwnGo.Wk p.tables T3 m c below prog_161_method_9_code := ⟨X3.here, hx, hby⟩
  refine OwnGo.iloadN W3 (pn := 16) d4_15 rfl rfl ?_
  refine OwnGo.iaload X3 hx hby hZ (pn := 17) Awa_3 j2.1 (OwnGo.getD_of j2.2.1) d4_16 rfl ?_
  refine OwnGo.callP X3 hx hby hZ hown (argsL := [(.int (own_bd dc p1)), (.int ((xs).getD (p1).toNatClampNeg 0)), (.int ((ws).getD (p1).toNatClampNeg 0))]) (rest := []) (pn := 20) (hw _ (List.mem_of_getElem? (i := 63) rfl)) (hw _ (List.mem_of_getElem? (i := 64) rfl)) (hw _ (List.mem_of_getElem? (i := 57) rfl)) (hw _ (List.mem_of_getElem? (i := 65) rfl)) (by decide) (rm_own_bl l Z a0 hw (own_bd dc p1) ((xs).getD (p1).toNatClampNeg 0) ((ws).getD (p1).toNatClampNeg 0) _) (by decide) (Nat.le_of_ble_eq_true rfl) (by decide) (by decide) (lenOf pd_5 rfl) (by rw [hml]; rfl) rfl d4_17 rfl (fun T4 X4 f4 => ?_)
  have Aca_4 : OwnGo.Ia Z T4.heap ca .int xs := by rw [f4]; exact Aca_3
  have Awa_4 : OwnGo.Ia Z T4.heap wa .int ws := by rw [f4]; exact Awa_3
  have F_o_docCount_4 : Fld Z T4.heap o "com/example/quire/quire/values/internal/FieldLayout" "docCount" "I" (.int dc) := by rw [f4]; exact F_o_docCount_3
  have F_o_counts_4 : Fld Z T4.heap o "com/example/quire/quire/values/internal/FieldLayout" "counts" "[I" (.ref ca) := by rw [f4]; exact F_o_counts_3
  have F_o_widths_4 : Fld Z T4.heap o "com/example/quire/quire/values/internal/FieldLayout" "widths" "[I" (.ref wa) := by rw [f4]; exact F_o_widths_3
  have E_o_4 : Exa Z T4.heap o "com/example/quire/quire/values/internal/FieldLayout" := by rw [f4]; exact E_o_3
  have W4 : OwnGo.Wk p.tables T4 m c below prog_161_method_9_code := ⟨X4.here, hx, hby⟩
  have ee : T4.heap = h0 := f4.trans (f3.trans (f2.trans (f1.trans e0)))
  exact OwnGo.ireturn X4 hx hby hret hlk rfl (by simp) d4_20 ⟨rfl, rfl, ee⟩ (by decide) (by decide)
theorem d3_0 : decode prog_161_method_18_code 0 = .ok (.iconst 0, 1) := by decide +kernel
theorem d3_1 : decode prog_161_method_18_code 1 = .ok (.istore_n 1, 1) := by decide +kernel
theorem d3_2 : decode prog_161_method_18_code 2 = .ok (.aload_n 0, 1) := by decide +kernel
theorem d3_3 : decode prog_161_method_18_code 3 = .ok (.getfield 32, 3) := by decide +kernel
theorem d3_6 : decode prog_161_method_18_code 6 = .ok (.astore_n 2, 1) := by decide +kernel
theorem d3_7 : decode prog_161_method_18_code 7 = .ok (.aload_n 2, 1) := by decide +kernel
theorem d3_8 : decode prog_161_method_18_code 8 = .ok (.arraylength, 1) := by decide +kernel
theorem d3_9 : decode prog_161_method_18_code 9 = .ok (.istore_n 3, 1) := by decide +kernel
theorem d3_10 : decode prog_161_method_18_code 10 = .ok (.iconst 0, 1) := by decide +kernel
theorem d3_11 : decode prog_161_method_18_code 11 = .ok (.istore 4, 2) := by decide +kernel
theorem d3_13 : decode prog_161_method_18_code 13 = .ok (.iload 4, 2) := by decide +kernel
theorem d3_15 : decode prog_161_method_18_code 15 = .ok (.iload_n 3, 1) := by decide +kernel
theorem d3_16 : decode prog_161_method_18_code 16 = .ok (.if_icmp .ge 20, 3) := by decide +kernel
theorem d3_19 : decode prog_161_method_18_code 19 = .ok (.aload_n 2, 1) := by decide +kernel
theorem d3_20 : decode prog_161_method_18_code 20 = .ok (.iload 4, 2) := by decide +kernel
theorem d3_22 : decode prog_161_method_18_code 22 = .ok (.iaload, 1) := by decide +kernel
theorem d3_23 : decode prog_161_method_18_code 23 = .ok (.istore 5, 2) := by decide +kernel
theorem d3_25 : decode prog_161_method_18_code 25 = .ok (.iload_n 1, 1) := by decide +kernel
theorem d3_26 : decode prog_161_method_18_code 26 = .ok (.iload 5, 2) := by decide +kernel
theorem d3_28 : decode prog_161_method_18_code 28 = .ok (.iadd, 1) := by decide +kernel
theorem d3_29 : decode prog_161_method_18_code 29 = .ok (.istore_n 1, 1) := by decide +kernel
theorem d3_30 : decode prog_161_method_18_code 30 = .ok (.iinc 4 1, 3) := by decide +kernel
theorem d3_33 : decode prog_161_method_18_code 33 = .ok (.goto (-20), 3) := by decide +kernel
theorem d3_36 : decode prog_161_method_18_code 36 = .ok (.iload_n 1, 1) := by decide +kernel
theorem d3_37 : decode prog_161_method_18_code 37 = .ok (.ireturn, 1) := by decide +kernel
def own_vs (xs : List Int32) : Nat → Int32 → Int32 → Int32
  | 0, t, _ => t
  | n + 1, t, i => own_vs xs n (t + xs.getD i.toNatClampNeg 0) (i + (1 : Int32))
theorem own_vsS (xs : List Int32) (n : Nat) (t i : Int32) : own_vs xs (n + 1) t i = own_vs xs n (t + xs.getD i.toNatClampNeg 0) (i + (1 : Int32)) := rfl
def own_vc (xs : List Int32) : Int32 := own_vs xs xs.length 0 0
theorem ef_3 (m : MethodId) (o : Addr) : entryFrame m #[(.ref o)] 6 = mkF m 0 #[.val (.ref o), .unset, .unset, .unset, .unset, .unset] [] := by first | (simp [entryFrame, mkF, argsToLocals, Value.category]; done) | rfl
set_option maxRecDepth 65536 in
set_option maxHeartbeats 40000000 in
theorem rm_vc (l : Launch) (Z : State) (a0 : Array Value) (hw : ∀ d ∈ tables_1, d.before a0 Z = true) (o : Addr) (ca : Addr) (xs : List Int32) (h0 : Heap) (F : Fld Z h0 o "com/example/quire/quire/values/internal/FieldLayout" "counts" "[I" (.ref ca)) (A : OwnGo.Ia Z h0 ca .int xs) (hl : xs.length ≤ 3) :
    OwnGo.Con l (⟨"com/example/quire/quire/values/internal/FieldLayout", "valueCount", "()I"⟩ : MethodName) prog_161_method_18_code 6 (some .int) (OwnGo.rmP 0 0) Z #[(.ref o)] h0 (OwnGo.PureQ (.int (own_vc xs)) h0) := by
  refine OwnGo.Con.intro (plainFor_of_name pn_1) ?_
  intro p e s m below meth c T0 X0 hx hby hml hZ hown hnm hret hlk e0
  refine OwnGo.Go.cast (ef_3 m o) ?_
  obtain ⟨r, hr⟩ : ∃ r, own_vc xs = r := ⟨_, rfl⟩
  rw [hr]
  obtain ⟨nn, hnn⟩ : ∃ z, xs.length.toInt32 = z := ⟨_, rfl⟩
  have hn' : nn.toInt = xs.length := by rw [← hnn]; exact len_toInt (by omega)
  have hfin : OwnGo.PureQ (.int r) h0 (some (.int r)) h0 [] := ⟨rfl, rfl, rfl⟩
  have LP : ∀ (n : Nat) (T0 : State) (X0 : Stand p l e (OwnGo.rmP 0 0) s m #[(.ref o)] below meth c T0 [] 0 0) (e0 : T0.heap = h0) (t i : Int32) (o5 : Slot) (ho_o5 : o5 = .unset ∨ ∃ w, o5 = .val w ∧ w.category = 1) (hi : 0 ≤ i.toInt) (hn : i.toInt + n = xs.length), own_vs xs n t i = r → OwnGo.Go p.tables e below (OwnGo.Qe s (OwnGo.rmP 0 0) (OwnGo.PureQ (.int r) h0)) (T0.setTop (mkF m 13 #[.val (.ref o), .val (.int t), .val (.ref ca), .val (.int nn), .val (.int i), o5] [])) := by
    intro n
    induction n with
    | zero =>
      intro T0 X0 e0 t i o5 ho_o5 hi hn hr
      have W0 : OwnGo.Wk p.tables T0 m c below prog_161_method_18_code := ⟨X0.here, hx, hby⟩
      refine OwnGo.iload W0 (pn := 15) d3_13 rfl rfl ?_
      refine OwnGo.iloadN W0 (pn := 16) d3_15 rfl rfl ?_
      refine OwnGo.icmp_ge W0 (pn := 19) (pt := 36) d3_16 rfl (by decide) (by decide) (fun h16 => ?_) (fun h16 => ?_)
      · skip
        exact absurd h16 (by rw [Int32.lt_iff_toInt_lt]; omega)
      · skip
        refine OwnGo.iloadN W0 (pn := 37) d3_36 rfl rfl ?_
        exact OwnGo.ireturn X0 hx hby hret hlk rfl (by simp) d3_37 (OwnGo.fin_of hr e0 hfin) (by decide) (by decide)
    | succ n ih =>
      intro T0 X0 e0 t i o5 ho_o5 hi hn hr
      rw [own_vsS] at hr
      have Aca_0 : OwnGo.Ia Z T0.heap ca .int xs := by rw [e0]; exact A
      have W0 : OwnGo.Wk p.tables T0 m c below prog_161_method_18_code := ⟨X0.here, hx, hby⟩
      refine OwnGo.iload W0 (pn := 15) d3_13 rfl rfl ?_
      refine OwnGo.iloadN W0 (pn := 16) d3_15 rfl rfl ?_
      refine OwnGo.icmp_ge W0 (pn := 19) (pt := 36) d3_16 rfl (by decide) (by decide) (fun h16 => ?_) (fun h16 => ?_)
      · skip
        have j := own_ix i xs.length hi (by omega)
        have ni := own_ad i 1 (by simp only [Int32.reduceToInt]; omega) (by simp only [Int32.reduceToInt]; omega)
        simp only [Int32.reduceToInt] at ni
        refine OwnGo.aloadN W0 (pn := 20) d3_19 rfl rfl rfl ?_
        refine OwnGo.iload W0 (pn := 22) d3_20 rfl rfl ?_
        refine OwnGo.iaload X0 hx hby hZ (pn := 23) Aca_0 j.1 (OwnGo.getD_of j.2.1) d3_22 rfl ?_
        refine OwnGo.istore W0 (pn := 25) (l' := #[.val (.ref o), .val (.int t), .val (.ref ca), .val (.int nn), .val (.int i), .val (.int ((xs).getD (i).toNatClampNeg 0))]) d3_23 rfl (XS.store1 (o := o5) rfl ho_o5 rfl) ?_
        refine OwnGo.iloadN W0 (pn := 26) d3_25 rfl rfl ?_
        refine OwnGo.iload W0 (pn := 28) d3_26 rfl rfl ?_
        refine OwnGo.iadd W0 (pn := 29) d3_28 rfl ?_
        refine OwnGo.istoreN W0 (pn := 30) (l' := #[.val (.ref o), .val (.int (t + ((xs).getD (i).toNatClampNeg 0))), .val (.ref ca), .val (.int nn), .val (.int i), .val (.int ((xs).getD (i).toNatClampNeg 0))]) d3_29 rfl rfl ?_
        refine OwnGo.iinc W0 (pn := 33) (l' := #[.val (.ref o), .val (.int (t + ((xs).getD (i).toNatClampNeg 0))), .val (.ref ca), .val (.int nn), .val (.int (i + (1 : Int32))), .val (.int ((xs).getD (i).toNatClampNeg 0))]) (v := (1 : Int32)) d3_30 rfl rfl rfl rfl ?_
        refine OwnGo.goto W0 (pt := 13) d3_33 (by decide) (by decide) ?_
        exact ih _ X0 e0 _ _ _ (Or.inr ⟨_, rfl, rfl⟩) (by omega) (by omega) hr
      · skip
        exact absurd (by rw [Int32.lt_iff_toInt_lt]; omega) h16
  have F_0 : Fld Z T0.heap o "com/example/quire/quire/values/internal/FieldLayout" "counts" "[I" (.ref ca) := by rw [e0]; exact F
  have Aca_0 : OwnGo.Ia Z T0.heap ca .int xs := by rw [e0]; exact A
  have W0 : OwnGo.Wk p.tables T0 m c below prog_161_method_18_code := ⟨X0.here, hx, hby⟩
  refine OwnGo.iconst (v := (0 : Int32)) W0 (pn := 1) d3_0 rfl rfl ?_
  refine OwnGo.istoreN W0 (pn := 2) (l' := #[.val (.ref o), .val (.int (0 : Int32)), .unset, .unset, .unset, .unset]) d3_1 rfl rfl ?_
  refine OwnGo.aloadN W0 (pn := 3) d3_2 rfl rfl rfl ?_
  refine OwnGo.getf X0 hx hby hZ hown (pn := 6) (hw _ (List.mem_of_getElem? (i := 30) rfl)) F_0 d3_3 rfl (fun T1 X1 f1 => ?_)
  have Aca_1 : OwnGo.Ia Z T1.heap ca .int xs := by rw [f1]; exact Aca_0
  have F_o_counts_1 : Fld Z T1.heap o "com/example/quire/quire/values/internal/FieldLayout" "counts" "[I" (.ref ca) := by rw [f1]; exact F_0
  have W1 : OwnGo.Wk p.tables T1 m c below prog_161_method_18_code := ⟨X1.here, hx, hby⟩
  have e1 := f1.trans e0
  refine OwnGo.astoreN W1 (pn := 7) (l' := #[.val (.ref o), .val (.int (0 : Int32)), .val (.ref ca), .unset, .unset, .unset]) d3_6 rfl rfl rfl ?_
  refine OwnGo.aloadN W1 (pn := 8) d3_7 rfl rfl rfl ?_
  refine OwnGo.arrlen X1 hx hby hZ (pn := 9) Aca_1 (v := nn) hnn d3_8 rfl ?_
  refine OwnGo.istoreN W1 (pn := 10) (l' := #[.val (.ref o), .val (.int (0 : Int32)), .val (.ref ca), .val (.int nn), .unset, .unset]) d3_9 rfl rfl ?_
  refine OwnGo.iconst (v := (0 : Int32)) W1 (pn := 11) d3_10 rfl rfl ?_
  refine OwnGo.istore W1 (pn := 13) (l' := #[.val (.ref o), .val (.int (0 : Int32)), .val (.ref ca), .val (.int nn), .val (.int (0 : Int32)), .unset]) d3_11 rfl rfl ?_
  exact LP xs.length _ X1 e1 _ _ _ (Or.inl rfl) (by decide) (by simp only [Int32.reduceToInt]; omega) hr
theorem own_cmin (a b : Int32) : ((own_min a b).toInt = a.toInt ∧ a.toInt ≤ b.toInt) ∨ ((own_min a b).toInt = b.toInt ∧ b.toInt ≤ a.toInt) := by
  simp only [own_min]
  repeat' split
  all_goals (simp only [Int32.lt_iff_toInt_lt, Int32.reduceToInt, ← Int32.toInt_inj, true_and, and_true, false_and, and_false, true_or, or_true, false_or, or_false, not_true_eq_false, not_false_eq_true] at * <;> omega)
theorem own_docs (dc i : Int32) (h0 : 0 ≤ i.toInt) (h1 : i.toInt ≤ 3) (h2 : i.toInt * 4096 + 1 ≤ dc.toInt) (h3 : dc.toInt ≤ 16384) : 1 ≤ (own_bd dc i).toInt ∧ (own_bd dc i).toInt ≤ 4096 := by
  simp only [own_bd]
  have k := c_imul i 4096
  have k1 := (i * 4096).toInt_lt
  have k2 := (i * 4096).le_toInt
  simp only [Int32.reduceToInt] at k
  have e := own_su dc (i * 4096) (by omega) (by omega)
  have q := own_cmin 4096 (dc - i * 4096)
  simp only [Int32.reduceToInt] at q
  omega
theorem own_cbml (a b : Int32) (h0 : 1 ≤ a.toInt) (h1 : a.toInt ≤ 4096) : 0 ≤ (own_bml a b).toInt ∧ (own_bml a b).toInt ≤ 512 := by
  have e1 := own_ad a 8 (by simp only [Int32.reduceToInt]; omega) (by simp only [Int32.reduceToInt]; omega)
  simp only [Int32.reduceToInt] at e1
  have e2 := own_su (a + 8) 1 (by simp only [Int32.reduceToInt]; omega) (by simp only [Int32.reduceToInt]; omega)
  simp only [Int32.reduceToInt] at e2
  have e3 := (c_idiv (a + 8 - 1) 8 8 (by decide) (by decide)).1 (by omega)
  simp only [own_bml_9, own_bml]
  repeat' split
  all_goals first | decide | omega
theorem own_part (d x w : Int32) (d0 : 1 ≤ d.toInt) (d1 : d.toInt ≤ 4096) (x0 : 0 ≤ x.toInt) (x1 : x.toInt ≤ 4096) (w0 : 0 ≤ w.toInt) (w1 : w.toInt ≤ 63) : 0 ≤ (own_pc (own_bl d x w)).toInt ∧ (own_pc (own_bl d x w)).toInt ≤ 32 := by
  have b := own_cbml d x d0 d1
  have m := XT.wideMul x w
  have m0 : 0 ≤ x.toInt * w.toInt := Int.mul_nonneg x0 w0
  have m1 : x.toInt * w.toInt ≤ 4096 * 63 := Int.mul_le_mul x1 w1 w0 (by decide)
  simp only [own_pc, own_bl]
  generalize x.toInt * w.toInt = pr at *
  generalize own_bml d x = q at *
  generalize x.toInt64 * w.toInt64 = P at *
  have k := c_ladd P 8
  have k1 := (P + 8).toInt_lt
  have k2 := (P + 8).le_toInt
  simp only [Int64.reduceToInt] at k
  generalize P + 8 = A at *
  have j := c_lsub A 1
  have j1 := (A - 1).toInt_lt
  have j2 := (A - 1).le_toInt
  simp only [Int64.reduceToInt] at j
  generalize A - 1 = B at *
  have e := (c_ldiv B 8 8 (by decide) (by decide)).1 (by omega)
  generalize B / 8 = D at *
  have f := c_l2i D
  have f1 := D.toInt32.toInt_lt
  have f2 := D.toInt32.le_toInt
  generalize D.toInt32 = I at *
  have s1 := own_ad q I (by omega) (by omega)
  generalize q + I = L at *
  have s2 := own_ad L 1024 (by simp only [Int32.reduceToInt]; omega) (by simp only [Int32.reduceToInt]; omega)
  simp only [Int32.reduceToInt] at s2
  generalize L + 1024 = M at *
  have s3 := own_su M 1 (by simp only [Int32.reduceToInt]; omega) (by simp only [Int32.reduceToInt]; omega)
  simp only [Int32.reduceToInt] at s3
  have s4 := (c_idiv (M - 1) 1024 1024 (by decide) (by decide)).1 (by omega)
  omega
theorem d1_0 : decode prog_161_method_1_code 0 = .ok (.aload_n 0, 1) := by decide +kernel
theorem d1_1 : decode prog_161_method_1_code 1 = .ok (.invokespecial 1, 3) := by decide +kernel
theorem d1_4 : decode prog_161_method_1_code 4 = .ok (.aload_n 0, 1) := by decide +kernel
theorem d1_5 : decode prog_161_method_1_code 5 = .ok (.iload_n 1, 1) := by decide +kernel
theorem d1_6 : decode prog_161_method_1_code 6 = .ok (.putfield 7, 3) := by decide +kernel
theorem d1_9 : decode prog_161_method_1_code 9 = .ok (.aload_n 0, 1) := by decide +kernel
theorem d1_10 : decode prog_161_method_1_code 10 = .ok (.aload_n 2, 1) := by decide +kernel
theorem d1_11 : decode prog_161_method_1_code 11 = .ok (.putfield 13, 3) := by decide +kernel
theorem d1_14 : decode prog_161_method_1_code 14 = .ok (.aload_n 0, 1) := by decide +kernel
theorem d1_15 : decode prog_161_method_1_code 15 = .ok (.aload_n 3, 1) := by decide +kernel
theorem d1_16 : decode prog_161_method_1_code 16 = .ok (.putfield 17, 3) := by decide +kernel
theorem d1_19 : decode prog_161_method_1_code 19 = .ok (.aload_n 0, 1) := by decide +kernel
theorem d1_20 : decode prog_161_method_1_code 20 = .ok (.lload 4, 2) := by decide +kernel
theorem d1_22 : decode prog_161_method_1_code 22 = .ok (.putfield 21, 3) := by decide +kernel
theorem d1_25 : decode prog_161_method_1_code 25 = .ok (.aload_n 0, 1) := by decide +kernel
theorem d1_26 : decode prog_161_method_1_code 26 = .ok (.aload 6, 2) := by decide +kernel
theorem d1_28 : decode prog_161_method_1_code 28 = .ok (.putfield 25, 3) := by decide +kernel
theorem d1_31 : decode prog_161_method_1_code 31 = .ok (.aload_n 0, 1) := by decide +kernel
theorem d1_32 : decode prog_161_method_1_code 32 = .ok (.iload 7, 2) := by decide +kernel
theorem d1_34 : decode prog_161_method_1_code 34 = .ok (.putfield 29, 3) := by decide +kernel
theorem d1_37 : decode prog_161_method_1_code 37 = .ok (.aload_n 0, 1) := by decide +kernel
theorem d1_38 : decode prog_161_method_1_code 38 = .ok (.aload 8, 2) := by decide +kernel
theorem d1_40 : decode prog_161_method_1_code 40 = .ok (.putfield 32, 3) := by decide +kernel
theorem d1_43 : decode prog_161_method_1_code 43 = .ok (.aload_n 0, 1) := by decide +kernel
theorem d1_44 : decode prog_161_method_1_code 44 = .ok (.aload 9, 2) := by decide +kernel
theorem d1_46 : decode prog_161_method_1_code 46 = .ok (.putfield 36, 3) := by decide +kernel
theorem d1_49 : decode prog_161_method_1_code 49 = .ok (.aload_n 0, 1) := by decide +kernel
theorem d1_50 : decode prog_161_method_1_code 50 = .ok (.aload 10, 2) := by decide +kernel
theorem d1_52 : decode prog_161_method_1_code 52 = .ok (.putfield 39, 3) := by decide +kernel
theorem d1_55 : decode prog_161_method_1_code 55 = .ok (.aload_n 0, 1) := by decide +kernel
theorem d1_56 : decode prog_161_method_1_code 56 = .ok (.aload 8, 2) := by decide +kernel
theorem d1_58 : decode prog_161_method_1_code 58 = .ok (.arraylength, 1) := by decide +kernel
theorem d1_59 : decode prog_161_method_1_code 59 = .ok (.iconst 1, 1) := by decide +kernel
theorem d1_60 : decode prog_161_method_1_code 60 = .ok (.iadd, 1) := by decide +kernel
theorem d1_61 : decode prog_161_method_1_code 61 = .ok (.newarray .int, 2) := by decide +kernel
theorem d1_63 : decode prog_161_method_1_code 63 = .ok (.putfield 42, 3) := by decide +kernel
theorem d1_66 : decode prog_161_method_1_code 66 = .ok (.iconst 0, 1) := by decide +kernel
theorem d1_67 : decode prog_161_method_1_code 67 = .ok (.istore 11, 2) := by decide +kernel
theorem d1_69 : decode prog_161_method_1_code 69 = .ok (.iload 11, 2) := by decide +kernel
theorem d1_71 : decode prog_161_method_1_code 71 = .ok (.aload 8, 2) := by decide +kernel
theorem d1_73 : decode prog_161_method_1_code 73 = .ok (.arraylength, 1) := by decide +kernel
theorem d1_74 : decode prog_161_method_1_code 74 = .ok (.if_icmp .ge 35, 3) := by decide +kernel
theorem d1_77 : decode prog_161_method_1_code 77 = .ok (.aload_n 0, 1) := by decide +kernel
theorem d1_78 : decode prog_161_method_1_code 78 = .ok (.getfield 42, 3) := by decide +kernel
theorem d1_81 : decode prog_161_method_1_code 81 = .ok (.iload 11, 2) := by decide +kernel
theorem d1_83 : decode prog_161_method_1_code 83 = .ok (.iconst 1, 1) := by decide +kernel
theorem d1_84 : decode prog_161_method_1_code 84 = .ok (.iadd, 1) := by decide +kernel
theorem d1_85 : decode prog_161_method_1_code 85 = .ok (.aload_n 0, 1) := by decide +kernel
theorem d1_86 : decode prog_161_method_1_code 86 = .ok (.getfield 42, 3) := by decide +kernel
theorem d1_89 : decode prog_161_method_1_code 89 = .ok (.iload 11, 2) := by decide +kernel
theorem d1_91 : decode prog_161_method_1_code 91 = .ok (.iaload, 1) := by decide +kernel
theorem d1_92 : decode prog_161_method_1_code 92 = .ok (.aload_n 0, 1) := by decide +kernel
theorem d1_93 : decode prog_161_method_1_code 93 = .ok (.iload 11, 2) := by decide +kernel
theorem d1_95 : decode prog_161_method_1_code 95 = .ok (.invokevirtual 45, 3) := by decide +kernel
theorem d1_98 : decode prog_161_method_1_code 98 = .ok (.invokestatic 49, 3) := by decide +kernel
theorem d1_101 : decode prog_161_method_1_code 101 = .ok (.iadd, 1) := by decide +kernel
theorem d1_102 : decode prog_161_method_1_code 102 = .ok (.iastore, 1) := by decide +kernel
theorem d1_103 : decode prog_161_method_1_code 103 = .ok (.iinc 11 1, 3) := by decide +kernel
theorem d1_106 : decode prog_161_method_1_code 106 = .ok (.goto (-37), 3) := by decide +kernel
theorem d1_109 : decode prog_161_method_1_code 109 = .ok (.aload_n 0, 1) := by decide +kernel
theorem d1_110 : decode prog_161_method_1_code 110 = .ok (.aload_n 0, 1) := by decide +kernel
theorem d1_111 : decode prog_161_method_1_code 111 = .ok (.getfield 42, 3) := by decide +kernel
theorem d1_114 : decode prog_161_method_1_code 114 = .ok (.aload 8, 2) := by decide +kernel
theorem d1_116 : decode prog_161_method_1_code 116 = .ok (.arraylength, 1) := by decide +kernel
theorem d1_117 : decode prog_161_method_1_code 117 = .ok (.iaload, 1) := by decide +kernel
theorem d1_118 : decode prog_161_method_1_code 118 = .ok (.newarray .int, 2) := by decide +kernel
theorem d1_120 : decode prog_161_method_1_code 120 = .ok (.putfield 54, 3) := by decide +kernel
theorem d1_123 : decode prog_161_method_1_code 123 = .ok (.return_, 1) := by decide +kernel
theorem ef_1 (m : MethodId) (o : Addr) (p1 : Int32) (k2 k3 : Addr) (q4 : Int64) (ta : Addr) (p7 : Int32) (ca wa ma : Addr) : entryFrame m #[(.ref o), (.int p1), (.ref k2), (.ref k3), (.long q4), (.ref ta), (.int p7), (.ref ca), (.ref wa), (.ref ma)] 12 = mkF m 0 #[.val (.ref o), .val (.int p1), .val (.ref k2), .val (.ref k3), .val (.long q4), .second, .val (.ref ta), .val (.int p7), .val (.ref ca), .val (.ref wa), .val (.ref ma), .unset] [] := by first | (simp [entryFrame, mkF, argsToLocals, Value.category]; done) | rfl
set_option maxRecDepth 65536 in
set_option maxHeartbeats 40000000 in
theorem rm_init (l : Launch) (Z : State) (a0 : Array Value) (hw : ∀ d ∈ tables_1, d.before a0 Z = true) (o : Addr) (p1 : Int32) (k2 k3 : Addr) (q4 : Int64) (ta : Addr) (p7 : Int32) (ca wa ma : Addr) (xs ws : List Int32) (h0 : Heap) (n0 : Nat) (Z0 : n0 ≤ h0.size) (ho : n0 ≤ o) (E : Exa Z h0 o "com/example/quire/quire/values/internal/FieldLayout") (D : ∀ {O nm d : String} {ty : FieldType}, Laid Z a0 "com/example/quire/quire/values/internal/FieldLayout" O nm d → parseFieldDescriptor d = some ty → Fld Z h0 o O nm d (defaultValue ty)) (A1 : OwnGo.Ia Z h0 ca .int xs) (A2 : OwnGo.Ia Z h0 wa .int ws) (ne_ca_o : ca ≠ o) (ne_wa_o : wa ≠ o) (hl : xs.length ≤ 3) (hlw : ws.length = xs.length) (hdc : ∀ k : Nat, k < xs.length → (k : Int) * 4096 + 1 ≤ p7.toInt) (hdc2 : p7.toInt ≤ 16384) (hxs : ∀ k : Nat, k < xs.length → 0 ≤ (xs.getD k 0).toInt ∧ (xs.getD k 0).toInt ≤ 4096) (hws : ∀ k : Nat, k < xs.length → 0 ≤ (ws.getD k 0).toInt ∧ (ws.getD k 0).toInt ≤ 63) :
    OwnGo.Con l (⟨"com/example/quire/quire/values/internal/FieldLayout", "<init>", "(ILcom/example/quire/quire/document/FieldType;Lcom/example/quire/quire/values/NumericEncoding;J[JI[I[I[J)V"⟩ : MethodName) prog_161_method_1_code 12 none ({ frames := 4, cells := 2, slots := 100, locals := 96 } : Room) Z #[(.ref o), (.int p1), (.ref k2), (.ref k3), (.long q4), (.ref ta), (.int p7), (.ref ca), (.ref wa), (.ref ma)] h0 (fun v h L => v = none ∧ Fr n0 L ∧ Exa Z h o "com/example/quire/quire/values/internal/FieldLayout" ∧ Fld Z h o "com/example/quire/quire/values/internal/FieldLayout" "counts" "[I" (.ref ca) ∧ OwnGo.Ia Z h ca .int xs) := by
  refine OwnGo.Con.intro (plainFor_of_name pn_1) ?_
  intro p e s m below meth c T0 X0 hx hby hml hZ hown hnm hret hlk e0
  refine OwnGo.Go.cast (ef_1 m o p1 k2 k3 q4 ta p7 ca wa ma) ?_
  obtain ⟨nn, hnn⟩ : ∃ z, xs.length.toInt32 = z := ⟨_, rfl⟩
  have hn' : nn.toInt = xs.length := by rw [← hnn]; exact len_toInt (by omega)
  have N0 := Fr.nil n0
  have Z_0 : n0 ≤ T0.heap.size := by rw [e0]; exact Z0
  have ne_o_ca := ne_ca_o.symm
  have ne_o_wa := ne_wa_o.symm
  have F_o_number_0 : Fld Z T0.heap o "com/example/quire/quire/values/internal/FieldLayout" "number" "I" (.int 0) := by rw [e0]; exact D (Or.inr (hw _ (List.mem_of_getElem? (i := 19) rfl))) pf_0
  have F_o_kind_0 : Fld Z T0.heap o "com/example/quire/quire/values/internal/FieldLayout" "kind" "Lcom/example/quire/quire/document/FieldType;" .null := by rw [e0]; exact D (Or.inr (hw _ (List.mem_of_getElem? (i := 21) rfl))) pf_1
  have F_o_encoding_0 : Fld Z T0.heap o "com/example/quire/quire/values/internal/FieldLayout" "encoding" "Lcom/example/quire/quire/values/NumericEncoding;" .null := by rw [e0]; exact D (Or.inr (hw _ (List.mem_of_getElem? (i := 23) rfl))) pf_2
  have F_o_divisor_0 : Fld Z T0.heap o "com/example/quire/quire/values/internal/FieldLayout" "divisor" "J" (.long 0) := by rw [e0]; exact D (Or.inr (hw _ (List.mem_of_getElem? (i := 25) rfl))) pf_3
  have F_o_table_0 : Fld Z T0.heap o "com/example/quire/quire/values/internal/FieldLayout" "table" "[J" .null := by rw [e0]; exact D (Or.inr (hw _ (List.mem_of_getElem? (i := 27) rfl))) pf_4
  have F_o_docCount_0 : Fld Z T0.heap o "com/example/quire/quire/values/internal/FieldLayout" "docCount" "I" (.int 0) := by rw [e0]; exact D (Or.inr (hw _ (List.mem_of_getElem? (i := 29) rfl))) pf_0
  have F_o_counts_0 : Fld Z T0.heap o "com/example/quire/quire/values/internal/FieldLayout" "counts" "[I" .null := by rw [e0]; exact D (Or.inr (hw _ (List.mem_of_getElem? (i := 31) rfl))) pf_6
  have F_o_widths_0 : Fld Z T0.heap o "com/example/quire/quire/values/internal/FieldLayout" "widths" "[I" .null := by rw [e0]; exact D (Or.inr (hw _ (List.mem_of_getElem? (i := 33) rfl))) pf_6
  have F_o_minimums_0 : Fld Z T0.heap o "com/example/quire/quire/values/internal/FieldLayout" "minimums" "[J" .null := by rw [e0]; exact D (Or.inr (hw _ (List.mem_of_getElem? (i := 35) rfl))) pf_4
  have F_o_firstParts_0 : Fld Z T0.heap o "com/example/quire/quire/values/internal/FieldLayout" "firstParts" "[I" .null := by rw [e0]; exact D (Or.inr (hw _ (List.mem_of_getElem? (i := 37) rfl))) pf_6
  have F_o_checksums_0 : Fld Z T0.heap o "com/example/quire/quire/values/internal/FieldLayout" "checksums" "[I" .null := by rw [e0]; exact D (Or.inr (hw _ (List.mem_of_getElem? (i := 39) rfl))) pf_6
  have E_o_0 : Exa Z T0.heap o "com/example/quire/quire/values/internal/FieldLayout" := by rw [e0]; exact E
  have Aca_0 : OwnGo.Ia Z T0.heap ca .int xs := by rw [e0]; exact A1
  have Awa_0 : OwnGo.Ia Z T0.heap wa .int ws := by rw [e0]; exact A2
  have W0 : OwnGo.Wk p.tables T0 m c below prog_161_method_1_code := ⟨X0.here, hx, hby⟩
  refine OwnGo.aloadN W0 (pn := 1) d1_0 rfl rfl rfl ?_
  refine OwnGo.initobj X0 hx hby hZ hown (pn := 4) (hw _ (List.mem_of_getElem? (i := 15) rfl)) (hw _ (List.mem_of_getElem? (i := 16) rfl)) (hw _ (List.mem_of_getElem? (i := 17) rfl)) (by rw [hml]; rfl) (by decide) (by decide) d1_1 rfl (fun T1 X1 f1 => ?_)
  have Aca_1 : OwnGo.Ia Z T1.heap ca .int xs := by rw [f1]; exact Aca_0
  have Awa_1 : OwnGo.Ia Z T1.heap wa .int ws := by rw [f1]; exact Awa_0
  have F_o_number_1 : Fld Z T1.heap o "com/example/quire/quire/values/internal/FieldLayout" "number" "I" (.int 0) := by rw [f1]; exact F_o_number_0
  have F_o_kind_1 : Fld Z T1.heap o "com/example/quire/quire/values/internal/FieldLayout" "kind" "Lcom/example/quire/quire/document/FieldType;" .null := by rw [f1]; exact F_o_kind_0
  have F_o_encoding_1 : Fld Z T1.heap o "com/example/quire/quire/values/internal/FieldLayout" "encoding" "Lcom/example/quire/quire/values/NumericEncoding;" .null := by rw [f1]; exact F_o_encoding_0
  have F_o_divisor_1 : Fld Z T1.heap o "com/example/quire/quire/values/internal/FieldLayout" "divisor" "J" (.long 0) := by rw [f1]; exact F_o_divisor_0
  have F_o_table_1 : Fld Z T1.heap o "com/example/quire/quire/values/internal/FieldLayout" "table" "[J" .null := by rw [f1]; exact F_o_table_0
  have F_o_docCount_1 : Fld Z T1.heap o "com/example/quire/quire/values/internal/FieldLayout" "docCount" "I" (.int 0) := by rw [f1]; exact F_o_docCount_0
  have F_o_counts_1 : Fld Z T1.heap o "com/example/quire/quire/values/internal/FieldLayout" "counts" "[I" .null := by rw [f1]; exact F_o_counts_0
  have F_o_widths_1 : Fld Z T1.heap o "com/example/quire/quire/values/internal/FieldLayout" "widths" "[I" .null := by rw [f1]; exact F_o_widths_0
  have F_o_minimums_1 : Fld Z T1.heap o "com/example/quire/quire/values/internal/FieldLayout" "minimums" "[J" .null := by rw [f1]; exact F_o_minimums_0
  have F_o_firstParts_1 : Fld Z T1.heap o "com/example/quire/quire/values/internal/FieldLayout" "firstParts" "[I" .null := by rw [f1]; exact F_o_firstParts_0
  have F_o_checksums_1 : Fld Z T1.heap o "com/example/quire/quire/values/internal/FieldLayout" "checksums" "[I" .null := by rw [f1]; exact F_o_checksums_0
  have E_o_1 : Exa Z T1.heap o "com/example/quire/quire/values/internal/FieldLayout" := by rw [f1]; exact E_o_0
  have Z_1 : n0 ≤ T1.heap.size := by rw [f1]; exact Z_0
  have W1 : OwnGo.Wk p.tables T1 m c below prog_161_method_1_code := ⟨X1.here, hx, hby⟩
  refine OwnGo.aloadN W1 (pn := 5) d1_4 rfl rfl rfl ?_
  refine OwnGo.iloadN W1 (pn := 6) d1_5 rfl rfl ?_
  refine OwnGo.putf X1 hx hby hZ hown (pn := 9) (hw _ (List.mem_of_getElem? (i := 18) rfl)) F_o_number_1 E_o_1 (Or.inr ⟨(hw _ (List.mem_of_getElem? (i := 19) rfl)), rfl, hnm⟩) (hw _ (List.mem_of_getElem? (i := 4) rfl)) pf_0 rfl rfl ho N0 d1_6 rfl (fun T2 L2 X2 N2 Wr2 => ?_)
  have F_o_number_2 : Fld Z T2.heap o "com/example/quire/quire/values/internal/FieldLayout" "number" "I" (.int p1) := F_o_number_1.same Wr2
  have F_o_kind_2 : Fld Z T2.heap o "com/example/quire/quire/values/internal/FieldLayout" "kind" "Lcom/example/quire/quire/document/FieldType;" .null := F_o_kind_1.other Wr2 (Or.inr (slot_ne (Or.inr (hw _ (List.mem_of_getElem? (i := 21) rfl))) (Or.inr (hw _ (List.mem_of_getElem? (i := 19) rfl))) (by decide) pf_1 pf_0))
  have F_o_encoding_2 : Fld Z T2.heap o "com/example/quire/quire/values/internal/FieldLayout" "encoding" "Lcom/example/quire/quire/values/NumericEncoding;" .null := F_o_encoding_1.other Wr2 (Or.inr (slot_ne (Or.inr (hw _ (List.mem_of_getElem? (i := 23) rfl))) (Or.inr (hw _ (List.mem_of_getElem? (i := 19) rfl))) (by decide) pf_2 pf_0))
  have F_o_divisor_2 : Fld Z T2.heap o "com/example/quire/quire/values/internal/FieldLayout" "divisor" "J" (.long 0) := F_o_divisor_1.other Wr2 (Or.inr (slot_ne (Or.inr (hw _ (List.mem_of_getElem? (i := 25) rfl))) (Or.inr (hw _ (List.mem_of_getElem? (i := 19) rfl))) (by decide) pf_3 pf_0))
  have F_o_table_2 : Fld Z T2.heap o "com/example/quire/quire/values/internal/FieldLayout" "table" "[J" .null := F_o_table_1.other Wr2 (Or.inr (slot_ne (Or.inr (hw _ (List.mem_of_getElem? (i := 27) rfl))) (Or.inr (hw _ (List.mem_of_getElem? (i := 19) rfl))) (by decide) pf_4 pf_0))
  have F_o_docCount_2 : Fld Z T2.heap o "com/example/quire/quire/values/internal/FieldLayout" "docCount" "I" (.int 0) := F_o_docCount_1.other Wr2 (Or.inr (slot_ne (Or.inr (hw _ (List.mem_of_getElem? (i := 29) rfl))) (Or.inr (hw _ (List.mem_of_getElem? (i := 19) rfl))) (by decide) pf_0 pf_0))
  have F_o_counts_2 : Fld Z T2.heap o "com/example/quire/quire/values/internal/FieldLayout" "counts" "[I" .null := F_o_counts_1.other Wr2 (Or.inr (slot_ne (Or.inr (hw _ (List.mem_of_getElem? (i := 31) rfl))) (Or.inr (hw _ (List.mem_of_getElem? (i := 19) rfl))) (by decide) pf_6 pf_0))
  have F_o_widths_2 : Fld Z T2.heap o "com/example/quire/quire/values/internal/FieldLayout" "widths" "[I" .null := F_o_widths_1.other Wr2 (Or.inr (slot_ne (Or.inr (hw _ (List.mem_of_getElem? (i := 33) rfl))) (Or.inr (hw _ (List.mem_of_getElem? (i := 19) rfl))) (by decide) pf_6 pf_0))
  have F_o_minimums_2 : Fld Z T2.heap o "com/example/quire/quire/values/internal/FieldLayout" "minimums" "[J" .null := F_o_minimums_1.other Wr2 (Or.inr (slot_ne (Or.inr (hw _ (List.mem_of_getElem? (i := 35) rfl))) (Or.inr (hw _ (List.mem_of_getElem? (i := 19) rfl))) (by decide) pf_4 pf_0))
  have F_o_firstParts_2 : Fld Z T2.heap o "com/example/quire/quire/values/internal/FieldLayout" "firstParts" "[I" .null := F_o_firstParts_1.other Wr2 (Or.inr (slot_ne (Or.inr (hw _ (List.mem_of_getElem? (i := 37) rfl))) (Or.inr (hw _ (List.mem_of_getElem? (i := 19) rfl))) (by decide) pf_6 pf_0))
  have F_o_checksums_2 : Fld Z T2.heap o "com/example/quire/quire/values/internal/FieldLayout" "checksums" "[I" .null := F_o_checksums_1.other Wr2 (Or.inr (slot_ne (Or.inr (hw _ (List.mem_of_getElem? (i := 39) rfl))) (Or.inr (hw _ (List.mem_of_getElem? (i := 19) rfl))) (by decide) pf_6 pf_0))
  have E_o_2 : Exa Z T2.heap o "com/example/quire/quire/values/internal/FieldLayout" := E_o_1.wr Wr2
  have Aca_2 := Aca_1.other Wr2 ne_ca_o
  have Awa_2 := Awa_1.other Wr2 ne_wa_o
  have Z_2 : n0 ≤ T2.heap.size := by rw [Wr2.size]; exact Z_1
  have W2 : OwnGo.Wk p.tables T2 m c below prog_161_method_1_code := ⟨X2.here, hx, hby⟩
  refine OwnGo.aloadN W2 (pn := 10) d1_9 rfl rfl rfl ?_
  refine OwnGo.aloadN W2 (pn := 11) d1_10 rfl rfl rfl ?_
  refine OwnGo.putf X2 hx hby hZ hown (pn := 14) (hw _ (List.mem_of_getElem? (i := 20) rfl)) F_o_kind_2 E_o_2 (Or.inr ⟨(hw _ (List.mem_of_getElem? (i := 21) rfl)), rfl, hnm⟩) (hw _ (List.mem_of_getElem? (i := 4) rfl)) pf_1 rfl rfl ho N2 d1_11 rfl (fun T3 L3 X3 N3 Wr3 => ?_)
  have F_o_kind_3 : Fld Z T3.heap o "com/example/quire/quire/values/internal/FieldLayout" "kind" "Lcom/example/quire/quire/document/FieldType;" (.ref k2) := F_o_kind_2.same Wr3
  have F_o_encoding_3 : Fld Z T3.heap o "com/example/quire/quire/values/internal/FieldLayout" "encoding" "Lcom/example/quire/quire/values/NumericEncoding;" .null := F_o_encoding_2.other Wr3 (Or.inr (slot_ne (Or.inr (hw _ (List.mem_of_getElem? (i := 23) rfl))) (Or.inr (hw _ (List.mem_of_getElem? (i := 21) rfl))) (by decide) pf_2 pf_1))
  have F_o_divisor_3 : Fld Z T3.heap o "com/example/quire/quire/values/internal/FieldLayout" "divisor" "J" (.long 0) := F_o_divisor_2.other Wr3 (Or.inr (slot_ne (Or.inr (hw _ (List.mem_of_getElem? (i := 25) rfl))) (Or.inr (hw _ (List.mem_of_getElem? (i := 21) rfl))) (by decide) pf_3 pf_1))
  have F_o_table_3 : Fld Z T3.heap o "com/example/quire/quire/values/internal/FieldLayout" "table" "[J" .null := F_o_table_2.other Wr3 (Or.inr (slot_ne (Or.inr (hw _ (List.mem_of_getElem? (i := 27) rfl))) (Or.inr (hw _ (List.mem_of_getElem? (i := 21) rfl))) (by decide) pf_4 pf_1))
  have F_o_docCount_3 : Fld Z T3.heap o "com/example/quire/quire/values/internal/FieldLayout" "docCount" "I" (.int 0) := F_o_docCount_2.other Wr3 (Or.inr (slot_ne (Or.inr (hw _ (List.mem_of_getElem? (i := 29) rfl))) (Or.inr (hw _ (List.mem_of_getElem? (i := 21) rfl))) (by decide) pf_0 pf_1))
  have F_o_counts_3 : Fld Z T3.heap o "com/example/quire/quire/values/internal/FieldLayout" "counts" "[I" .null := F_o_counts_2.other Wr3 (Or.inr (slot_ne (Or.inr (hw _ (List.mem_of_getElem? (i := 31) rfl))) (Or.inr (hw _ (List.mem_of_getElem? (i := 21) rfl))) (by decide) pf_6 pf_1))
  have F_o_widths_3 : Fld Z T3.heap o "com/example/quire/quire/values/internal/FieldLayout" "widths" "[I" .null := F_o_widths_2.other Wr3 (Or.inr (slot_ne (Or.inr (hw _ (List.mem_of_getElem? (i := 33) rfl))) (Or.inr (hw _ (List.mem_of_getElem? (i := 21) rfl))) (by decide) pf_6 pf_1))
  have F_o_minimums_3 : Fld Z T3.heap o "com/example/quire/quire/values/internal/FieldLayout" "minimums" "[J" .null := F_o_minimums_2.other Wr3 (Or.inr (slot_ne (Or.inr (hw _ (List.mem_of_getElem? (i := 35) rfl))) (Or.inr (hw _ (List.mem_of_getElem? (i := 21) rfl))) (by decide) pf_4 pf_1))
  have F_o_firstParts_3 : Fld Z T3.heap o "com/example/quire/quire/values/internal/FieldLayout" "firstParts" "[I" .null := F_o_firstParts_2.other Wr3 (Or.inr (slot_ne (Or.inr (hw _ (List.mem_of_getElem? (i := 37) rfl))) (Or.inr (hw _ (List.mem_of_getElem? (i := 21) rfl))) (by decide) pf_6 pf_1))
  have F_o_checksums_3 : Fld Z T3.heap o "com/example/quire/quire/values/internal/FieldLayout" "checksums" "[I" .null := F_o_checksums_2.other Wr3 (Or.inr (slot_ne (Or.inr (hw _ (List.mem_of_getElem? (i := 39) rfl))) (Or.inr (hw _ (List.mem_of_getElem? (i := 21) rfl))) (by decide) pf_6 pf_1))
  have E_o_3 : Exa Z T3.heap o "com/example/quire/quire/values/internal/FieldLayout" := E_o_2.wr Wr3
  have Aca_3 := Aca_2.other Wr3 ne_ca_o
  have Awa_3 := Awa_2.other Wr3 ne_wa_o
  have Z_3 : n0 ≤ T3.heap.size := by rw [Wr3.size]; exact Z_2
  have W3 : OwnGo.Wk p.tables T3 m c below prog_161_method_1_code := ⟨X3.here, hx, hby⟩
  refine OwnGo.aloadN W3 (pn := 15) d1_14 rfl rfl rfl ?_
  refine OwnGo.aloadN W3 (pn := 16) d1_15 rfl rfl rfl ?_
  refine OwnGo.putf X3 hx hby hZ hown (pn := 19) (hw _ (List.mem_of_getElem? (i := 22) rfl)) F_o_encoding_3 E_o_3 (Or.inr ⟨(hw _ (List.mem_of_getElem? (i := 23) rfl)), rfl, hnm⟩) (hw _ (List.mem_of_getElem? (i := 4) rfl)) pf_2 rfl rfl ho N3 d1_16 rfl (fun T4 L4 X4 N4 Wr4 => ?_)
  have F_o_encoding_4 : Fld Z T4.heap o "com/example/quire/quire/values/internal/FieldLayout" "encoding" "Lcom/example/quire/quire/values/NumericEncoding;" (.ref k3) := F_o_encoding_3.same Wr4
  have F_o_divisor_4 : Fld Z T4.heap o "com/example/quire/quire/values/internal/FieldLayout" "divisor" "J" (.long 0) := F_o_divisor_3.other Wr4 (Or.inr (slot_ne (Or.inr (hw _ (List.mem_of_getElem? (i := 25) rfl))) (Or.inr (hw _ (List.mem_of_getElem? (i := 23) rfl))) (by decide) pf_3 pf_2))
  have F_o_table_4 : Fld Z T4.heap o "com/example/quire/quire/values/internal/FieldLayout" "table" "[J" .null := F_o_table_3.other Wr4 (Or.inr (slot_ne (Or.inr (hw _ (List.mem_of_getElem? (i := 27) rfl))) (Or.inr (hw _ (List.mem_of_getElem? (i := 23) rfl))) (by decide) pf_4 pf_2))
  have F_o_docCount_4 : Fld Z T4.heap o "com/example/quire/quire/values/internal/FieldLayout" "docCount" "I" (.int 0) := F_o_docCount_3.other Wr4 (Or.inr (slot_ne (Or.inr (hw _ (List.mem_of_getElem? (i := 29) rfl))) (Or.inr (hw _ (List.mem_of_getElem? (i := 23) rfl))) (by decide) pf_0 pf_2))
  have F_o_counts_4 : Fld Z T4.heap o "com/example/quire/quire/values/internal/FieldLayout" "counts" "[I" .null := F_o_counts_3.other Wr4 (Or.inr (slot_ne (Or.inr (hw _ (List.mem_of_getElem? (i := 31) rfl))) (Or.inr (hw _ (List.mem_of_getElem? (i := 23) rfl))) (by decide) pf_6 pf_2))
  have F_o_widths_4 : Fld Z T4.heap o "com/example/quire/quire/values/internal/FieldLayout" "widths" "[I" .null := F_o_widths_3.other Wr4 (Or.inr (slot_ne (Or.inr (hw _ (List.mem_of_getElem? (i := 33) rfl))) (Or.inr (hw _ (List.mem_of_getElem? (i := 23) rfl))) (by decide) pf_6 pf_2))
  have F_o_minimums_4 : Fld Z T4.heap o "com/example/quire/quire/values/internal/FieldLayout" "minimums" "[J" .null := F_o_minimums_3.other Wr4 (Or.inr (slot_ne (Or.inr (hw _ (List.mem_of_getElem? (i := 35) rfl))) (Or.inr (hw _ (List.mem_of_getElem? (i := 23) rfl))) (by decide) pf_4 pf_2))
  have F_o_firstParts_4 : Fld Z T4.heap o "com/example/quire/quire/values/internal/FieldLayout" "firstParts" "[I" .null := F_o_firstParts_3.other Wr4 (Or.inr (slot_ne (Or.inr (hw _ (List.mem_of_getElem? (i := 37) rfl))) (Or.inr (hw _ (List.mem_of_getElem? (i := 23) rfl))) (by decide) pf_6 pf_2))
  have F_o_checksums_4 : Fld Z T4.heap o "com/example/quire/quire/values/internal/FieldLayout" "checksums" "[I" .null := F_o_checksums_3.other Wr4 (Or.inr (slot_ne (Or.inr (hw _ (List.mem_of_getElem? (i := 39) rfl))) (Or.inr (hw _ (List.mem_of_getElem? (i := 23) rfl))) (by decide) pf_6 pf_2))
  have E_o_4 : Exa Z T4.heap o "com/example/quire/quire/values/internal/FieldLayout" := E_o_3.wr Wr4
  have Aca_4 := Aca_3.other Wr4 ne_ca_o
  have Awa_4 := Awa_3.other Wr4 ne_wa_o
  have Z_4 : n0 ≤ T4.heap.size := by rw [Wr4.size]; exact Z_3
  have W4 : OwnGo.Wk p.tables T4 m c below prog_161_method_1_code := ⟨X4.here, hx, hby⟩
  refine OwnGo.aloadN W4 (pn := 20) d1_19 rfl rfl rfl ?_
  refine OwnGo.lload W4 (pn := 22) d1_20 rfl rfl ?_
  refine OwnGo.putf X4 hx hby hZ hown (pn := 25) (hw _ (List.mem_of_getElem? (i := 24) rfl)) F_o_divisor_4 E_o_4 (Or.inr ⟨(hw _ (List.mem_of_getElem? (i := 25) rfl)), rfl, hnm⟩) (hw _ (List.mem_of_getElem? (i := 4) rfl)) pf_3 rfl rfl ho N4 d1_22 rfl (fun T5 L5 X5 N5 Wr5 => ?_)
  have F_o_divisor_5 : Fld Z T5.heap o "com/example/quire/quire/values/internal/FieldLayout" "divisor" "J" (.long q4) := F_o_divisor_4.same Wr5
  have F_o_table_5 : Fld Z T5.heap o "com/example/quire/quire/values/internal/FieldLayout" "table" "[J" .null := F_o_table_4.other Wr5 (Or.inr (slot_ne (Or.inr (hw _ (List.mem_of_getElem? (i := 27) rfl))) (Or.inr (hw _ (List.mem_of_getElem? (i := 25) rfl))) (by decide) pf_4 pf_3))
  have F_o_docCount_5 : Fld Z T5.heap o "com/example/quire/quire/values/internal/FieldLayout" "docCount" "I" (.int 0) := F_o_docCount_4.other Wr5 (Or.inr (slot_ne (Or.inr (hw _ (List.mem_of_getElem? (i := 29) rfl))) (Or.inr (hw _ (List.mem_of_getElem? (i := 25) rfl))) (by decide) pf_0 pf_3))
  have F_o_counts_5 : Fld Z T5.heap o "com/example/quire/quire/values/internal/FieldLayout" "counts" "[I" .null := F_o_counts_4.other Wr5 (Or.inr (slot_ne (Or.inr (hw _ (List.mem_of_getElem? (i := 31) rfl))) (Or.inr (hw _ (List.mem_of_getElem? (i := 25) rfl))) (by decide) pf_6 pf_3))
  have F_o_widths_5 : Fld Z T5.heap o "com/example/quire/quire/values/internal/FieldLayout" "widths" "[I" .null := F_o_widths_4.other Wr5 (Or.inr (slot_ne (Or.inr (hw _ (List.mem_of_getElem? (i := 33) rfl))) (Or.inr (hw _ (List.mem_of_getElem? (i := 25) rfl))) (by decide) pf_6 pf_3))
  have F_o_minimums_5 : Fld Z T5.heap o "com/example/quire/quire/values/internal/FieldLayout" "minimums" "[J" .null := F_o_minimums_4.other Wr5 (Or.inr (slot_ne (Or.inr (hw _ (List.mem_of_getElem? (i := 35) rfl))) (Or.inr (hw _ (List.mem_of_getElem? (i := 25) rfl))) (by decide) pf_4 pf_3))
  have F_o_firstParts_5 : Fld Z T5.heap o "com/example/quire/quire/values/internal/FieldLayout" "firstParts" "[I" .null := F_o_firstParts_4.other Wr5 (Or.inr (slot_ne (Or.inr (hw _ (List.mem_of_getElem? (i := 37) rfl))) (Or.inr (hw _ (List.mem_of_getElem? (i := 25) rfl))) (by decide) pf_6 pf_3))
  have F_o_checksums_5 : Fld Z T5.heap o "com/example/quire/quire/values/internal/FieldLayout" "checksums" "[I" .null := F_o_checksums_4.other Wr5 (Or.inr (slot_ne (Or.inr (hw _ (List.mem_of_getElem? (i := 39) rfl))) (Or.inr (hw _ (List.mem_of_getElem? (i := 25) rfl))) (by decide) pf_6 pf_3))
  have E_o_5 : Exa Z T5.heap o "com/example/quire/quire/values/internal/FieldLayout" := E_o_4.wr Wr5
  have Aca_5 := Aca_4.other Wr5 ne_ca_o
  have Awa_5 := Awa_4.other Wr5 ne_wa_o
  have Z_5 : n0 ≤ T5.heap.size := by rw [Wr5.size]; exact Z_4
  have W5 : OwnGo.Wk p.tables T5 m c below prog_161_method_1_code := ⟨X5.here, hx, hby⟩
  refine OwnGo.aloadN W5 (pn := 26) d1_25 rfl rfl rfl ?_
  refine OwnGo.aload W5 (pn := 28) d1_26 rfl rfl rfl ?_
  refine OwnGo.putf X5 hx hby hZ hown (pn := 31) (hw _ (List.mem_of_getElem? (i := 26) rfl)) F_o_table_5 E_o_5 (Or.inr ⟨(hw _ (List.mem_of_getElem? (i := 27) rfl)), rfl, hnm⟩) (hw _ (List.mem_of_getElem? (i := 4) rfl)) pf_4 rfl rfl ho N5 d1_28 rfl (fun T6 L6 X6 N6 Wr6 => ?_)
  have F_o_table_6 : Fld Z T6.heap o "com/example/quire/quire/values/internal/FieldLayout" "table" "[J" (.ref ta) := F_o_table_5.same Wr6
  have F_o_docCount_6 : Fld Z T6.heap o "com/example/quire/quire/values/internal/FieldLayout" "docCount" "I" (.int 0) := F_o_docCount_5.other Wr6 (Or.inr (slot_ne (Or.inr (hw _ (List.mem_of_getElem? (i := 29) rfl))) (Or.inr (hw _ (List.mem_of_getElem? (i := 27) rfl))) (by decide) pf_0 pf_4))
  have F_o_counts_6 : Fld Z T6.heap o "com/example/quire/quire/values/internal/FieldLayout" "counts" "[I" .null := F_o_counts_5.other Wr6 (Or.inr (slot_ne (Or.inr (hw _ (List.mem_of_getElem? (i := 31) rfl))) (Or.inr (hw _ (List.mem_of_getElem? (i := 27) rfl))) (by decide) pf_6 pf_4))
  have F_o_widths_6 : Fld Z T6.heap o "com/example/quire/quire/values/internal/FieldLayout" "widths" "[I" .null := F_o_widths_5.other Wr6 (Or.inr (slot_ne (Or.inr (hw _ (List.mem_of_getElem? (i := 33) rfl))) (Or.inr (hw _ (List.mem_of_getElem? (i := 27) rfl))) (by decide) pf_6 pf_4))
  have F_o_minimums_6 : Fld Z T6.heap o "com/example/quire/quire/values/internal/FieldLayout" "minimums" "[J" .null := F_o_minimums_5.other Wr6 (Or.inr (slot_ne (Or.inr (hw _ (List.mem_of_getElem? (i := 35) rfl))) (Or.inr (hw _ (List.mem_of_getElem? (i := 27) rfl))) (by decide) pf_4 pf_4))
  have F_o_firstParts_6 : Fld Z T6.heap o "com/example/quire/quire/values/internal/FieldLayout" "firstParts" "[I" .null := F_o_firstParts_5.other Wr6 (Or.inr (slot_ne (Or.inr (hw _ (List.mem_of_getElem? (i := 37) rfl))) (Or.inr (hw _ (List.mem_of_getElem? (i := 27) rfl))) (by decide) pf_6 pf_4))
  have F_o_checksums_6 : Fld Z T6.heap o "com/example/quire/quire/values/internal/FieldLayout" "checksums" "[I" .null := F_o_checksums_5.other Wr6 (Or.inr (slot_ne (Or.inr (hw _ (List.mem_of_getElem? (i := 39) rfl))) (Or.inr (hw _ (List.mem_of_getElem? (i := 27) rfl))) (by decide) pf_6 pf_4))
  have E_o_6 : Exa Z T6.heap o "com/example/quire/quire/values/internal/FieldLayout" := E_o_5.wr Wr6
  have Aca_6 := Aca_5.other Wr6 ne_ca_o
  have Awa_6 := Awa_5.other Wr6 ne_wa_o
  have Z_6 : n0 ≤ T6.heap.size := by rw [Wr6.size]; exact Z_5
  have W6 : OwnGo.Wk p.tables T6 m c below prog_161_method_1_code := ⟨X6.here, hx, hby⟩
  refine OwnGo.aloadN W6 (pn := 32) d1_31 rfl rfl rfl ?_
  refine OwnGo.iload W6 (pn := 34) d1_32 rfl rfl ?_
  refine OwnGo.putf X6 hx hby hZ hown (pn := 37) (hw _ (List.mem_of_getElem? (i := 28) rfl)) F_o_docCount_6 E_o_6 (Or.inr ⟨(hw _ (List.mem_of_getElem? (i := 29) rfl)), rfl, hnm⟩) (hw _ (List.mem_of_getElem? (i := 4) rfl)) pf_0 rfl rfl ho N6 d1_34 rfl (fun T7 L7 X7 N7 Wr7 => ?_)
  have F_o_docCount_7 : Fld Z T7.heap o "com/example/quire/quire/values/internal/FieldLayout" "docCount" "I" (.int p7) := F_o_docCount_6.same Wr7
  have F_o_counts_7 : Fld Z T7.heap o "com/example/quire/quire/values/internal/FieldLayout" "counts" "[I" .null := F_o_counts_6.other Wr7 (Or.inr (slot_ne (Or.inr (hw _ (List.mem_of_getElem? (i := 31) rfl))) (Or.inr (hw _ (List.mem_of_getElem? (i := 29) rfl))) (by decide) pf_6 pf_0))
  have F_o_widths_7 : Fld Z T7.heap o "com/example/quire/quire/values/internal/FieldLayout" "widths" "[I" .null := F_o_widths_6.other Wr7 (Or.inr (slot_ne (Or.inr (hw _ (List.mem_of_getElem? (i := 33) rfl))) (Or.inr (hw _ (List.mem_of_getElem? (i := 29) rfl))) (by decide) pf_6 pf_0))
  have F_o_minimums_7 : Fld Z T7.heap o "com/example/quire/quire/values/internal/FieldLayout" "minimums" "[J" .null := F_o_minimums_6.other Wr7 (Or.inr (slot_ne (Or.inr (hw _ (List.mem_of_getElem? (i := 35) rfl))) (Or.inr (hw _ (List.mem_of_getElem? (i := 29) rfl))) (by decide) pf_4 pf_0))
  have F_o_firstParts_7 : Fld Z T7.heap o "com/example/quire/quire/values/internal/FieldLayout" "firstParts" "[I" .null := F_o_firstParts_6.other Wr7 (Or.inr (slot_ne (Or.inr (hw _ (List.mem_of_getElem? (i := 37) rfl))) (Or.inr (hw _ (List.mem_of_getElem? (i := 29) rfl))) (by decide) pf_6 pf_0))
  have F_o_checksums_7 : Fld Z T7.heap o "com/example/quire/quire/values/internal/FieldLayout" "checksums" "[I" .null := F_o_checksums_6.other Wr7 (Or.inr (slot_ne (Or.inr (hw _ (List.mem_of_getElem? (i := 39) rfl))) (Or.inr (hw _ (List.mem_of_getElem? (i := 29) rfl))) (by decide) pf_6 pf_0))
  have E_o_7 : Exa Z T7.heap o "com/example/quire/quire/values/internal/FieldLayout" := E_o_6.wr Wr7
  have Aca_7 := Aca_6.other Wr7 ne_ca_o
  have Awa_7 := Awa_6.other Wr7 ne_wa_o
  have Z_7 : n0 ≤ T7.heap.size := by rw [Wr7.size]; exact Z_6
  have W7 : OwnGo.Wk p.tables T7 m c below prog_161_method_1_code := ⟨X7.here, hx, hby⟩
  refine OwnGo.aloadN W7 (pn := 38) d1_37 rfl rfl rfl ?_
  refine OwnGo.aload W7 (pn := 40) d1_38 rfl rfl rfl ?_
  refine OwnGo.putf X7 hx hby hZ hown (pn := 43) (hw _ (List.mem_of_getElem? (i := 30) rfl)) F_o_counts_7 E_o_7 (Or.inr ⟨(hw _ (List.mem_of_getElem? (i := 31) rfl)), rfl, hnm⟩) (hw _ (List.mem_of_getElem? (i := 4) rfl)) pf_6 rfl rfl ho N7 d1_40 rfl (fun T8 L8 X8 N8 Wr8 => ?_)
  have F_o_docCount_8 : Fld Z T8.heap o "com/example/quire/quire/values/internal/FieldLayout" "docCount" "I" (.int p7) := F_o_docCount_7.other Wr8 (Or.inr (slot_ne (Or.inr (hw _ (List.mem_of_getElem? (i := 29) rfl))) (Or.inr (hw _ (List.mem_of_getElem? (i := 31) rfl))) (by decide) pf_0 pf_6))
  have F_o_counts_8 : Fld Z T8.heap o "com/example/quire/quire/values/internal/FieldLayout" "counts" "[I" (.ref ca) := F_o_counts_7.same Wr8
  have F_o_widths_8 : Fld Z T8.heap o "com/example/quire/quire/values/internal/FieldLayout" "widths" "[I" .null := F_o_widths_7.other Wr8 (Or.inr (slot_ne (Or.inr (hw _ (List.mem_of_getElem? (i := 33) rfl))) (Or.inr (hw _ (List.mem_of_getElem? (i := 31) rfl))) (by decide) pf_6 pf_6))
  have F_o_minimums_8 : Fld Z T8.heap o "com/example/quire/quire/values/internal/FieldLayout" "minimums" "[J" .null := F_o_minimums_7.other Wr8 (Or.inr (slot_ne (Or.inr (hw _ (List.mem_of_getElem? (i := 35) rfl))) (Or.inr (hw _ (List.mem_of_getElem? (i := 31) rfl))) (by decide) pf_4 pf_6))
  have F_o_firstParts_8 : Fld Z T8.heap o "com/example/quire/quire/values/internal/FieldLayout" "firstParts" "[I" .null := F_o_firstParts_7.other Wr8 (Or.inr (slot_ne (Or.inr (hw _ (List.mem_of_getElem? (i := 37) rfl))) (Or.inr (hw _ (List.mem_of_getElem? (i := 31) rfl))) (by decide) pf_6 pf_6))
  have F_o_checksums_8 : Fld Z T8.heap o "com/example/quire/quire/values/internal/FieldLayout" "checksums" "[I" .null := F_o_checksums_7.other Wr8 (Or.inr (slot_ne (Or.inr (hw _ (List.mem_of_getElem? (i := 39) rfl))) (Or.inr (hw _ (List.mem_of_getElem? (i := 31) rfl))) (by decide) pf_6 pf_6))
  have E_o_8 : Exa Z T8.heap o "com/example/quire/quire/values/internal/FieldLayout" := E_o_7.wr Wr8
  have Aca_8 := Aca_7.other Wr8 ne_ca_o
  have Awa_8 := Awa_7.other Wr8 ne_wa_o
  have Z_8 : n0 ≤ T8.heap.size := by rw [Wr8.size]; exact Z_7
  have W8 : OwnGo.Wk p.tables T8 m c below prog_161_method_1_code := ⟨X8.here, hx, hby⟩
  refine OwnGo.aloadN W8 (pn := 44) d1_43 rfl rfl rfl ?_
  refine OwnGo.aload W8 (pn := 46) d1_44 rfl rfl rfl ?_
  refine OwnGo.putf X8 hx hby hZ hown (pn := 49) (hw _ (List.mem_of_getElem? (i := 32) rfl)) F_o_widths_8 E_o_8 (Or.inr ⟨(hw _ (List.mem_of_getElem? (i := 33) rfl)), rfl, hnm⟩) (hw _ (List.mem_of_getElem? (i := 4) rfl)) pf_6 rfl rfl ho N8 d1_46 rfl (fun T9 L9 X9 N9 Wr9 => ?_)
  have F_o_docCount_9 : Fld Z T9.heap o "com/example/quire/quire/values/internal/FieldLayout" "docCount" "I" (.int p7) := F_o_docCount_8.other Wr9 (Or.inr (slot_ne (Or.inr (hw _ (List.mem_of_getElem? (i := 29) rfl))) (Or.inr (hw _ (List.mem_of_getElem? (i := 33) rfl))) (by decide) pf_0 pf_6))
  have F_o_counts_9 : Fld Z T9.heap o "com/example/quire/quire/values/internal/FieldLayout" "counts" "[I" (.ref ca) := F_o_counts_8.other Wr9 (Or.inr (slot_ne (Or.inr (hw _ (List.mem_of_getElem? (i := 31) rfl))) (Or.inr (hw _ (List.mem_of_getElem? (i := 33) rfl))) (by decide) pf_6 pf_6))
  have F_o_widths_9 : Fld Z T9.heap o "com/example/quire/quire/values/internal/FieldLayout" "widths" "[I" (.ref wa) := F_o_widths_8.same Wr9
  have F_o_minimums_9 : Fld Z T9.heap o "com/example/quire/quire/values/internal/FieldLayout" "minimums" "[J" .null := F_o_minimums_8.other Wr9 (Or.inr (slot_ne (Or.inr (hw _ (List.mem_of_getElem? (i := 35) rfl))) (Or.inr (hw _ (List.mem_of_getElem? (i := 33) rfl))) (by decide) pf_4 pf_6))
  have F_o_firstParts_9 : Fld Z T9.heap o "com/example/quire/quire/values/internal/FieldLayout" "firstParts" "[I" .null := F_o_firstParts_8.other Wr9 (Or.inr (slot_ne (Or.inr (hw _ (List.mem_of_getElem? (i := 37) rfl))) (Or.inr (hw _ (List.mem_of_getElem? (i := 33) rfl))) (by decide) pf_6 pf_6))
  have F_o_checksums_9 : Fld Z T9.heap o "com/example/quire/quire/values/internal/FieldLayout" "checksums" "[I" .null := F_o_checksums_8.other Wr9 (Or.inr (slot_ne (Or.inr (hw _ (List.mem_of_getElem? (i := 39) rfl))) (Or.inr (hw _ (List.mem_of_getElem? (i := 33) rfl))) (by decide) pf_6 pf_6))
  have E_o_9 : Exa Z T9.heap o "com/example/quire/quire/values/internal/FieldLayout" := E_o_8.wr Wr9
  have Aca_9 := Aca_8.other Wr9 ne_ca_o
  have Awa_9 := Awa_8.other Wr9 ne_wa_o
  have Z_9 : n0 ≤ T9.heap.size := by rw [Wr9.size]; exact Z_8
  have W9 : OwnGo.Wk p.tables T9 m c below prog_161_method_1_code := ⟨X9.here, hx, hby⟩
  refine OwnGo.aloadN W9 (pn := 50) d1_49 rfl rfl rfl ?_
  refine OwnGo.aload W9 (pn := 52) d1_50 rfl rfl rfl ?_
  refine OwnGo.putf X9 hx hby hZ hown (pn := 55) (hw _ (List.mem_of_getElem? (i := 34) rfl)) F_o_minimums_9 E_o_9 (Or.inr ⟨(hw _ (List.mem_of_getElem? (i := 35) rfl)), rfl, hnm⟩) (hw _ (List.mem_of_getElem? (i := 4) rfl)) pf_4 rfl rfl ho N9 d1_52 rfl (fun T10 L10 X10 N10 Wr10 => ?_)
  have F_o_docCount_10 : Fld Z T10.heap o "com/example/quire/quire/values/internal/FieldLayout" "docCount" "I" (.int p7) := F_o_docCount_9.other Wr10 (Or.inr (slot_ne (Or.inr (hw _ (List.mem_of_getElem? (i := 29) rfl))) (Or.inr (hw _ (List.mem_of_getElem? (i := 35) rfl))) (by decide) pf_0 pf_4))
  have F_o_counts_10 : Fld Z T10.heap o "com/example/quire/quire/values/internal/FieldLayout" "counts" "[I" (.ref ca) := F_o_counts_9.other Wr10 (Or.inr (slot_ne (Or.inr (hw _ (List.mem_of_getElem? (i := 31) rfl))) (Or.inr (hw _ (List.mem_of_getElem? (i := 35) rfl))) (by decide) pf_6 pf_4))
  have F_o_widths_10 : Fld Z T10.heap o "com/example/quire/quire/values/internal/FieldLayout" "widths" "[I" (.ref wa) := F_o_widths_9.other Wr10 (Or.inr (slot_ne (Or.inr (hw _ (List.mem_of_getElem? (i := 33) rfl))) (Or.inr (hw _ (List.mem_of_getElem? (i := 35) rfl))) (by decide) pf_6 pf_4))
  have F_o_minimums_10 : Fld Z T10.heap o "com/example/quire/quire/values/internal/FieldLayout" "minimums" "[J" (.ref ma) := F_o_minimums_9.same Wr10
  have F_o_firstParts_10 : Fld Z T10.heap o "com/example/quire/quire/values/internal/FieldLayout" "firstParts" "[I" .null := F_o_firstParts_9.other Wr10 (Or.inr (slot_ne (Or.inr (hw _ (List.mem_of_getElem? (i := 37) rfl))) (Or.inr (hw _ (List.mem_of_getElem? (i := 35) rfl))) (by decide) pf_6 pf_4))
  have F_o_checksums_10 : Fld Z T10.heap o "com/example/quire/quire/values/internal/FieldLayout" "checksums" "[I" .null := F_o_checksums_9.other Wr10 (Or.inr (slot_ne (Or.inr (hw _ (List.mem_of_getElem? (i := 39) rfl))) (Or.inr (hw _ (List.mem_of_getElem? (i := 35) rfl))) (by decide) pf_6 pf_4))
  have E_o_10 : Exa Z T10.heap o "com/example/quire/quire/values/internal/FieldLayout" := E_o_9.wr Wr10
  have Aca_10 := Aca_9.other Wr10 ne_ca_o
  have Awa_10 := Awa_9.other Wr10 ne_wa_o
  have Z_10 : n0 ≤ T10.heap.size := by rw [Wr10.size]; exact Z_9
  have W10 : OwnGo.Wk p.tables T10 m c below prog_161_method_1_code := ⟨X10.here, hx, hby⟩
  refine OwnGo.aloadN W10 (pn := 56) d1_55 rfl rfl rfl ?_
  refine OwnGo.aload W10 (pn := 58) d1_56 rfl rfl rfl ?_
  refine OwnGo.arrlen X10 hx hby hZ (pn := 59) Aca_10 (v := nn) hnn d1_58 rfl ?_
  refine OwnGo.iconst (v := (1 : Int32)) W10 (pn := 60) d1_59 rfl rfl ?_
  refine OwnGo.iadd W10 (pn := 61) d1_60 rfl ?_
  have nn1 := own_ad nn 1 (by simp only [Int32.reduceToInt]; omega) (by simp only [Int32.reduceToInt]; omega)
  simp only [Int32.reduceToInt] at nn1
  have nn2 : (nn + (1 : Int32)).toNatClampNeg = xs.length + 1 := by have e : (nn + (1 : Int32)).toNatClampNeg = (nn + (1 : Int32)).toInt.toNat := rfl; omega
  refine OwnGo.newarr X10 hx hby hZ (pn := 63) (hw _ (List.mem_of_getElem? (i := 1) rfl)) rfl (by rw [Int32.lt_iff_toInt_lt]; simp only [Int32.reduceToInt]; omega) 4 (by omega) (by decide) (by decide) (by decide) d1_61 rfl (fun T11 X11 E11 Afp_11 => ?_)
  obtain ⟨fp, gfp⟩ : ∃ z, z = T10.heap.size := ⟨_, rfl⟩
  rw [← gfp] at Afp_11 ⊢
  have ne_ca_fp : ca ≠ fp := Nat.ne_of_lt (by rw [gfp]; exact Aca_10.lt)
  have ne_fp_ca := ne_ca_fp.symm
  have Aca_11 := Aca_10.ext E11
  have ne_wa_fp : wa ≠ fp := Nat.ne_of_lt (by rw [gfp]; exact Awa_10.lt)
  have ne_fp_wa := ne_wa_fp.symm
  have Awa_11 := Awa_10.ext E11
  have F_o_docCount_11 : Fld Z T11.heap o "com/example/quire/quire/values/internal/FieldLayout" "docCount" "I" (.int p7) := F_o_docCount_10.ext E11
  have F_o_counts_11 : Fld Z T11.heap o "com/example/quire/quire/values/internal/FieldLayout" "counts" "[I" (.ref ca) := F_o_counts_10.ext E11
  have F_o_widths_11 : Fld Z T11.heap o "com/example/quire/quire/values/internal/FieldLayout" "widths" "[I" (.ref wa) := F_o_widths_10.ext E11
  have F_o_firstParts_11 : Fld Z T11.heap o "com/example/quire/quire/values/internal/FieldLayout" "firstParts" "[I" .null := F_o_firstParts_10.ext E11
  have F_o_checksums_11 : Fld Z T11.heap o "com/example/quire/quire/values/internal/FieldLayout" "checksums" "[I" .null := F_o_checksums_10.ext E11
  have E_o_11 : Exa Z T11.heap o "com/example/quire/quire/values/internal/FieldLayout" := E_o_10.ext E11
  have o_fp : n0 ≤ fp := by rw [gfp]; exact Z_10
  have Z_11 : n0 ≤ T11.heap.size := Nat.le_trans Z_10 E11.1
  have W11 : OwnGo.Wk p.tables T11 m c below prog_161_method_1_code := ⟨X11.here, hx, hby⟩
  have ne_o_fp : o ≠ fp := Nat.ne_of_lt (by rw [gfp]; exact E_o_10.lt)
  have ne_fp_o := ne_o_fp.symm
  rw [nn2] at Afp_11
  refine OwnGo.putf X11 hx hby hZ hown (pn := 66) (hw _ (List.mem_of_getElem? (i := 36) rfl)) F_o_firstParts_11 E_o_11 (Or.inr ⟨(hw _ (List.mem_of_getElem? (i := 37) rfl)), rfl, hnm⟩) (hw _ (List.mem_of_getElem? (i := 4) rfl)) pf_6 rfl rfl ho N10 d1_63 rfl (fun T12 L12 X12 N12 Wr12 => ?_)
  have F_o_docCount_12 : Fld Z T12.heap o "com/example/quire/quire/values/internal/FieldLayout" "docCount" "I" (.int p7) := F_o_docCount_11.other Wr12 (Or.inr (slot_ne (Or.inr (hw _ (List.mem_of_getElem? (i := 29) rfl))) (Or.inr (hw _ (List.mem_of_getElem? (i := 37) rfl))) (by decide) pf_0 pf_6))
  have F_o_counts_12 : Fld Z T12.heap o "com/example/quire/quire/values/internal/FieldLayout" "counts" "[I" (.ref ca) := F_o_counts_11.other Wr12 (Or.inr (slot_ne (Or.inr (hw _ (List.mem_of_getElem? (i := 31) rfl))) (Or.inr (hw _ (List.mem_of_getElem? (i := 37) rfl))) (by decide) pf_6 pf_6))
  have F_o_widths_12 : Fld Z T12.heap o "com/example/quire/quire/values/internal/FieldLayout" "widths" "[I" (.ref wa) := F_o_widths_11.other Wr12 (Or.inr (slot_ne (Or.inr (hw _ (List.mem_of_getElem? (i := 33) rfl))) (Or.inr (hw _ (List.mem_of_getElem? (i := 37) rfl))) (by decide) pf_6 pf_6))
  have F_o_firstParts_12 : Fld Z T12.heap o "com/example/quire/quire/values/internal/FieldLayout" "firstParts" "[I" (.ref fp) := F_o_firstParts_11.same Wr12
  have F_o_checksums_12 : Fld Z T12.heap o "com/example/quire/quire/values/internal/FieldLayout" "checksums" "[I" .null := F_o_checksums_11.other Wr12 (Or.inr (slot_ne (Or.inr (hw _ (List.mem_of_getElem? (i := 39) rfl))) (Or.inr (hw _ (List.mem_of_getElem? (i := 37) rfl))) (by decide) pf_6 pf_6))
  have E_o_12 : Exa Z T12.heap o "com/example/quire/quire/values/internal/FieldLayout" := E_o_11.wr Wr12
  have Aca_12 := Aca_11.other Wr12 ne_ca_o
  have Awa_12 := Awa_11.other Wr12 ne_wa_o
  have Afp_12 := Afp_11.other Wr12 ne_fp_o
  have Z_12 : n0 ≤ T12.heap.size := by rw [Wr12.size]; exact Z_11
  have W12 : OwnGo.Wk p.tables T12 m c below prog_161_method_1_code := ⟨X12.here, hx, hby⟩
  refine OwnGo.iconst (v := (0 : Int32)) W12 (pn := 67) d1_66 rfl rfl ?_
  refine OwnGo.istore W12 (pn := 69) (l' := #[.val (.ref o), .val (.int p1), .val (.ref k2), .val (.ref k3), .val (.long q4), .second, .val (.ref ta), .val (.int p7), .val (.ref ca), .val (.ref wa), .val (.ref ma), .val (.int (0 : Int32))]) d1_67 rfl rfl ?_
  have LP : ∀ (n : Nat) (T0 : State) (L0 : List Loc) (X0 : Stand p l e ({ frames := 4, cells := 2, slots := 100, locals := 96 } : Room) s m #[(.ref o), (.int p1), (.ref k2), (.ref k3), (.long q4), (.ref ta), (.int p7), (.ref ca), (.ref wa), (.ref ma)] below meth c T0 L0 1 4) (N0 : Fr n0 L0) (Z_0 : n0 ≤ T0.heap.size) (i : Int32) (ps : List Int32) (F_o_docCount_0 : Fld Z T0.heap o "com/example/quire/quire/values/internal/FieldLayout" "docCount" "I" (.int p7)) (F_o_counts_0 : Fld Z T0.heap o "com/example/quire/quire/values/internal/FieldLayout" "counts" "[I" (.ref ca)) (F_o_widths_0 : Fld Z T0.heap o "com/example/quire/quire/values/internal/FieldLayout" "widths" "[I" (.ref wa)) (F_o_firstParts_0 : Fld Z T0.heap o "com/example/quire/quire/values/internal/FieldLayout" "firstParts" "[I" (.ref fp)) (F_o_checksums_0 : Fld Z T0.heap o "com/example/quire/quire/values/internal/FieldLayout" "checksums" "[I" .null) (E_o_0 : Exa Z T0.heap o "com/example/quire/quire/values/internal/FieldLayout") (Aca_0 : OwnGo.Ia Z T0.heap ca .int xs) (Awa_0 : OwnGo.Ia Z T0.heap wa .int ws) (Afp_0 : OwnGo.Ia Z T0.heap fp .int ps) (hi : 0 ≤ i.toInt) (hn : i.toInt + n = xs.length) (hp : ps.length = xs.length + 1) (hv0 : 0 ≤ (ps.getD i.toNatClampNeg 0).toInt) (hv1 : (ps.getD i.toNatClampNeg 0).toInt ≤ 32 * i.toInt), OwnGo.Go p.tables e below (OwnGo.Qe s ({ frames := 4, cells := 2, slots := 100, locals := 96 } : Room) (fun v h L => v = none ∧ Fr n0 L ∧ Exa Z h o "com/example/quire/quire/values/internal/FieldLayout" ∧ Fld Z h o "com/example/quire/quire/values/internal/FieldLayout" "counts" "[I" (.ref ca) ∧ OwnGo.Ia Z h ca .int xs)) (T0.setTop (mkF m 69 #[.val (.ref o), .val (.int p1), .val (.ref k2), .val (.ref k3), .val (.long q4), .second, .val (.ref ta), .val (.int p7), .val (.ref ca), .val (.ref wa), .val (.ref ma), .val (.int i)] [])) := by
    intro n
    induction n with
    | zero =>
      intro T0 L0 X0 N0 Z_0 i ps F_o_docCount_0 F_o_counts_0 F_o_widths_0 F_o_firstParts_0 F_o_checksums_0 E_o_0 Aca_0 Awa_0 Afp_0 hi hn hp hv0 hv1
      have W0 : OwnGo.Wk p.tables T0 m c below prog_161_method_1_code := ⟨X0.here, hx, hby⟩
      refine OwnGo.iload W0 (pn := 71) d1_69 rfl rfl ?_
      refine OwnGo.aload W0 (pn := 73) d1_71 rfl rfl rfl ?_
      refine OwnGo.arrlen X0 hx hby hZ (pn := 74) Aca_0 (v := nn) hnn d1_73 rfl ?_
      refine OwnGo.icmp_ge W0 (pn := 77) (pt := 109) d1_74 rfl (by decide) (by decide) (fun h74 => ?_) (fun h74 => ?_)
      · skip
        exact absurd h74 (by rw [Int32.lt_iff_toInt_lt]; omega)
      · skip
        have j := own_ix i ps.length hi (by omega)
        obtain rfl : i = nn := Int32.toInt_inj.mp (by omega)
        refine OwnGo.aloadN W0 (pn := 110) d1_109 rfl rfl rfl ?_
        refine OwnGo.aloadN W0 (pn := 111) d1_110 rfl rfl rfl ?_
        refine OwnGo.getf X0 hx hby hZ hown (pn := 114) (hw _ (List.mem_of_getElem? (i := 36) rfl)) F_o_firstParts_0 d1_111 rfl (fun T13 X13 f13 => ?_)
        have Aca_13 : OwnGo.Ia Z T13.heap ca .int xs := by rw [f13]; exact Aca_0
        have Awa_13 : OwnGo.Ia Z T13.heap wa .int ws := by rw [f13]; exact Awa_0
        have Afp_13 : OwnGo.Ia Z T13.heap fp .int ps := by rw [f13]; exact Afp_0
        have F_o_docCount_13 : Fld Z T13.heap o "com/example/quire/quire/values/internal/FieldLayout" "docCount" "I" (.int p7) := by rw [f13]; exact F_o_docCount_0
        have F_o_counts_13 : Fld Z T13.heap o "com/example/quire/quire/values/internal/FieldLayout" "counts" "[I" (.ref ca) := by rw [f13]; exact F_o_counts_0
        have F_o_widths_13 : Fld Z T13.heap o "com/example/quire/quire/values/internal/FieldLayout" "widths" "[I" (.ref wa) := by rw [f13]; exact F_o_widths_0
        have F_o_firstParts_13 : Fld Z T13.heap o "com/example/quire/quire/values/internal/FieldLayout" "firstParts" "[I" (.ref fp) := by rw [f13]; exact F_o_firstParts_0
        have F_o_checksums_13 : Fld Z T13.heap o "com/example/quire/quire/values/internal/FieldLayout" "checksums" "[I" .null := by rw [f13]; exact F_o_checksums_0
        have E_o_13 : Exa Z T13.heap o "com/example/quire/quire/values/internal/FieldLayout" := by rw [f13]; exact E_o_0
        have Z_13 : n0 ≤ T13.heap.size := by rw [f13]; exact Z_0
        have W13 : OwnGo.Wk p.tables T13 m c below prog_161_method_1_code := ⟨X13.here, hx, hby⟩
        refine OwnGo.aload W13 (pn := 116) d1_114 rfl rfl rfl ?_
        refine OwnGo.arrlen X13 hx hby hZ (pn := 117) Aca_13 (v := i) hnn d1_116 rfl ?_
        refine OwnGo.iaload X13 hx hby hZ (pn := 118) Afp_13 j.1 (OwnGo.getD_of j.2.1) d1_117 rfl ?_
        obtain ⟨cs, e_cs⟩ : ∃ z, z = ps.getD i.toNatClampNeg 0 := ⟨_, rfl⟩
        rw [← e_cs] at hv0 hv1
        rw [show (ps).getD (i).toNatClampNeg 0 = cs from e_cs.symm]
        refine OwnGo.newarr X13 hx hby hZ (pn := 120) (hw _ (List.mem_of_getElem? (i := 1) rfl)) rfl (by rw [Int32.lt_iff_toInt_lt]; simp only [Int32.reduceToInt]; omega) 96 (by have e : cs.toNatClampNeg = cs.toInt.toNat := rfl; omega) (by decide) (by decide) (by decide) d1_118 rfl (fun T14 X14 E14 Ack_14 => ?_)
        obtain ⟨ck, gck⟩ : ∃ z, z = T13.heap.size := ⟨_, rfl⟩
        rw [← gck] at Ack_14 ⊢
        have ne_ca_ck : ca ≠ ck := Nat.ne_of_lt (by rw [gck]; exact Aca_13.lt)
        have ne_ck_ca := ne_ca_ck.symm
        have Aca_14 := Aca_13.ext E14
        have ne_wa_ck : wa ≠ ck := Nat.ne_of_lt (by rw [gck]; exact Awa_13.lt)
        have ne_ck_wa := ne_wa_ck.symm
        have Awa_14 := Awa_13.ext E14
        have ne_fp_ck : fp ≠ ck := Nat.ne_of_lt (by rw [gck]; exact Afp_13.lt)
        have ne_ck_fp := ne_fp_ck.symm
        have Afp_14 := Afp_13.ext E14
        have F_o_docCount_14 : Fld Z T14.heap o "com/example/quire/quire/values/internal/FieldLayout" "docCount" "I" (.int p7) := F_o_docCount_13.ext E14
        have F_o_counts_14 : Fld Z T14.heap o "com/example/quire/quire/values/internal/FieldLayout" "counts" "[I" (.ref ca) := F_o_counts_13.ext E14
        have F_o_widths_14 : Fld Z T14.heap o "com/example/quire/quire/values/internal/FieldLayout" "widths" "[I" (.ref wa) := F_o_widths_13.ext E14
        have F_o_firstParts_14 : Fld Z T14.heap o "com/example/quire/quire/values/internal/FieldLayout" "firstParts" "[I" (.ref fp) := F_o_firstParts_13.ext E14
        have F_o_checksums_14 : Fld Z T14.heap o "com/example/quire/quire/values/internal/FieldLayout" "checksums" "[I" .null := F_o_checksums_13.ext E14
        have E_o_14 : Exa Z T14.heap o "com/example/quire/quire/values/internal/FieldLayout" := E_o_13.ext E14
        have o_ck : n0 ≤ ck := by rw [gck]; exact Z_13
        have Z_14 : n0 ≤ T14.heap.size := Nat.le_trans Z_13 E14.1
        have W14 : OwnGo.Wk p.tables T14 m c below prog_161_method_1_code := ⟨X14.here, hx, hby⟩
        have ne_o_ck : o ≠ ck := Nat.ne_of_lt (by rw [gck]; exact E_o_13.lt)
        have ne_ck_o := ne_o_ck.symm
        refine OwnGo.putf X14 hx hby hZ hown (pn := 123) (hw _ (List.mem_of_getElem? (i := 38) rfl)) F_o_checksums_14 E_o_14 (Or.inr ⟨(hw _ (List.mem_of_getElem? (i := 39) rfl)), rfl, hnm⟩) (hw _ (List.mem_of_getElem? (i := 4) rfl)) pf_6 rfl rfl ho N0 d1_120 rfl (fun T15 L15 X15 N15 Wr15 => ?_)
        have F_o_docCount_15 : Fld Z T15.heap o "com/example/quire/quire/values/internal/FieldLayout" "docCount" "I" (.int p7) := F_o_docCount_14.other Wr15 (Or.inr (slot_ne (Or.inr (hw _ (List.mem_of_getElem? (i := 29) rfl))) (Or.inr (hw _ (List.mem_of_getElem? (i := 39) rfl))) (by decide) pf_0 pf_6))
        have F_o_counts_15 : Fld Z T15.heap o "com/example/quire/quire/values/internal/FieldLayout" "counts" "[I" (.ref ca) := F_o_counts_14.other Wr15 (Or.inr (slot_ne (Or.inr (hw _ (List.mem_of_getElem? (i := 31) rfl))) (Or.inr (hw _ (List.mem_of_getElem? (i := 39) rfl))) (by decide) pf_6 pf_6))
        have F_o_widths_15 : Fld Z T15.heap o "com/example/quire/quire/values/internal/FieldLayout" "widths" "[I" (.ref wa) := F_o_widths_14.other Wr15 (Or.inr (slot_ne (Or.inr (hw _ (List.mem_of_getElem? (i := 33) rfl))) (Or.inr (hw _ (List.mem_of_getElem? (i := 39) rfl))) (by decide) pf_6 pf_6))
        have F_o_firstParts_15 : Fld Z T15.heap o "com/example/quire/quire/values/internal/FieldLayout" "firstParts" "[I" (.ref fp) := F_o_firstParts_14.other Wr15 (Or.inr (slot_ne (Or.inr (hw _ (List.mem_of_getElem? (i := 37) rfl))) (Or.inr (hw _ (List.mem_of_getElem? (i := 39) rfl))) (by decide) pf_6 pf_6))
        have F_o_checksums_15 : Fld Z T15.heap o "com/example/quire/quire/values/internal/FieldLayout" "checksums" "[I" (.ref ck) := F_o_checksums_14.same Wr15
        have E_o_15 : Exa Z T15.heap o "com/example/quire/quire/values/internal/FieldLayout" := E_o_14.wr Wr15
        have Aca_15 := Aca_14.other Wr15 ne_ca_o
        have Awa_15 := Awa_14.other Wr15 ne_wa_o
        have Afp_15 := Afp_14.other Wr15 ne_fp_o
        have Ack_15 := Ack_14.other Wr15 ne_ck_o
        have Z_15 : n0 ≤ T15.heap.size := by rw [Wr15.size]; exact Z_14
        have W15 : OwnGo.Wk p.tables T15 m c below prog_161_method_1_code := ⟨X15.here, hx, hby⟩
        exact OwnGo.returnV X15 hx hby hret hlk d1_123 ⟨rfl, N15, E_o_15, F_o_counts_15, Aca_15⟩ (by decide) (by decide)
    | succ n ih =>
      intro T0 L0 X0 N0 Z_0 i ps F_o_docCount_0 F_o_counts_0 F_o_widths_0 F_o_firstParts_0 F_o_checksums_0 E_o_0 Aca_0 Awa_0 Afp_0 hi hn hp hv0 hv1
      have W0 : OwnGo.Wk p.tables T0 m c below prog_161_method_1_code := ⟨X0.here, hx, hby⟩
      refine OwnGo.iload W0 (pn := 71) d1_69 rfl rfl ?_
      refine OwnGo.aload W0 (pn := 73) d1_71 rfl rfl rfl ?_
      refine OwnGo.arrlen X0 hx hby hZ (pn := 74) Aca_0 (v := nn) hnn d1_73 rfl ?_
      refine OwnGo.icmp_ge W0 (pn := 77) (pt := 109) d1_74 rfl (by decide) (by decide) (fun h74 => ?_) (fun h74 => ?_)
      · skip
        have j := own_ix i ps.length hi (by omega)
        have jx := own_ix i xs.length hi (by omega)
        have ni := own_ad i 1 (by simp only [Int32.reduceToInt]; omega) (by simp only [Int32.reduceToInt]; omega)
        simp only [Int32.reduceToInt] at ni
        have j1 := own_ix (i + (1 : Int32)) ps.length (by omega) (by omega)
        refine OwnGo.aloadN W0 (pn := 78) d1_77 rfl rfl rfl ?_
        refine OwnGo.getf X0 hx hby hZ hown (pn := 81) (hw _ (List.mem_of_getElem? (i := 36) rfl)) F_o_firstParts_0 d1_78 rfl (fun T16 X16 f16 => ?_)
        have Aca_16 : OwnGo.Ia Z T16.heap ca .int xs := by rw [f16]; exact Aca_0
        have Awa_16 : OwnGo.Ia Z T16.heap wa .int ws := by rw [f16]; exact Awa_0
        have Afp_16 : OwnGo.Ia Z T16.heap fp .int ps := by rw [f16]; exact Afp_0
        have F_o_docCount_16 : Fld Z T16.heap o "com/example/quire/quire/values/internal/FieldLayout" "docCount" "I" (.int p7) := by rw [f16]; exact F_o_docCount_0
        have F_o_counts_16 : Fld Z T16.heap o "com/example/quire/quire/values/internal/FieldLayout" "counts" "[I" (.ref ca) := by rw [f16]; exact F_o_counts_0
        have F_o_widths_16 : Fld Z T16.heap o "com/example/quire/quire/values/internal/FieldLayout" "widths" "[I" (.ref wa) := by rw [f16]; exact F_o_widths_0
        have F_o_firstParts_16 : Fld Z T16.heap o "com/example/quire/quire/values/internal/FieldLayout" "firstParts" "[I" (.ref fp) := by rw [f16]; exact F_o_firstParts_0
        have F_o_checksums_16 : Fld Z T16.heap o "com/example/quire/quire/values/internal/FieldLayout" "checksums" "[I" .null := by rw [f16]; exact F_o_checksums_0
        have E_o_16 : Exa Z T16.heap o "com/example/quire/quire/values/internal/FieldLayout" := by rw [f16]; exact E_o_0
        have Z_16 : n0 ≤ T16.heap.size := by rw [f16]; exact Z_0
        have W16 : OwnGo.Wk p.tables T16 m c below prog_161_method_1_code := ⟨X16.here, hx, hby⟩
        refine OwnGo.iload W16 (pn := 83) d1_81 rfl rfl ?_
        refine OwnGo.iconst (v := (1 : Int32)) W16 (pn := 84) d1_83 rfl rfl ?_
        refine OwnGo.iadd W16 (pn := 85) d1_84 rfl ?_
        refine OwnGo.aloadN W16 (pn := 86) d1_85 rfl rfl rfl ?_
        refine OwnGo.getf X16 hx hby hZ hown (pn := 89) (hw _ (List.mem_of_getElem? (i := 36) rfl)) F_o_firstParts_16 d1_86 rfl (fun T17 X17 f17 => ?_)
        have Aca_17 : OwnGo.Ia Z T17.heap ca .int xs := by rw [f17]; exact Aca_16
        have Awa_17 : OwnGo.Ia Z T17.heap wa .int ws := by rw [f17]; exact Awa_16
        have Afp_17 : OwnGo.Ia Z T17.heap fp .int ps := by rw [f17]; exact Afp_16
        have F_o_docCount_17 : Fld Z T17.heap o "com/example/quire/quire/values/internal/FieldLayout" "docCount" "I" (.int p7) := by rw [f17]; exact F_o_docCount_16
        have F_o_counts_17 : Fld Z T17.heap o "com/example/quire/quire/values/internal/FieldLayout" "counts" "[I" (.ref ca) := by rw [f17]; exact F_o_counts_16
        have F_o_widths_17 : Fld Z T17.heap o "com/example/quire/quire/values/internal/FieldLayout" "widths" "[I" (.ref wa) := by rw [f17]; exact F_o_widths_16
        have F_o_firstParts_17 : Fld Z T17.heap o "com/example/quire/quire/values/internal/FieldLayout" "firstParts" "[I" (.ref fp) := by rw [f17]; exact F_o_firstParts_16
        have F_o_checksums_17 : Fld Z T17.heap o "com/example/quire/quire/values/internal/FieldLayout" "checksums" "[I" .null := by rw [f17]; exact F_o_checksums_16
        have E_o_17 : Exa Z T17.heap o "com/example/quire/quire/values/internal/FieldLayout" := by rw [f17]; exact E_o_16
        have Z_17 : n0 ≤ T17.heap.size := by rw [f17]; exact Z_16
        have W17 : OwnGo.Wk p.tables T17 m c below prog_161_method_1_code := ⟨X17.here, hx, hby⟩
        refine OwnGo.iload W17 (pn := 91) d1_89 rfl rfl ?_
        refine OwnGo.iaload X17 hx hby hZ (pn := 92) Afp_17 j.1 (OwnGo.getD_of j.2.1) d1_91 rfl ?_
        refine OwnGo.aloadN W17 (pn := 93) d1_92 rfl rfl rfl ?_
        refine OwnGo.iload W17 (pn := 95) d1_93 rfl rfl ?_
        refine OwnGo.callVP X17 hx hby hZ hown (argsL := [(.int i)]) (rest := [(.int ((ps).getD (i).toNatClampNeg 0)), (.int (i + (1 : Int32))), (.ref fp)]) (pn := 98) (hw _ (List.mem_of_getElem? (i := 45) rfl)) (hw _ (List.mem_of_getElem? (i := 46) rfl)) (hw _ (List.mem_of_getElem? (i := 48) rfl)) (hw _ (List.mem_of_getElem? (i := 47) rfl)) (hw _ (List.mem_of_getElem? (i := 5) rfl)) (hw _ (List.mem_of_getElem? (i := 49) rfl)) (by decide) E_o_17 (rm_len l Z a0 hw o i p7 ca wa xs ws _ E_o_17 F_o_docCount_17 F_o_counts_17 F_o_widths_17 Aca_17 Awa_17 hi (by omega) (by omega)) (by decide) (Nat.le_of_ble_eq_true rfl) (by decide) (by decide) (lenOf pd_3 rfl) (by rw [hml]; rfl) rfl d1_95 rfl (fun T18 X18 f18 => ?_)
        have Aca_18 : OwnGo.Ia Z T18.heap ca .int xs := by rw [f18]; exact Aca_17
        have Awa_18 : OwnGo.Ia Z T18.heap wa .int ws := by rw [f18]; exact Awa_17
        have Afp_18 : OwnGo.Ia Z T18.heap fp .int ps := by rw [f18]; exact Afp_17
        have F_o_docCount_18 : Fld Z T18.heap o "com/example/quire/quire/values/internal/FieldLayout" "docCount" "I" (.int p7) := by rw [f18]; exact F_o_docCount_17
        have F_o_counts_18 : Fld Z T18.heap o "com/example/quire/quire/values/internal/FieldLayout" "counts" "[I" (.ref ca) := by rw [f18]; exact F_o_counts_17
        have F_o_widths_18 : Fld Z T18.heap o "com/example/quire/quire/values/internal/FieldLayout" "widths" "[I" (.ref wa) := by rw [f18]; exact F_o_widths_17
        have F_o_firstParts_18 : Fld Z T18.heap o "com/example/quire/quire/values/internal/FieldLayout" "firstParts" "[I" (.ref fp) := by rw [f18]; exact F_o_firstParts_17
        have F_o_checksums_18 : Fld Z T18.heap o "com/example/quire/quire/values/internal/FieldLayout" "checksums" "[I" .null := by rw [f18]; exact F_o_checksums_17
        have E_o_18 : Exa Z T18.heap o "com/example/quire/quire/values/internal/FieldLayout" := by rw [f18]; exact E_o_17
        have Z_18 : n0 ≤ T18.heap.size := by rw [f18]; exact Z_17
        have W18 : OwnGo.Wk p.tables T18 m c below prog_161_method_1_code := ⟨X18.here, hx, hby⟩
        refine OwnGo.callP X18 hx hby hZ hown (argsL := [(.int (own_bl (own_bd p7 i) (xs.getD i.toNatClampNeg 0) (ws.getD i.toNatClampNeg 0)))]) (rest := [(.int ((ps).getD (i).toNatClampNeg 0)), (.int (i + (1 : Int32))), (.ref fp)]) (pn := 101) (hw _ (List.mem_of_getElem? (i := 70) rfl)) (hw _ (List.mem_of_getElem? (i := 71) rfl)) (hw _ (List.mem_of_getElem? (i := 57) rfl)) (hw _ (List.mem_of_getElem? (i := 72) rfl)) (by decide) (rm_own_pc l Z a0 hw (own_bl (own_bd p7 i) (xs.getD i.toNatClampNeg 0) (ws.getD i.toNatClampNeg 0)) _) (by decide) (Nat.le_of_ble_eq_true rfl) (by decide) (by decide) (lenOf pd_3 rfl) (by rw [hml]; rfl) rfl d1_98 rfl (fun T19 X19 f19 => ?_)
        have Aca_19 : OwnGo.Ia Z T19.heap ca .int xs := by rw [f19]; exact Aca_18
        have Awa_19 : OwnGo.Ia Z T19.heap wa .int ws := by rw [f19]; exact Awa_18
        have Afp_19 : OwnGo.Ia Z T19.heap fp .int ps := by rw [f19]; exact Afp_18
        have F_o_docCount_19 : Fld Z T19.heap o "com/example/quire/quire/values/internal/FieldLayout" "docCount" "I" (.int p7) := by rw [f19]; exact F_o_docCount_18
        have F_o_counts_19 : Fld Z T19.heap o "com/example/quire/quire/values/internal/FieldLayout" "counts" "[I" (.ref ca) := by rw [f19]; exact F_o_counts_18
        have F_o_widths_19 : Fld Z T19.heap o "com/example/quire/quire/values/internal/FieldLayout" "widths" "[I" (.ref wa) := by rw [f19]; exact F_o_widths_18
        have F_o_firstParts_19 : Fld Z T19.heap o "com/example/quire/quire/values/internal/FieldLayout" "firstParts" "[I" (.ref fp) := by rw [f19]; exact F_o_firstParts_18
        have F_o_checksums_19 : Fld Z T19.heap o "com/example/quire/quire/values/internal/FieldLayout" "checksums" "[I" .null := by rw [f19]; exact F_o_checksums_18
        have E_o_19 : Exa Z T19.heap o "com/example/quire/quire/values/internal/FieldLayout" := by rw [f19]; exact E_o_18
        have Z_19 : n0 ≤ T19.heap.size := by rw [f19]; exact Z_18
        have W19 : OwnGo.Wk p.tables T19 m c below prog_161_method_1_code := ⟨X19.here, hx, hby⟩
        have hd := own_docs p7 i hi (by omega) (by have := hdc i.toNatClampNeg jx.2.1; omega) hdc2
        have hx' := hxs _ jx.2.1
        have hw' := hws _ jx.2.1
        have hpt := own_part (own_bd p7 i) (xs.getD i.toNatClampNeg 0) (ws.getD i.toNatClampNeg 0) hd.1 hd.2 hx'.1 hx'.2 hw'.1 hw'.2
        obtain ⟨pt, e_pt⟩ : ∃ z, z = (own_pc (own_bl (own_bd p7 i) (xs.getD i.toNatClampNeg 0) (ws.getD i.toNatClampNeg 0))) := ⟨_, rfl⟩
        rw [← e_pt] at hpt ⊢
        refine OwnGo.iadd W19 (pn := 102) d1_101 rfl ?_
        have sm := own_ad (ps.getD i.toNatClampNeg 0) pt (by omega) (by omega)
        refine OwnGo.iastore X19 hx hby hZ (pn := 103) Afp_19 j1.1 j1.2.1 o_fp N0 d1_102 rfl (fun T20 L20 X20 N20 Afp_20 Wr20 => ?_)
        have Aca_20 := Aca_19.other Wr20 ne_ca_fp
        have Awa_20 := Awa_19.other Wr20 ne_wa_fp
        have F_o_docCount_20 : Fld Z T20.heap o "com/example/quire/quire/values/internal/FieldLayout" "docCount" "I" (.int p7) := F_o_docCount_19.other Wr20 (Or.inl ne_o_fp)
        have F_o_counts_20 : Fld Z T20.heap o "com/example/quire/quire/values/internal/FieldLayout" "counts" "[I" (.ref ca) := F_o_counts_19.other Wr20 (Or.inl ne_o_fp)
        have F_o_widths_20 : Fld Z T20.heap o "com/example/quire/quire/values/internal/FieldLayout" "widths" "[I" (.ref wa) := F_o_widths_19.other Wr20 (Or.inl ne_o_fp)
        have F_o_firstParts_20 : Fld Z T20.heap o "com/example/quire/quire/values/internal/FieldLayout" "firstParts" "[I" (.ref fp) := F_o_firstParts_19.other Wr20 (Or.inl ne_o_fp)
        have F_o_checksums_20 : Fld Z T20.heap o "com/example/quire/quire/values/internal/FieldLayout" "checksums" "[I" .null := F_o_checksums_19.other Wr20 (Or.inl ne_o_fp)
        have E_o_20 : Exa Z T20.heap o "com/example/quire/quire/values/internal/FieldLayout" := E_o_19.wr Wr20
        have Z_20 : n0 ≤ T20.heap.size := by rw [Wr20.size]; exact Z_19
        have W20 : OwnGo.Wk p.tables T20 m c below prog_161_method_1_code := ⟨X20.here, hx, hby⟩
        refine OwnGo.iinc W20 (pn := 106) (l' := #[.val (.ref o), .val (.int p1), .val (.ref k2), .val (.ref k3), .val (.long q4), .second, .val (.ref ta), .val (.int p7), .val (.ref ca), .val (.ref wa), .val (.ref ma), .val (.int (i + (1 : Int32)))]) (v := (1 : Int32)) d1_103 rfl rfl rfl rfl ?_
        refine OwnGo.goto W20 (pt := 69) d1_106 (by decide) (by decide) ?_
        exact ih _ _ X20 N20 Z_20 _ _ F_o_docCount_20 F_o_counts_20 F_o_widths_20 F_o_firstParts_20 F_o_checksums_20 E_o_20 Aca_20 Awa_20 Afp_20 (by omega) (by omega) (by rw [List.length_set]; exact hp) (by rw [OwnGo.getD_set j1.2.1, if_pos rfl]; omega) (by rw [OwnGo.getD_set j1.2.1, if_pos rfl]; omega)
      · skip
        exact absurd (by rw [Int32.lt_iff_toInt_lt]; omega) h74
  exact LP xs.length _ _ X12 N12 Z_12 _ _ F_o_docCount_12 F_o_counts_12 F_o_widths_12 F_o_firstParts_12 F_o_checksums_12 E_o_12 Aca_12 Awa_12 Afp_12 (by decide) (by simp only [Int32.reduceToInt]; omega) (by rw [List.length_replicate]) (by rw [OwnGo.getD_rep]; decide) (by rw [OwnGo.getD_rep]; decide)
theorem own_rem (x y : Int32) (h0 : 0 ≤ x.toInt) (hy : 0 < y.toInt) : 0 ≤ (x - x / y * y).toInt ∧ (x - x / y * y).toInt < y.toInt := by
  rw [irem_eq_mod]
  have := (c_iremV x y).1 h0 hy
  exact ⟨this.1, this.2.1⟩
theorem own_mx (x : Int32) : 0 ≤ (x &&& 2147483647).toInt := by
  have : (x &&& 2147483647).toInt = x.toInt % (2 ^ 31 : Nat) := c_mask _ _ 31 (by decide) (by decide)
  omega
def own_Q (n0 : Nat) (v : Option Value) (h : Heap) (L : List Loc) : Prop := v = some (.int (1 : Int32)) ∧ Fr n0 L
theorem pn_2 : plainName "com/example/quire/quire/values/internal/FieldLayoutValueCountPinLaw" = true := by first | (simp [plainName, overriddenIn]; done) | decide +kernel
theorem ef_0 (m : MethodId) (p0 p1 p2 p3 p4 p5 : Int32) : entryFrame m #[(.int p0), (.int p1), (.int p2), (.int p3), (.int p4), (.int p5)] maxLocals = mkF m 0 #[.val (.int p0), .val (.int p1), .val (.int p2), .val (.int p3), .val (.int p4), .val (.int p5), .unset, .unset, .unset, .unset, .unset, .unset, .unset, .unset, .unset, .unset, .unset, .unset] [] := by first | (simp [entryFrame, mkF, argsToLocals, Value.category, maxLocals]; done) | rfl
set_option maxRecDepth 65536 in
set_option maxHeartbeats 40000000 in
theorem rm_law (l : Launch) (Z : State) (a0 : Array Value) (hw : ∀ d ∈ tables_1, d.before a0 Z = true) (p0 p1 p2 p3 p4 p5 : Int32) (h0 : Heap) (n0 : Nat) (Z0 : n0 ≤ h0.size) (k2 k3 : Addr) (S1 : Sta Z h0 "com/example/quire/quire/document/FieldType" "NUMERIC" "Lcom/example/quire/quire/document/FieldType;" (.ref k2)) (S2 : Sta Z h0 "com/example/quire/quire/values/NumericEncoding" "DELTA" "Lcom/example/quire/quire/values/NumericEncoding;" (.ref k3)) :
    OwnGo.Con l x code maxLocals ret room_1 Z #[(.int p0), (.int p1), (.int p2), (.int p3), (.int p4), (.int p5)] h0 (own_Q n0) := by
  refine OwnGo.Con.intro (plainFor_of_name pn_2) ?_
  intro p e s m below meth c T0 X0 hx hby hml hZ hown hnm hret hlk e0
  refine OwnGo.Go.cast (ef_0 m p0 p1 p2 p3 p4 p5) ?_
  have N0 := Fr.nil n0
  have Z_0 : n0 ≤ T0.heap.size := by rw [e0]; exact Z0
  have S1_0 : Sta Z T0.heap "com/example/quire/quire/document/FieldType" "NUMERIC" "Lcom/example/quire/quire/document/FieldType;" (.ref k2) := by rw [e0]; exact S1
  have S2_0 : Sta Z T0.heap "com/example/quire/quire/values/NumericEncoding" "DELTA" "Lcom/example/quire/quire/values/NumericEncoding;" (.ref k3) := by rw [e0]; exact S2
  have W0 : OwnGo.Wk p.tables T0 m c below code := ⟨X0.here, hx, hby⟩
  refine OwnGo.iloadN W0 (pn := 1) at_0 rfl rfl ?_
  refine OwnGo.ldcI X0 hx hby hZ hown (pn := 3) (hw _ (List.mem_of_getElem? (i := 0) rfl)) at_1 rfl ?_
  refine OwnGo.iand W0 (pn := 4) at_3 rfl ?_
  refine OwnGo.iconst (v := (4 : Int32)) W0 (pn := 5) at_4 rfl rfl ?_
  refine OwnGo.irem W0 (pn := 6) at_5 rfl (by decide) ?_
  obtain ⟨n, e_n⟩ : ∃ z, z = ((p0 &&& (2147483647 : Int32)) - ((p0 &&& (2147483647 : Int32)) / (4 : Int32)) * (4 : Int32)) := ⟨_, rfl⟩
  rw [← e_n]
  have hn := own_rem (p0 &&& 2147483647) 4 (own_mx p0) (by decide)
  rw [← e_n] at hn
  simp only [Int32.reduceToInt] at hn
  refine OwnGo.istore W0 (pn := 8) (l' := #[.val (.int p0), .val (.int p1), .val (.int p2), .val (.int p3), .val (.int p4), .val (.int p5), .val (.int n), .unset, .unset, .unset, .unset, .unset, .unset, .unset, .unset, .unset, .unset, .unset]) at_6 rfl rfl ?_
  refine OwnGo.iloadN W0 (pn := 9) at_8 rfl rfl ?_
  refine OwnGo.ldcI X0 hx hby hZ hown (pn := 11) (hw _ (List.mem_of_getElem? (i := 0) rfl)) at_9 rfl ?_
  refine OwnGo.iand W0 (pn := 12) at_11 rfl ?_
  refine OwnGo.sipush (v := (4096 : Int32)) W0 (pn := 15) at_12 rfl rfl ?_
  refine OwnGo.irem W0 (pn := 16) at_15 rfl (by decide) ?_
  obtain ⟨l0, e_l0⟩ : ∃ z, z = ((p1 &&& (2147483647 : Int32)) - ((p1 &&& (2147483647 : Int32)) / (4096 : Int32)) * (4096 : Int32)) := ⟨_, rfl⟩
  rw [← e_l0]
  have hl0 := own_rem (p1 &&& 2147483647) 4096 (own_mx p1) (by decide)
  rw [← e_l0] at hl0
  simp only [Int32.reduceToInt] at hl0
  refine OwnGo.iconst (v := (1 : Int32)) W0 (pn := 17) at_16 rfl rfl ?_
  refine OwnGo.iadd W0 (pn := 18) at_17 rfl ?_
  have hla := own_ad l0 1 (by simp only [Int32.reduceToInt]; omega) (by simp only [Int32.reduceToInt]; omega)
  simp only [Int32.reduceToInt] at hla
  obtain ⟨la, e_la⟩ : ∃ z, z = (l0 + (1 : Int32)) := ⟨_, rfl⟩
  rw [← e_la]
  rw [← e_la] at hla
  refine OwnGo.istore W0 (pn := 20) (l' := #[.val (.int p0), .val (.int p1), .val (.int p2), .val (.int p3), .val (.int p4), .val (.int p5), .val (.int n), .val (.int la), .unset, .unset, .unset, .unset, .unset, .unset, .unset, .unset, .unset, .unset]) at_18 rfl rfl ?_
  refine OwnGo.iload W0 (pn := 22) at_20 rfl rfl ?_
  have J22 : OwnGo.Go p.tables e below (OwnGo.Qe s room_1 (own_Q n0)) (T0.setTop (mkF m 40 #[.val (.int p0), .val (.int p1), .val (.int p2), .val (.int p3), .val (.int p4), .val (.int p5), .val (.int n), .val (.int la), .unset, .unset, .unset, .unset, .unset, .unset, .unset, .unset, .unset, .unset] [(.int (if n = (0 : Int32) then (0 : Int32) else (((4096 : Int32) * (n - (1 : Int32))) + la)))])) → OwnGo.Go p.tables e below (OwnGo.Qe s room_1 (own_Q n0)) (T0.setTop (mkF m 22 #[.val (.int p0), .val (.int p1), .val (.int p2), .val (.int p3), .val (.int p4), .val (.int p5), .val (.int n), .val (.int la), .unset, .unset, .unset, .unset, .unset, .unset, .unset, .unset, .unset, .unset] [(.int n)])) := by
    intro hj
    refine OwnGo.if_ne W0 (pn := 25) (pt := 29) at_22 rfl (by decide) (by decide) (fun h => ?_) (fun h => ?_)
    · simp only [if_pos h] at hj
      refine OwnGo.iconst (v := (0 : Int32)) W0 (pn := 26) at_25 rfl rfl ?_
      refine OwnGo.goto W0 (pt := 40) at_26 (by decide) (by decide) ?_
      exact hj
    · simp only [if_neg h] at hj
      refine OwnGo.sipush (v := (4096 : Int32)) W0 (pn := 32) at_29 rfl rfl ?_
      refine OwnGo.iload W0 (pn := 34) at_32 rfl rfl ?_
      refine OwnGo.iconst (v := (1 : Int32)) W0 (pn := 35) at_34 rfl rfl ?_
      refine OwnGo.isub W0 (pn := 36) at_35 rfl ?_
      refine OwnGo.imul W0 (pn := 37) at_36 rfl ?_
      refine OwnGo.iload W0 (pn := 39) at_37 rfl rfl ?_
      refine OwnGo.iadd W0 (pn := 40) at_39 rfl ?_
      exact hj
  refine J22 ?_
  obtain ⟨dc, e_dc⟩ : ∃ z, z = (if n = (0 : Int32) then (0 : Int32) else (((4096 : Int32) * (n - (1 : Int32))) + la)) := ⟨_, rfl⟩
  rw [← e_dc]
  have hdc : (n.toInt = 0 ∧ dc.toInt = 0) ∨ (1 ≤ n.toInt ∧ dc.toInt = 4096 * (n.toInt - 1) + la.toInt) := by
    rw [e_dc]
    by_cases z : n = 0
    · left; rw [if_pos z, z]; decide
    · right
      rw [if_neg z]
      have z' : n.toInt ≠ 0 := fun q => z (Int32.toInt_inj.mp q)
      have q1 := own_su n 1 (by simp only [Int32.reduceToInt]; omega) (by simp only [Int32.reduceToInt]; omega)
      simp only [Int32.reduceToInt] at q1
      have q2 := c_imul 4096 (n - 1)
      have q3 := ((4096 : Int32) * (n - 1)).toInt_lt
      have q4 := ((4096 : Int32) * (n - 1)).le_toInt
      simp only [Int32.reduceToInt] at q2
      have q5 := own_ad (4096 * (n - 1)) la (by omega) (by omega)
      omega
  refine OwnGo.istore W0 (pn := 42) (l' := #[.val (.int p0), .val (.int p1), .val (.int p2), .val (.int p3), .val (.int p4), .val (.int p5), .val (.int n), .val (.int la), .val (.int dc), .unset, .unset, .unset, .unset, .unset, .unset, .unset, .unset, .unset]) at_40 rfl rfl ?_
  refine OwnGo.iloadN W0 (pn := 43) at_42 rfl rfl ?_
  refine OwnGo.ldcI X0 hx hby hZ hown (pn := 45) (hw _ (List.mem_of_getElem? (i := 0) rfl)) at_43 rfl ?_
  refine OwnGo.iand W0 (pn := 46) at_45 rfl ?_
  refine OwnGo.iload W0 (pn := 48) at_46 rfl rfl ?_
  refine OwnGo.iconst (v := (1 : Int32)) W0 (pn := 49) at_48 rfl rfl ?_
  have J49 : OwnGo.Go p.tables e below (OwnGo.Qe s room_1 (own_Q n0)) (T0.setTop (mkF m 60 #[.val (.int p0), .val (.int p1), .val (.int p2), .val (.int p3), .val (.int p4), .val (.int p5), .val (.int n), .val (.int la), .val (.int dc), .unset, .unset, .unset, .unset, .unset, .unset, .unset, .unset, .unset] [(.int (if n = (1 : Int32) then la else (4096 : Int32))), (.int (p2 &&& (2147483647 : Int32)))])) → OwnGo.Go p.tables e below (OwnGo.Qe s room_1 (own_Q n0)) (T0.setTop (mkF m 49 #[.val (.int p0), .val (.int p1), .val (.int p2), .val (.int p3), .val (.int p4), .val (.int p5), .val (.int n), .val (.int la), .val (.int dc), .unset, .unset, .unset, .unset, .unset, .unset, .unset, .unset, .unset] [(.int (1 : Int32)), (.int n), (.int (p2 &&& (2147483647 : Int32)))])) := by
    intro hj
    refine OwnGo.icmp_ne W0 (pn := 52) (pt := 57) at_49 rfl (by decide) (by decide) (fun h => ?_) (fun h => ?_)
    · simp only [if_pos h] at hj
      refine OwnGo.iload W0 (pn := 54) at_52 rfl rfl ?_
      refine OwnGo.goto W0 (pt := 60) at_54 (by decide) (by decide) ?_
      exact hj
    · simp only [if_neg h] at hj
      refine OwnGo.sipush (v := (4096 : Int32)) W0 (pn := 60) at_57 rfl rfl ?_
      exact hj
  refine J49 ?_
  obtain ⟨c0, e_c0⟩ : ∃ z, z = (if n = (1 : Int32) then la else (4096 : Int32)) := ⟨_, rfl⟩
  rw [← e_c0]
  have hc0 : 1 ≤ c0.toInt ∧ c0.toInt ≤ 4096 := by rw [e_c0]; split <;> first | omega | decide
  have hc01 := own_ad c0 1 (by simp only [Int32.reduceToInt]; omega) (by simp only [Int32.reduceToInt]; omega)
  simp only [Int32.reduceToInt] at hc01
  refine OwnGo.iconst (v := (1 : Int32)) W0 (pn := 61) at_60 rfl rfl ?_
  refine OwnGo.iadd W0 (pn := 62) at_61 rfl ?_
  refine OwnGo.irem W0 (pn := 63) at_62 rfl (fun q => by rw [q] at hc01; simp only [Int32.reduceToInt] at hc01; omega) ?_
  obtain ⟨k0, e_k0⟩ : ∃ z, z = ((p2 &&& (2147483647 : Int32)) - ((p2 &&& (2147483647 : Int32)) / (c0 + (1 : Int32))) * (c0 + (1 : Int32))) := ⟨_, rfl⟩
  rw [← e_k0]
  have hk0 := own_rem (p2 &&& 2147483647) (c0 + 1) (own_mx p2) (by omega)
  rw [← e_k0] at hk0
  refine OwnGo.istore W0 (pn := 65) (l' := #[.val (.int p0), .val (.int p1), .val (.int p2), .val (.int p3), .val (.int p4), .val (.int p5), .val (.int n), .val (.int la), .val (.int dc), .val (.int k0), .unset, .unset, .unset, .unset, .unset, .unset, .unset, .unset]) at_63 rfl rfl ?_
  refine OwnGo.iloadN W0 (pn := 66) at_65 rfl rfl ?_
  refine OwnGo.ldcI X0 hx hby hZ hown (pn := 68) (hw _ (List.mem_of_getElem? (i := 0) rfl)) at_66 rfl ?_
  refine OwnGo.iand W0 (pn := 69) at_68 rfl ?_
  refine OwnGo.iload W0 (pn := 71) at_69 rfl rfl ?_
  refine OwnGo.iconst (v := (2 : Int32)) W0 (pn := 72) at_71 rfl rfl ?_
  have J72 : OwnGo.Go p.tables e below (OwnGo.Qe s room_1 (own_Q n0)) (T0.setTop (mkF m 83 #[.val (.int p0), .val (.int p1), .val (.int p2), .val (.int p3), .val (.int p4), .val (.int p5), .val (.int n), .val (.int la), .val (.int dc), .val (.int k0), .unset, .unset, .unset, .unset, .unset, .unset, .unset, .unset] [(.int (if n = (2 : Int32) then la else (4096 : Int32))), (.int (p3 &&& (2147483647 : Int32)))])) → OwnGo.Go p.tables e below (OwnGo.Qe s room_1 (own_Q n0)) (T0.setTop (mkF m 72 #[.val (.int p0), .val (.int p1), .val (.int p2), .val (.int p3), .val (.int p4), .val (.int p5), .val (.int n), .val (.int la), .val (.int dc), .val (.int k0), .unset, .unset, .unset, .unset, .unset, .unset, .unset, .unset] [(.int (2 : Int32)), (.int n), (.int (p3 &&& (2147483647 : Int32)))])) := by
    intro hj
    refine OwnGo.icmp_ne W0 (pn := 75) (pt := 80) at_72 rfl (by decide) (by decide) (fun h => ?_) (fun h => ?_)
    · simp only [if_pos h] at hj
      refine OwnGo.iload W0 (pn := 77) at_75 rfl rfl ?_
      refine OwnGo.goto W0 (pt := 83) at_77 (by decide) (by decide) ?_
      exact hj
    · simp only [if_neg h] at hj
      refine OwnGo.sipush (v := (4096 : Int32)) W0 (pn := 83) at_80 rfl rfl ?_
      exact hj
  refine J72 ?_
  obtain ⟨c1, e_c1⟩ : ∃ z, z = (if n = (2 : Int32) then la else (4096 : Int32)) := ⟨_, rfl⟩
  rw [← e_c1]
  have hc1 : 1 ≤ c1.toInt ∧ c1.toInt ≤ 4096 := by rw [e_c1]; split <;> first | omega | decide
  have hc11 := own_ad c1 1 (by simp only [Int32.reduceToInt]; omega) (by simp only [Int32.reduceToInt]; omega)
  simp only [Int32.reduceToInt] at hc11
  refine OwnGo.iconst (v := (1 : Int32)) W0 (pn := 84) at_83 rfl rfl ?_
  refine OwnGo.iadd W0 (pn := 85) at_84 rfl ?_
  refine OwnGo.irem W0 (pn := 86) at_85 rfl (fun q => by rw [q] at hc11; simp only [Int32.reduceToInt] at hc11; omega) ?_
  obtain ⟨k1, e_k1⟩ : ∃ z, z = ((p3 &&& (2147483647 : Int32)) - ((p3 &&& (2147483647 : Int32)) / (c1 + (1 : Int32))) * (c1 + (1 : Int32))) := ⟨_, rfl⟩
  rw [← e_k1]
  have hk1 := own_rem (p3 &&& 2147483647) (c1 + 1) (own_mx p3) (by omega)
  rw [← e_k1] at hk1
  have hla1 := own_ad la 1 (by simp only [Int32.reduceToInt]; omega) (by simp only [Int32.reduceToInt]; omega)
  simp only [Int32.reduceToInt] at hla1
  refine OwnGo.istore W0 (pn := 88) (l' := #[.val (.int p0), .val (.int p1), .val (.int p2), .val (.int p3), .val (.int p4), .val (.int p5), .val (.int n), .val (.int la), .val (.int dc), .val (.int k0), .val (.int k1), .unset, .unset, .unset, .unset, .unset, .unset, .unset]) at_86 rfl rfl ?_
  refine OwnGo.iload W0 (pn := 90) at_88 rfl rfl ?_
  refine OwnGo.ldcI X0 hx hby hZ hown (pn := 92) (hw _ (List.mem_of_getElem? (i := 0) rfl)) at_90 rfl ?_
  refine OwnGo.iand W0 (pn := 93) at_92 rfl ?_
  refine OwnGo.iload W0 (pn := 95) at_93 rfl rfl ?_
  refine OwnGo.iconst (v := (1 : Int32)) W0 (pn := 96) at_95 rfl rfl ?_
  refine OwnGo.iadd W0 (pn := 97) at_96 rfl ?_
  refine OwnGo.irem W0 (pn := 98) at_97 rfl (fun q => by rw [q] at hla1; simp only [Int32.reduceToInt] at hla1; omega) ?_
  obtain ⟨kk, e_kk⟩ : ∃ z, z = ((p4 &&& (2147483647 : Int32)) - ((p4 &&& (2147483647 : Int32)) / (la + (1 : Int32))) * (la + (1 : Int32))) := ⟨_, rfl⟩
  rw [← e_kk]
  have hkk := own_rem (p4 &&& 2147483647) (la + 1) (own_mx p4) (by omega)
  rw [← e_kk] at hkk
  refine OwnGo.istore W0 (pn := 100) (l' := #[.val (.int p0), .val (.int p1), .val (.int p2), .val (.int p3), .val (.int p4), .val (.int p5), .val (.int n), .val (.int la), .val (.int dc), .val (.int k0), .val (.int k1), .val (.int kk), .unset, .unset, .unset, .unset, .unset, .unset]) at_98 rfl rfl ?_
  refine OwnGo.iload W0 (pn := 102) at_100 rfl rfl ?_
  refine OwnGo.bipush (v := (63 : Int32)) W0 (pn := 104) at_102 rfl rfl ?_
  refine OwnGo.iand W0 (pn := 105) at_104 rfl ?_
  obtain ⟨wd, e_wd⟩ : ∃ z, z = (p5 &&& (63 : Int32)) := ⟨_, rfl⟩
  rw [← e_wd]
  have hwd : wd.toInt = p5.toInt % (2 ^ 6 : Nat) := by rw [e_wd]; exact c_mask p5 63 6 (by decide) (by decide)
  refine OwnGo.istore W0 (pn := 107) (l' := #[.val (.int p0), .val (.int p1), .val (.int p2), .val (.int p3), .val (.int p4), .val (.int p5), .val (.int n), .val (.int la), .val (.int dc), .val (.int k0), .val (.int k1), .val (.int kk), .val (.int wd), .unset, .unset, .unset, .unset, .unset]) at_105 rfl rfl ?_
  have B277 : ∀ (T0 : State) (L0 : List Loc) (X0 : Stand p l e room_1 s m #[(.int p0), (.int p1), (.int p2), (.int p3), (.int p4), (.int p5)] below meth c T0 L0 3 9) (N0 : Fr n0 L0) (Z_0 : n0 ≤ T0.heap.size) (S1_0 : Sta Z T0.heap "com/example/quire/quire/document/FieldType" "NUMERIC" "Lcom/example/quire/quire/document/FieldType;" (.ref k2)) (S2_0 : Sta Z T0.heap "com/example/quire/quire/values/NumericEncoding" "DELTA" "Lcom/example/quire/quire/values/NumericEncoding;" (.ref k3)) (ca wa ma : Addr) (ex : Int32) (xs ws : List Int32) (Aca_0 : OwnGo.Ia Z T0.heap ca .int xs) (Awa_0 : OwnGo.Ia Z T0.heap wa .int ws) (hl : xs.length ≤ 3) (hlw : ws.length = xs.length) (hd1 : ∀ k : Nat, k < xs.length → (k : Int) * 4096 + 1 ≤ dc.toInt) (hxs : ∀ k : Nat, k < xs.length → 0 ≤ (xs.getD k 0).toInt ∧ (xs.getD k 0).toInt ≤ 4096) (hws : ∀ k : Nat, k < xs.length → 0 ≤ (ws.getD k 0).toInt ∧ (ws.getD k 0).toInt ≤ 63) (hex : own_vc xs = ex), OwnGo.Go p.tables e below (OwnGo.Qe s room_1 (own_Q n0)) (T0.setTop (mkF m 277 #[.val (.int p0), .val (.int p1), .val (.int p2), .val (.int p3), .val (.int p4), .val (.int p5), .val (.int n), .val (.int la), .val (.int dc), .val (.int k0), .val (.int k1), .val (.int kk), .val (.int wd), .val (.ref ca), .val (.ref wa), .val (.ref ma), .val (.int ex), .unset] [])) := by
    intro T0 L0 X0 N0 Z_0 S1_0 S2_0 ca wa ma ex xs ws Aca_0 Awa_0 hl hlw hd1 hxs hws hex
    have W0 : OwnGo.Wk p.tables T0 m c below code := ⟨X0.here, hx, hby⟩
    refine OwnGo.newobj X0 hx hby hZ hown (pn := 280) (hw _ (List.mem_of_getElem? (i := 3) rfl)) (hw _ (List.mem_of_getElem? (i := 4) rfl)) (hw _ (List.mem_of_getElem? (i := 5) rfl)) (by decide) (by decide) at_277 rfl (fun T1 X1 E1 Eo_1 D1 => ?_)
    obtain ⟨o, go⟩ : ∃ z, z = T0.heap.size := ⟨_, rfl⟩
    rw [← go] at Eo_1 ⊢
    have D1 : ∀ {O nm d : String} {ty : FieldType}, Laid Z a0 "com/example/quire/quire/values/internal/FieldLayout" O nm d → parseFieldDescriptor d = some ty → Fld Z T1.heap o O nm d (defaultValue ty) := fun a b => by rw [go]; exact D1 a b
    have ne_ca_o : ca ≠ o := Nat.ne_of_lt (by rw [go]; exact Aca_0.lt)
    have ne_wa_o : wa ≠ o := Nat.ne_of_lt (by rw [go]; exact Awa_0.lt)
    have o_o : n0 ≤ o := by rw [go]; exact Z_0
    have Aca_1 := Aca_0.ext E1
    have Awa_1 := Awa_0.ext E1
    have S1_1 : Sta Z T1.heap "com/example/quire/quire/document/FieldType" "NUMERIC" "Lcom/example/quire/quire/document/FieldType;" (.ref k2) := S1_0.ext E1
    have S2_1 : Sta Z T1.heap "com/example/quire/quire/values/NumericEncoding" "DELTA" "Lcom/example/quire/quire/values/NumericEncoding;" (.ref k3) := S2_0.ext E1
    have Z_1 : n0 ≤ T1.heap.size := Nat.le_trans Z_0 E1.1
    have W1 : OwnGo.Wk p.tables T1 m c below code := ⟨X1.here, hx, hby⟩
    refine OwnGo.dup W1 (pn := 281) at_280 rfl rfl ?_
    refine OwnGo.bipush (v := (7 : Int32)) W1 (pn := 283) at_281 rfl rfl ?_
    refine OwnGo.getst X1 hx hby hZ hown (pn := 286) (hw _ (List.mem_of_getElem? (i := 6) rfl)) S1_1 at_283 rfl (fun T2 X2 f2 => ?_)
    have Aca_2 : OwnGo.Ia Z T2.heap ca .int xs := by rw [f2]; exact Aca_1
    have Awa_2 : OwnGo.Ia Z T2.heap wa .int ws := by rw [f2]; exact Awa_1
    have S1_2 : Sta Z T2.heap "com/example/quire/quire/document/FieldType" "NUMERIC" "Lcom/example/quire/quire/document/FieldType;" (.ref k2) := by rw [f2]; exact S1_1
    have S2_2 : Sta Z T2.heap "com/example/quire/quire/values/NumericEncoding" "DELTA" "Lcom/example/quire/quire/values/NumericEncoding;" (.ref k3) := by rw [f2]; exact S2_1
    have E_o_2 : Exa Z T2.heap o "com/example/quire/quire/values/internal/FieldLayout" := by rw [f2]; exact Eo_1
    have Z_2 : n0 ≤ T2.heap.size := by rw [f2]; exact Z_1
    have D2 : ∀ {O nm d : String} {ty : FieldType}, Laid Z a0 "com/example/quire/quire/values/internal/FieldLayout" O nm d → parseFieldDescriptor d = some ty → Fld Z T2.heap o O nm d (defaultValue ty) := fun a b => by rw [f2]; exact D1 a b
    have W2 : OwnGo.Wk p.tables T2 m c below code := ⟨X2.here, hx, hby⟩
    refine OwnGo.getst X2 hx hby hZ hown (pn := 289) (hw _ (List.mem_of_getElem? (i := 9) rfl)) S2_2 at_286 rfl (fun T3 X3 f3 => ?_)
    have Aca_3 : OwnGo.Ia Z T3.heap ca .int xs := by rw [f3]; exact Aca_2
    have Awa_3 : OwnGo.Ia Z T3.heap wa .int ws := by rw [f3]; exact Awa_2
    have S1_3 : Sta Z T3.heap "com/example/quire/quire/document/FieldType" "NUMERIC" "Lcom/example/quire/quire/document/FieldType;" (.ref k2) := by rw [f3]; exact S1_2
    have S2_3 : Sta Z T3.heap "com/example/quire/quire/values/NumericEncoding" "DELTA" "Lcom/example/quire/quire/values/NumericEncoding;" (.ref k3) := by rw [f3]; exact S2_2
    have E_o_3 : Exa Z T3.heap o "com/example/quire/quire/values/internal/FieldLayout" := by rw [f3]; exact E_o_2
    have Z_3 : n0 ≤ T3.heap.size := by rw [f3]; exact Z_2
    have D3 : ∀ {O nm d : String} {ty : FieldType}, Laid Z a0 "com/example/quire/quire/values/internal/FieldLayout" O nm d → parseFieldDescriptor d = some ty → Fld Z T3.heap o O nm d (defaultValue ty) := fun a b => by rw [f3]; exact D2 a b
    have W3 : OwnGo.Wk p.tables T3 m c below code := ⟨X3.here, hx, hby⟩
    refine OwnGo.lconst (v := (1 : Int64)) W3 (pn := 290) at_289 rfl rfl ?_
    refine OwnGo.iconst (v := (0 : Int32)) W3 (pn := 291) at_290 rfl rfl ?_
    refine OwnGo.newarrX X3 hx hby hZ (pn := 293) (hw _ (List.mem_of_getElem? (i := 2) rfl)) (by decide) 0 (by decide) (by decide) (by decide) (by decide) at_291 rfl (fun T4 X4 E4 => ?_)
    obtain ⟨ta, gta⟩ : ∃ z, z = T3.heap.size := ⟨_, rfl⟩
    rw [← gta]
    have Aca_4 := Aca_3.ext E4
    have Awa_4 := Awa_3.ext E4
    have S1_4 : Sta Z T4.heap "com/example/quire/quire/document/FieldType" "NUMERIC" "Lcom/example/quire/quire/document/FieldType;" (.ref k2) := S1_3.ext E4
    have S2_4 : Sta Z T4.heap "com/example/quire/quire/values/NumericEncoding" "DELTA" "Lcom/example/quire/quire/values/NumericEncoding;" (.ref k3) := S2_3.ext E4
    have E_o_4 : Exa Z T4.heap o "com/example/quire/quire/values/internal/FieldLayout" := E_o_3.ext E4
    have Z_4 : n0 ≤ T4.heap.size := Nat.le_trans Z_3 E4.1
    have W4 : OwnGo.Wk p.tables T4 m c below code := ⟨X4.here, hx, hby⟩
    have D4 : ∀ {O nm d : String} {ty : FieldType}, Laid Z a0 "com/example/quire/quire/values/internal/FieldLayout" O nm d → parseFieldDescriptor d = some ty → Fld Z T4.heap o O nm d (defaultValue ty) := fun a b => (D3 a b).ext E4
    refine OwnGo.iload W4 (pn := 295) at_293 rfl rfl ?_
    refine OwnGo.aload W4 (pn := 297) at_295 rfl rfl rfl ?_
    refine OwnGo.aload W4 (pn := 299) at_297 rfl rfl rfl ?_
    refine OwnGo.aload W4 (pn := 301) at_299 rfl rfl rfl ?_
    refine OwnGo.callI X4 hx hby hZ hown (a := o) (argsL := [(.int (7 : Int32)), (.ref k2), (.ref k3), (.long (1 : Int64)), (.ref ta), (.int dc), (.ref ca), (.ref wa), (.ref ma)]) (rest := [(.ref o)]) (pn := 304) rfl (hw _ (List.mem_of_getElem? (i := 12) rfl)) (hw _ (List.mem_of_getElem? (i := 13) rfl)) (hw _ (List.mem_of_getElem? (i := 5) rfl)) (hw _ (List.mem_of_getElem? (i := 14) rfl)) (by decide) (rm_init l Z a0 hw o (7 : Int32) k2 k3 (1 : Int64) ta dc ca wa ma xs ws _ n0 Z_4 o_o E_o_4 D4 Aca_4 Awa_4 ne_ca_o ne_wa_o hl hlw hd1 (by omega) hxs hws) (by decide) (Nat.le_of_ble_eq_true rfl) (by decide) (by decide) (lenOf pd_0 rfl) (by rw [hml]; rfl) rfl at_301 rfl (fun v5_ T5 L5 Q5 X5 => ?_)
    obtain ⟨rfl, N5q, E_o_5, F_o_counts_5, Aca_5⟩ := Q5
    have N5 := Fr.app N0 N5q
    show OwnGo.Go _ _ _ _ (T5.setTop (mkF m 304 #[.val (.int p0), .val (.int p1), .val (.int p2), .val (.int p3), .val (.int p4), .val (.int p5), .val (.int n), .val (.int la), .val (.int dc), .val (.int k0), .val (.int k1), .val (.int kk), .val (.int wd), .val (.ref ca), .val (.ref wa), .val (.ref ma), .val (.int ex), .unset] [(.ref o)]))
    have W5 : OwnGo.Wk p.tables T5 m c below code := ⟨X5.here, hx, hby⟩
    refine OwnGo.astore W5 (pn := 306) (l' := #[.val (.int p0), .val (.int p1), .val (.int p2), .val (.int p3), .val (.int p4), .val (.int p5), .val (.int n), .val (.int la), .val (.int dc), .val (.int k0), .val (.int k1), .val (.int kk), .val (.int wd), .val (.ref ca), .val (.ref wa), .val (.ref ma), .val (.int ex), .val (.ref o)]) at_304 rfl rfl rfl ?_
    refine OwnGo.aload W5 (pn := 308) at_306 rfl rfl rfl ?_
    refine OwnGo.callVP X5 hx hby hZ hown (argsL := []) (rest := []) (pn := 311) (hw _ (List.mem_of_getElem? (i := 40) rfl)) (hw _ (List.mem_of_getElem? (i := 41) rfl)) (hw _ (List.mem_of_getElem? (i := 43) rfl)) (hw _ (List.mem_of_getElem? (i := 42) rfl)) (hw _ (List.mem_of_getElem? (i := 5) rfl)) (hw _ (List.mem_of_getElem? (i := 44) rfl)) (by decide) E_o_5 (rm_vc l Z a0 hw o ca xs _ F_o_counts_5 Aca_5 hl) (by decide) (Nat.le_of_ble_eq_true rfl) (by decide) (by decide) (lenOf pd_2 rfl) (by rw [hml]; rfl) rfl at_308 rfl (fun T6 X6 f6 => ?_)
    have Aca_6 : OwnGo.Ia Z T6.heap ca .int xs := by rw [f6]; exact Aca_5
    have E_o_6 : Exa Z T6.heap o "com/example/quire/quire/values/internal/FieldLayout" := by rw [f6]; exact E_o_5
    have F_o_counts_6 : Fld Z T6.heap o "com/example/quire/quire/values/internal/FieldLayout" "counts" "[I" (.ref ca) := by rw [f6]; exact F_o_counts_5
    have W6 : OwnGo.Wk p.tables T6 m c below code := ⟨X6.here, hx, hby⟩
    refine OwnGo.iload W6 (pn := 313) at_311 rfl rfl ?_
    refine OwnGo.icmp_ne W6 (pn := 316) (pt := 320) at_313 rfl (by decide) (by decide) (fun h313 => ?_) (fun h313 => ?_)
    · skip
      refine OwnGo.iconst (v := (1 : Int32)) W6 (pn := 317) at_316 rfl rfl ?_
      refine OwnGo.goto W6 (pt := 321) at_317 (by decide) (by decide) ?_
      exact OwnGo.ireturn X6 hx hby hret hlk rfl (by simp) at_321 ⟨rfl, N5⟩ (by decide) (by decide)
    · skip
      exact absurd hex h313
  refine OwnGo.iload W0 (pn := 109) at_107 rfl rfl ?_
  refine OwnGo.if_ne W0 (pn := 112) (pt := 133) at_109 rfl (by decide) (by decide) (fun h109 => ?_) (fun h109 => ?_)
  · skip
    rw [h109] at hn hdc
    simp only [Int32.reduceToInt] at hn hdc
    have hdc3 : dc.toInt = 0 := by omega
    refine OwnGo.iconst (v := (0 : Int32)) W0 (pn := 113) at_112 rfl rfl ?_
    refine OwnGo.newarr X0 hx hby hZ (pn := 115) (hw _ (List.mem_of_getElem? (i := 1) rfl)) rfl (by decide) 3 (by decide) (by decide) (by decide) (by decide) at_113 rfl (fun T7 X7 E7 Aca_7 => ?_)
    obtain ⟨ca, gca⟩ : ∃ z, z = T0.heap.size := ⟨_, rfl⟩
    rw [← gca] at Aca_7 ⊢
    have S1_7 : Sta Z T7.heap "com/example/quire/quire/document/FieldType" "NUMERIC" "Lcom/example/quire/quire/document/FieldType;" (.ref k2) := S1_0.ext E7
    have S2_7 : Sta Z T7.heap "com/example/quire/quire/values/NumericEncoding" "DELTA" "Lcom/example/quire/quire/values/NumericEncoding;" (.ref k3) := S2_0.ext E7
    have o_ca : n0 ≤ ca := by rw [gca]; exact Z_0
    have Z_7 : n0 ≤ T7.heap.size := Nat.le_trans Z_0 E7.1
    have W7 : OwnGo.Wk p.tables T7 m c below code := ⟨X7.here, hx, hby⟩
    have Aca_7 : OwnGo.Ia Z T7.heap ca .int ([] : List Int32) := Aca_7
    refine OwnGo.astore W7 (pn := 117) (l' := #[.val (.int p0), .val (.int p1), .val (.int p2), .val (.int p3), .val (.int p4), .val (.int p5), .val (.int n), .val (.int la), .val (.int dc), .val (.int k0), .val (.int k1), .val (.int kk), .val (.int wd), .val (.ref ca), .unset, .unset, .unset, .unset]) at_115 rfl rfl rfl ?_
    refine OwnGo.iconst (v := (0 : Int32)) W7 (pn := 118) at_117 rfl rfl ?_
    refine OwnGo.newarr X7 hx hby hZ (pn := 120) (hw _ (List.mem_of_getElem? (i := 1) rfl)) rfl (by decide) 3 (by decide) (by decide) (by decide) (by decide) at_118 rfl (fun T8 X8 E8 Awa_8 => ?_)
    obtain ⟨wa, gwa⟩ : ∃ z, z = T7.heap.size := ⟨_, rfl⟩
    rw [← gwa] at Awa_8 ⊢
    have ne_ca_wa : ca ≠ wa := Nat.ne_of_lt (by rw [gwa]; exact Aca_7.lt)
    have ne_wa_ca := ne_ca_wa.symm
    have Aca_8 := Aca_7.ext E8
    have S1_8 : Sta Z T8.heap "com/example/quire/quire/document/FieldType" "NUMERIC" "Lcom/example/quire/quire/document/FieldType;" (.ref k2) := S1_7.ext E8
    have S2_8 : Sta Z T8.heap "com/example/quire/quire/values/NumericEncoding" "DELTA" "Lcom/example/quire/quire/values/NumericEncoding;" (.ref k3) := S2_7.ext E8
    have o_wa : n0 ≤ wa := by rw [gwa]; exact Z_7
    have Z_8 : n0 ≤ T8.heap.size := Nat.le_trans Z_7 E8.1
    have W8 : OwnGo.Wk p.tables T8 m c below code := ⟨X8.here, hx, hby⟩
    have Awa_8 : OwnGo.Ia Z T8.heap wa .int ([] : List Int32) := Awa_8
    refine OwnGo.astore W8 (pn := 122) (l' := #[.val (.int p0), .val (.int p1), .val (.int p2), .val (.int p3), .val (.int p4), .val (.int p5), .val (.int n), .val (.int la), .val (.int dc), .val (.int k0), .val (.int k1), .val (.int kk), .val (.int wd), .val (.ref ca), .val (.ref wa), .unset, .unset, .unset]) at_120 rfl rfl rfl ?_
    refine OwnGo.iconst (v := (0 : Int32)) W8 (pn := 123) at_122 rfl rfl ?_
    refine OwnGo.newarrX X8 hx hby hZ (pn := 125) (hw _ (List.mem_of_getElem? (i := 2) rfl)) (by decide) 3 (by decide) (by decide) (by decide) (by decide) at_123 rfl (fun T9 X9 E9 => ?_)
    obtain ⟨ma, gma⟩ : ∃ z, z = T8.heap.size := ⟨_, rfl⟩
    rw [← gma]
    have Aca_9 := Aca_8.ext E9
    have Awa_9 := Awa_8.ext E9
    have S1_9 : Sta Z T9.heap "com/example/quire/quire/document/FieldType" "NUMERIC" "Lcom/example/quire/quire/document/FieldType;" (.ref k2) := S1_8.ext E9
    have S2_9 : Sta Z T9.heap "com/example/quire/quire/values/NumericEncoding" "DELTA" "Lcom/example/quire/quire/values/NumericEncoding;" (.ref k3) := S2_8.ext E9
    have Z_9 : n0 ≤ T9.heap.size := Nat.le_trans Z_8 E9.1
    have W9 : OwnGo.Wk p.tables T9 m c below code := ⟨X9.here, hx, hby⟩
    refine OwnGo.astore W9 (pn := 127) (l' := #[.val (.int p0), .val (.int p1), .val (.int p2), .val (.int p3), .val (.int p4), .val (.int p5), .val (.int n), .val (.int la), .val (.int dc), .val (.int k0), .val (.int k1), .val (.int kk), .val (.int wd), .val (.ref ca), .val (.ref wa), .val (.ref ma), .unset, .unset]) at_125 rfl rfl rfl ?_
    refine OwnGo.iconst (v := (0 : Int32)) W9 (pn := 128) at_127 rfl rfl ?_
    refine OwnGo.istore W9 (pn := 130) (l' := #[.val (.int p0), .val (.int p1), .val (.int p2), .val (.int p3), .val (.int p4), .val (.int p5), .val (.int n), .val (.int la), .val (.int dc), .val (.int k0), .val (.int k1), .val (.int kk), .val (.int wd), .val (.ref ca), .val (.ref wa), .val (.ref ma), .val (.int (0 : Int32)), .unset]) at_128 rfl rfl ?_
    refine OwnGo.goto W9 (pt := 277) at_130 (by decide) (by decide) ?_
    have hlen : ([] : List Int32).length = 0 := rfl
    refine B277 T9 _ X9 N0 Z_9 S1_9 S2_9 ca wa ma _ ([] : List Int32) ([] : List Int32) Aca_9 Awa_9 (Nat.le_of_ble_eq_true rfl) rfl (fun k hk => ?_) (fun k hk => ?_) (fun k hk => ?_) ?_
    · rw [hlen] at hk; omega
    · rw [hlen] at hk; omega
    · rw [hlen] at hk; omega
    · rfl
  · skip
    have n0' : n.toInt ≠ 0 := fun q => h109 (Int32.toInt_inj.mp q)
    refine OwnGo.iload W0 (pn := 135) at_133 rfl rfl ?_
    refine OwnGo.iconst (v := (1 : Int32)) W0 (pn := 136) at_135 rfl rfl ?_
    refine OwnGo.icmp_ne W0 (pn := 139) (pt := 171) at_136 rfl (by decide) (by decide) (fun h136 => ?_) (fun h136 => ?_)
    · skip
      have n1 : n.toInt = 1 := by rw [h136]; decide
      refine OwnGo.iconst (v := (1 : Int32)) W0 (pn := 140) at_139 rfl rfl ?_
      refine OwnGo.newarr X0 hx hby hZ (pn := 142) (hw _ (List.mem_of_getElem? (i := 1) rfl)) rfl (by decide) 3 (by decide) (by decide) (by decide) (by decide) at_140 rfl (fun T10 X10 E10 Aca_10 => ?_)
      obtain ⟨ca, gca⟩ : ∃ z, z = T0.heap.size := ⟨_, rfl⟩
      rw [← gca] at Aca_10 ⊢
      have S1_10 : Sta Z T10.heap "com/example/quire/quire/document/FieldType" "NUMERIC" "Lcom/example/quire/quire/document/FieldType;" (.ref k2) := S1_0.ext E10
      have S2_10 : Sta Z T10.heap "com/example/quire/quire/values/NumericEncoding" "DELTA" "Lcom/example/quire/quire/values/NumericEncoding;" (.ref k3) := S2_0.ext E10
      have o_ca : n0 ≤ ca := by rw [gca]; exact Z_0
      have Z_10 : n0 ≤ T10.heap.size := Nat.le_trans Z_0 E10.1
      have W10 : OwnGo.Wk p.tables T10 m c below code := ⟨X10.here, hx, hby⟩
      have Aca_10 : OwnGo.Ia Z T10.heap ca .int [0] := Aca_10
      refine OwnGo.dup W10 (pn := 143) at_142 rfl rfl ?_
      refine OwnGo.iconst (v := (0 : Int32)) W10 (pn := 144) at_143 rfl rfl ?_
      refine OwnGo.iload W10 (pn := 146) at_144 rfl rfl ?_
      refine OwnGo.iastore X10 hx hby hZ (pn := 147) Aca_10 (by decide) (by show 0 < 1; decide) o_ca N0 at_146 rfl (fun T11 L11 X11 N11 Aca_11 Wr11 => ?_)
      have Aca_11 : OwnGo.Ia Z T11.heap ca .int [k0] := Aca_11
      have S1_11 : Sta Z T11.heap "com/example/quire/quire/document/FieldType" "NUMERIC" "Lcom/example/quire/quire/document/FieldType;" (.ref k2) := S1_10.wr Wr11
      have S2_11 : Sta Z T11.heap "com/example/quire/quire/values/NumericEncoding" "DELTA" "Lcom/example/quire/quire/values/NumericEncoding;" (.ref k3) := S2_10.wr Wr11
      have Z_11 : n0 ≤ T11.heap.size := by rw [Wr11.size]; exact Z_10
      have W11 : OwnGo.Wk p.tables T11 m c below code := ⟨X11.here, hx, hby⟩
      refine OwnGo.astore W11 (pn := 149) (l' := #[.val (.int p0), .val (.int p1), .val (.int p2), .val (.int p3), .val (.int p4), .val (.int p5), .val (.int n), .val (.int la), .val (.int dc), .val (.int k0), .val (.int k1), .val (.int kk), .val (.int wd), .val (.ref ca), .unset, .unset, .unset, .unset]) at_147 rfl rfl rfl ?_
      refine OwnGo.iconst (v := (1 : Int32)) W11 (pn := 150) at_149 rfl rfl ?_
      refine OwnGo.newarr X11 hx hby hZ (pn := 152) (hw _ (List.mem_of_getElem? (i := 1) rfl)) rfl (by decide) 3 (by decide) (by decide) (by decide) (by decide) at_150 rfl (fun T12 X12 E12 Awa_12 => ?_)
      obtain ⟨wa, gwa⟩ : ∃ z, z = T11.heap.size := ⟨_, rfl⟩
      rw [← gwa] at Awa_12 ⊢
      have ne_ca_wa : ca ≠ wa := Nat.ne_of_lt (by rw [gwa]; exact Aca_11.lt)
      have ne_wa_ca := ne_ca_wa.symm
      have Aca_12 := Aca_11.ext E12
      have S1_12 : Sta Z T12.heap "com/example/quire/quire/document/FieldType" "NUMERIC" "Lcom/example/quire/quire/document/FieldType;" (.ref k2) := S1_11.ext E12
      have S2_12 : Sta Z T12.heap "com/example/quire/quire/values/NumericEncoding" "DELTA" "Lcom/example/quire/quire/values/NumericEncoding;" (.ref k3) := S2_11.ext E12
      have o_wa : n0 ≤ wa := by rw [gwa]; exact Z_11
      have Z_12 : n0 ≤ T12.heap.size := Nat.le_trans Z_11 E12.1
      have W12 : OwnGo.Wk p.tables T12 m c below code := ⟨X12.here, hx, hby⟩
      have Awa_12 : OwnGo.Ia Z T12.heap wa .int [0] := Awa_12
      refine OwnGo.dup W12 (pn := 153) at_152 rfl rfl ?_
      refine OwnGo.iconst (v := (0 : Int32)) W12 (pn := 154) at_153 rfl rfl ?_
      refine OwnGo.iload W12 (pn := 156) at_154 rfl rfl ?_
      refine OwnGo.iastore X12 hx hby hZ (pn := 157) Awa_12 (by decide) (by show 0 < 1; decide) o_wa N11 at_156 rfl (fun T13 L13 X13 N13 Awa_13 Wr13 => ?_)
      have Awa_13 : OwnGo.Ia Z T13.heap wa .int [wd] := Awa_13
      have Aca_13 := Aca_12.other Wr13 ne_ca_wa
      have S1_13 : Sta Z T13.heap "com/example/quire/quire/document/FieldType" "NUMERIC" "Lcom/example/quire/quire/document/FieldType;" (.ref k2) := S1_12.wr Wr13
      have S2_13 : Sta Z T13.heap "com/example/quire/quire/values/NumericEncoding" "DELTA" "Lcom/example/quire/quire/values/NumericEncoding;" (.ref k3) := S2_12.wr Wr13
      have Z_13 : n0 ≤ T13.heap.size := by rw [Wr13.size]; exact Z_12
      have W13 : OwnGo.Wk p.tables T13 m c below code := ⟨X13.here, hx, hby⟩
      refine OwnGo.astore W13 (pn := 159) (l' := #[.val (.int p0), .val (.int p1), .val (.int p2), .val (.int p3), .val (.int p4), .val (.int p5), .val (.int n), .val (.int la), .val (.int dc), .val (.int k0), .val (.int k1), .val (.int kk), .val (.int wd), .val (.ref ca), .val (.ref wa), .unset, .unset, .unset]) at_157 rfl rfl rfl ?_
      refine OwnGo.iconst (v := (1 : Int32)) W13 (pn := 160) at_159 rfl rfl ?_
      refine OwnGo.newarrX X13 hx hby hZ (pn := 162) (hw _ (List.mem_of_getElem? (i := 2) rfl)) (by decide) 3 (by decide) (by decide) (by decide) (by decide) at_160 rfl (fun T14 X14 E14 => ?_)
      obtain ⟨ma, gma⟩ : ∃ z, z = T13.heap.size := ⟨_, rfl⟩
      rw [← gma]
      have Aca_14 := Aca_13.ext E14
      have Awa_14 := Awa_13.ext E14
      have S1_14 : Sta Z T14.heap "com/example/quire/quire/document/FieldType" "NUMERIC" "Lcom/example/quire/quire/document/FieldType;" (.ref k2) := S1_13.ext E14
      have S2_14 : Sta Z T14.heap "com/example/quire/quire/values/NumericEncoding" "DELTA" "Lcom/example/quire/quire/values/NumericEncoding;" (.ref k3) := S2_13.ext E14
      have Z_14 : n0 ≤ T14.heap.size := Nat.le_trans Z_13 E14.1
      have W14 : OwnGo.Wk p.tables T14 m c below code := ⟨X14.here, hx, hby⟩
      refine OwnGo.astore W14 (pn := 164) (l' := #[.val (.int p0), .val (.int p1), .val (.int p2), .val (.int p3), .val (.int p4), .val (.int p5), .val (.int n), .val (.int la), .val (.int dc), .val (.int k0), .val (.int k1), .val (.int kk), .val (.int wd), .val (.ref ca), .val (.ref wa), .val (.ref ma), .unset, .unset]) at_162 rfl rfl rfl ?_
      refine OwnGo.iload W14 (pn := 166) at_164 rfl rfl ?_
      refine OwnGo.istore W14 (pn := 168) (l' := #[.val (.int p0), .val (.int p1), .val (.int p2), .val (.int p3), .val (.int p4), .val (.int p5), .val (.int n), .val (.int la), .val (.int dc), .val (.int k0), .val (.int k1), .val (.int kk), .val (.int wd), .val (.ref ca), .val (.ref wa), .val (.ref ma), .val (.int k0), .unset]) at_166 rfl rfl ?_
      refine OwnGo.goto W14 (pt := 277) at_168 (by decide) (by decide) ?_
      have hlen : [k0].length = 1 := rfl
      refine B277 T14 _ X14 N13 Z_14 S1_14 S2_14 ca wa ma _ [k0] [wd] Aca_14 Awa_14 (Nat.le_of_ble_eq_true rfl) rfl (fun k hk => ?_) (fun k hk => ?_) (fun k hk => ?_) ?_
      · rw [hlen] at hk; omega
      · rw [hlen] at hk
        rcases (by omega : k = 0) with rfl
        · show 0 ≤ k0.toInt ∧ k0.toInt ≤ 4096; omega
      · rw [hlen] at hk
        rcases (by omega : k = 0) with rfl
        · show 0 ≤ wd.toInt ∧ wd.toInt ≤ 63; omega
      · show (0 + k0) = _
        rw [Int32.zero_add]
    · skip
      have n1' : n.toInt ≠ 1 := fun q => h136 (Int32.toInt_inj.mp q)
      refine OwnGo.iload W0 (pn := 173) at_171 rfl rfl ?_
      refine OwnGo.iconst (v := (2 : Int32)) W0 (pn := 174) at_173 rfl rfl ?_
      refine OwnGo.icmp_ne W0 (pn := 177) (pt := 222) at_174 rfl (by decide) (by decide) (fun h174 => ?_) (fun h174 => ?_)
      · skip
        have n2 : n.toInt = 2 := by rw [h174]; decide
        refine OwnGo.iconst (v := (2 : Int32)) W0 (pn := 178) at_177 rfl rfl ?_
        refine OwnGo.newarr X0 hx hby hZ (pn := 180) (hw _ (List.mem_of_getElem? (i := 1) rfl)) rfl (by decide) 3 (by decide) (by decide) (by decide) (by decide) at_178 rfl (fun T15 X15 E15 Aca_15 => ?_)
        obtain ⟨ca, gca⟩ : ∃ z, z = T0.heap.size := ⟨_, rfl⟩
        rw [← gca] at Aca_15 ⊢
        have S1_15 : Sta Z T15.heap "com/example/quire/quire/document/FieldType" "NUMERIC" "Lcom/example/quire/quire/document/FieldType;" (.ref k2) := S1_0.ext E15
        have S2_15 : Sta Z T15.heap "com/example/quire/quire/values/NumericEncoding" "DELTA" "Lcom/example/quire/quire/values/NumericEncoding;" (.ref k3) := S2_0.ext E15
        have o_ca : n0 ≤ ca := by rw [gca]; exact Z_0
        have Z_15 : n0 ≤ T15.heap.size := Nat.le_trans Z_0 E15.1
        have W15 : OwnGo.Wk p.tables T15 m c below code := ⟨X15.here, hx, hby⟩
        have Aca_15 : OwnGo.Ia Z T15.heap ca .int [0, 0] := Aca_15
        refine OwnGo.dup W15 (pn := 181) at_180 rfl rfl ?_
        refine OwnGo.iconst (v := (0 : Int32)) W15 (pn := 182) at_181 rfl rfl ?_
        refine OwnGo.iload W15 (pn := 184) at_182 rfl rfl ?_
        refine OwnGo.iastore X15 hx hby hZ (pn := 185) Aca_15 (by decide) (by show 0 < 2; decide) o_ca N0 at_184 rfl (fun T16 L16 X16 N16 Aca_16 Wr16 => ?_)
        have Aca_16 : OwnGo.Ia Z T16.heap ca .int [k0, 0] := Aca_16
        have S1_16 : Sta Z T16.heap "com/example/quire/quire/document/FieldType" "NUMERIC" "Lcom/example/quire/quire/document/FieldType;" (.ref k2) := S1_15.wr Wr16
        have S2_16 : Sta Z T16.heap "com/example/quire/quire/values/NumericEncoding" "DELTA" "Lcom/example/quire/quire/values/NumericEncoding;" (.ref k3) := S2_15.wr Wr16
        have Z_16 : n0 ≤ T16.heap.size := by rw [Wr16.size]; exact Z_15
        have W16 : OwnGo.Wk p.tables T16 m c below code := ⟨X16.here, hx, hby⟩
        refine OwnGo.dup W16 (pn := 186) at_185 rfl rfl ?_
        refine OwnGo.iconst (v := (1 : Int32)) W16 (pn := 187) at_186 rfl rfl ?_
        refine OwnGo.iload W16 (pn := 189) at_187 rfl rfl ?_
        refine OwnGo.iastore X16 hx hby hZ (pn := 190) Aca_16 (by decide) (by show 1 < 2; decide) o_ca N16 at_189 rfl (fun T17 L17 X17 N17 Aca_17 Wr17 => ?_)
        have Aca_17 : OwnGo.Ia Z T17.heap ca .int [k0, k1] := Aca_17
        have S1_17 : Sta Z T17.heap "com/example/quire/quire/document/FieldType" "NUMERIC" "Lcom/example/quire/quire/document/FieldType;" (.ref k2) := S1_16.wr Wr17
        have S2_17 : Sta Z T17.heap "com/example/quire/quire/values/NumericEncoding" "DELTA" "Lcom/example/quire/quire/values/NumericEncoding;" (.ref k3) := S2_16.wr Wr17
        have Z_17 : n0 ≤ T17.heap.size := by rw [Wr17.size]; exact Z_16
        have W17 : OwnGo.Wk p.tables T17 m c below code := ⟨X17.here, hx, hby⟩
        refine OwnGo.astore W17 (pn := 192) (l' := #[.val (.int p0), .val (.int p1), .val (.int p2), .val (.int p3), .val (.int p4), .val (.int p5), .val (.int n), .val (.int la), .val (.int dc), .val (.int k0), .val (.int k1), .val (.int kk), .val (.int wd), .val (.ref ca), .unset, .unset, .unset, .unset]) at_190 rfl rfl rfl ?_
        refine OwnGo.iconst (v := (2 : Int32)) W17 (pn := 193) at_192 rfl rfl ?_
        refine OwnGo.newarr X17 hx hby hZ (pn := 195) (hw _ (List.mem_of_getElem? (i := 1) rfl)) rfl (by decide) 3 (by decide) (by decide) (by decide) (by decide) at_193 rfl (fun T18 X18 E18 Awa_18 => ?_)
        obtain ⟨wa, gwa⟩ : ∃ z, z = T17.heap.size := ⟨_, rfl⟩
        rw [← gwa] at Awa_18 ⊢
        have ne_ca_wa : ca ≠ wa := Nat.ne_of_lt (by rw [gwa]; exact Aca_17.lt)
        have ne_wa_ca := ne_ca_wa.symm
        have Aca_18 := Aca_17.ext E18
        have S1_18 : Sta Z T18.heap "com/example/quire/quire/document/FieldType" "NUMERIC" "Lcom/example/quire/quire/document/FieldType;" (.ref k2) := S1_17.ext E18
        have S2_18 : Sta Z T18.heap "com/example/quire/quire/values/NumericEncoding" "DELTA" "Lcom/example/quire/quire/values/NumericEncoding;" (.ref k3) := S2_17.ext E18
        have o_wa : n0 ≤ wa := by rw [gwa]; exact Z_17
        have Z_18 : n0 ≤ T18.heap.size := Nat.le_trans Z_17 E18.1
        have W18 : OwnGo.Wk p.tables T18 m c below code := ⟨X18.here, hx, hby⟩
        have Awa_18 : OwnGo.Ia Z T18.heap wa .int [0, 0] := Awa_18
        refine OwnGo.dup W18 (pn := 196) at_195 rfl rfl ?_
        refine OwnGo.iconst (v := (0 : Int32)) W18 (pn := 197) at_196 rfl rfl ?_
        refine OwnGo.iload W18 (pn := 199) at_197 rfl rfl ?_
        refine OwnGo.iastore X18 hx hby hZ (pn := 200) Awa_18 (by decide) (by show 0 < 2; decide) o_wa N17 at_199 rfl (fun T19 L19 X19 N19 Awa_19 Wr19 => ?_)
        have Awa_19 : OwnGo.Ia Z T19.heap wa .int [wd, 0] := Awa_19
        have Aca_19 := Aca_18.other Wr19 ne_ca_wa
        have S1_19 : Sta Z T19.heap "com/example/quire/quire/document/FieldType" "NUMERIC" "Lcom/example/quire/quire/document/FieldType;" (.ref k2) := S1_18.wr Wr19
        have S2_19 : Sta Z T19.heap "com/example/quire/quire/values/NumericEncoding" "DELTA" "Lcom/example/quire/quire/values/NumericEncoding;" (.ref k3) := S2_18.wr Wr19
        have Z_19 : n0 ≤ T19.heap.size := by rw [Wr19.size]; exact Z_18
        have W19 : OwnGo.Wk p.tables T19 m c below code := ⟨X19.here, hx, hby⟩
        refine OwnGo.dup W19 (pn := 201) at_200 rfl rfl ?_
        refine OwnGo.iconst (v := (1 : Int32)) W19 (pn := 202) at_201 rfl rfl ?_
        refine OwnGo.iload W19 (pn := 204) at_202 rfl rfl ?_
        refine OwnGo.iastore X19 hx hby hZ (pn := 205) Awa_19 (by decide) (by show 1 < 2; decide) o_wa N19 at_204 rfl (fun T20 L20 X20 N20 Awa_20 Wr20 => ?_)
        have Awa_20 : OwnGo.Ia Z T20.heap wa .int [wd, wd] := Awa_20
        have Aca_20 := Aca_19.other Wr20 ne_ca_wa
        have S1_20 : Sta Z T20.heap "com/example/quire/quire/document/FieldType" "NUMERIC" "Lcom/example/quire/quire/document/FieldType;" (.ref k2) := S1_19.wr Wr20
        have S2_20 : Sta Z T20.heap "com/example/quire/quire/values/NumericEncoding" "DELTA" "Lcom/example/quire/quire/values/NumericEncoding;" (.ref k3) := S2_19.wr Wr20
        have Z_20 : n0 ≤ T20.heap.size := by rw [Wr20.size]; exact Z_19
        have W20 : OwnGo.Wk p.tables T20 m c below code := ⟨X20.here, hx, hby⟩
        refine OwnGo.astore W20 (pn := 207) (l' := #[.val (.int p0), .val (.int p1), .val (.int p2), .val (.int p3), .val (.int p4), .val (.int p5), .val (.int n), .val (.int la), .val (.int dc), .val (.int k0), .val (.int k1), .val (.int kk), .val (.int wd), .val (.ref ca), .val (.ref wa), .unset, .unset, .unset]) at_205 rfl rfl rfl ?_
        refine OwnGo.iconst (v := (2 : Int32)) W20 (pn := 208) at_207 rfl rfl ?_
        refine OwnGo.newarrX X20 hx hby hZ (pn := 210) (hw _ (List.mem_of_getElem? (i := 2) rfl)) (by decide) 3 (by decide) (by decide) (by decide) (by decide) at_208 rfl (fun T21 X21 E21 => ?_)
        obtain ⟨ma, gma⟩ : ∃ z, z = T20.heap.size := ⟨_, rfl⟩
        rw [← gma]
        have Aca_21 := Aca_20.ext E21
        have Awa_21 := Awa_20.ext E21
        have S1_21 : Sta Z T21.heap "com/example/quire/quire/document/FieldType" "NUMERIC" "Lcom/example/quire/quire/document/FieldType;" (.ref k2) := S1_20.ext E21
        have S2_21 : Sta Z T21.heap "com/example/quire/quire/values/NumericEncoding" "DELTA" "Lcom/example/quire/quire/values/NumericEncoding;" (.ref k3) := S2_20.ext E21
        have Z_21 : n0 ≤ T21.heap.size := Nat.le_trans Z_20 E21.1
        have W21 : OwnGo.Wk p.tables T21 m c below code := ⟨X21.here, hx, hby⟩
        refine OwnGo.astore W21 (pn := 212) (l' := #[.val (.int p0), .val (.int p1), .val (.int p2), .val (.int p3), .val (.int p4), .val (.int p5), .val (.int n), .val (.int la), .val (.int dc), .val (.int k0), .val (.int k1), .val (.int kk), .val (.int wd), .val (.ref ca), .val (.ref wa), .val (.ref ma), .unset, .unset]) at_210 rfl rfl rfl ?_
        refine OwnGo.iload W21 (pn := 214) at_212 rfl rfl ?_
        refine OwnGo.iload W21 (pn := 216) at_214 rfl rfl ?_
        refine OwnGo.iadd W21 (pn := 217) at_216 rfl ?_
        refine OwnGo.istore W21 (pn := 219) (l' := #[.val (.int p0), .val (.int p1), .val (.int p2), .val (.int p3), .val (.int p4), .val (.int p5), .val (.int n), .val (.int la), .val (.int dc), .val (.int k0), .val (.int k1), .val (.int kk), .val (.int wd), .val (.ref ca), .val (.ref wa), .val (.ref ma), .val (.int (k0 + k1)), .unset]) at_217 rfl rfl ?_
        refine OwnGo.goto W21 (pt := 277) at_219 (by decide) (by decide) ?_
        have hlen : [k0, k1].length = 2 := rfl
        refine B277 T21 _ X21 N20 Z_21 S1_21 S2_21 ca wa ma _ [k0, k1] [wd, wd] Aca_21 Awa_21 (Nat.le_of_ble_eq_true rfl) rfl (fun k hk => ?_) (fun k hk => ?_) (fun k hk => ?_) ?_
        · rw [hlen] at hk; omega
        · rw [hlen] at hk
          rcases (by omega : k = 0 ∨ k = 1) with rfl | rfl
          · show 0 ≤ k0.toInt ∧ k0.toInt ≤ 4096; omega
          · show 0 ≤ k1.toInt ∧ k1.toInt ≤ 4096; omega
        · rw [hlen] at hk
          rcases (by omega : k = 0 ∨ k = 1) with rfl | rfl
          · show 0 ≤ wd.toInt ∧ wd.toInt ≤ 63; omega
          · show 0 ≤ wd.toInt ∧ wd.toInt ≤ 63; omega
        · show (0 + k0 + k1) = _
          rw [Int32.zero_add]
      · skip
        have n2' : n.toInt ≠ 2 := fun q => h174 (Int32.toInt_inj.mp q)
        have n3 : n.toInt = 3 := by omega
        refine OwnGo.iconst (v := (3 : Int32)) W0 (pn := 223) at_222 rfl rfl ?_
        refine OwnGo.newarr X0 hx hby hZ (pn := 225) (hw _ (List.mem_of_getElem? (i := 1) rfl)) rfl (by decide) 3 (by decide) (by decide) (by decide) (by decide) at_223 rfl (fun T22 X22 E22 Aca_22 => ?_)
        obtain ⟨ca, gca⟩ : ∃ z, z = T0.heap.size := ⟨_, rfl⟩
        rw [← gca] at Aca_22 ⊢
        have S1_22 : Sta Z T22.heap "com/example/quire/quire/document/FieldType" "NUMERIC" "Lcom/example/quire/quire/document/FieldType;" (.ref k2) := S1_0.ext E22
        have S2_22 : Sta Z T22.heap "com/example/quire/quire/values/NumericEncoding" "DELTA" "Lcom/example/quire/quire/values/NumericEncoding;" (.ref k3) := S2_0.ext E22
        have o_ca : n0 ≤ ca := by rw [gca]; exact Z_0
        have Z_22 : n0 ≤ T22.heap.size := Nat.le_trans Z_0 E22.1
        have W22 : OwnGo.Wk p.tables T22 m c below code := ⟨X22.here, hx, hby⟩
        have Aca_22 : OwnGo.Ia Z T22.heap ca .int [0, 0, 0] := Aca_22
        refine OwnGo.dup W22 (pn := 226) at_225 rfl rfl ?_
        refine OwnGo.iconst (v := (0 : Int32)) W22 (pn := 227) at_226 rfl rfl ?_
        refine OwnGo.iload W22 (pn := 229) at_227 rfl rfl ?_
        refine OwnGo.iastore X22 hx hby hZ (pn := 230) Aca_22 (by decide) (by show 0 < 3; decide) o_ca N0 at_229 rfl (fun T23 L23 X23 N23 Aca_23 Wr23 => ?_)
        have Aca_23 : OwnGo.Ia Z T23.heap ca .int [k0, 0, 0] := Aca_23
        have S1_23 : Sta Z T23.heap "com/example/quire/quire/document/FieldType" "NUMERIC" "Lcom/example/quire/quire/document/FieldType;" (.ref k2) := S1_22.wr Wr23
        have S2_23 : Sta Z T23.heap "com/example/quire/quire/values/NumericEncoding" "DELTA" "Lcom/example/quire/quire/values/NumericEncoding;" (.ref k3) := S2_22.wr Wr23
        have Z_23 : n0 ≤ T23.heap.size := by rw [Wr23.size]; exact Z_22
        have W23 : OwnGo.Wk p.tables T23 m c below code := ⟨X23.here, hx, hby⟩
        refine OwnGo.dup W23 (pn := 231) at_230 rfl rfl ?_
        refine OwnGo.iconst (v := (1 : Int32)) W23 (pn := 232) at_231 rfl rfl ?_
        refine OwnGo.iload W23 (pn := 234) at_232 rfl rfl ?_
        refine OwnGo.iastore X23 hx hby hZ (pn := 235) Aca_23 (by decide) (by show 1 < 3; decide) o_ca N23 at_234 rfl (fun T24 L24 X24 N24 Aca_24 Wr24 => ?_)
        have Aca_24 : OwnGo.Ia Z T24.heap ca .int [k0, k1, 0] := Aca_24
        have S1_24 : Sta Z T24.heap "com/example/quire/quire/document/FieldType" "NUMERIC" "Lcom/example/quire/quire/document/FieldType;" (.ref k2) := S1_23.wr Wr24
        have S2_24 : Sta Z T24.heap "com/example/quire/quire/values/NumericEncoding" "DELTA" "Lcom/example/quire/quire/values/NumericEncoding;" (.ref k3) := S2_23.wr Wr24
        have Z_24 : n0 ≤ T24.heap.size := by rw [Wr24.size]; exact Z_23
        have W24 : OwnGo.Wk p.tables T24 m c below code := ⟨X24.here, hx, hby⟩
        refine OwnGo.dup W24 (pn := 236) at_235 rfl rfl ?_
        refine OwnGo.iconst (v := (2 : Int32)) W24 (pn := 237) at_236 rfl rfl ?_
        refine OwnGo.iload W24 (pn := 239) at_237 rfl rfl ?_
        refine OwnGo.iastore X24 hx hby hZ (pn := 240) Aca_24 (by decide) (by show 2 < 3; decide) o_ca N24 at_239 rfl (fun T25 L25 X25 N25 Aca_25 Wr25 => ?_)
        have Aca_25 : OwnGo.Ia Z T25.heap ca .int [k0, k1, kk] := Aca_25
        have S1_25 : Sta Z T25.heap "com/example/quire/quire/document/FieldType" "NUMERIC" "Lcom/example/quire/quire/document/FieldType;" (.ref k2) := S1_24.wr Wr25
        have S2_25 : Sta Z T25.heap "com/example/quire/quire/values/NumericEncoding" "DELTA" "Lcom/example/quire/quire/values/NumericEncoding;" (.ref k3) := S2_24.wr Wr25
        have Z_25 : n0 ≤ T25.heap.size := by rw [Wr25.size]; exact Z_24
        have W25 : OwnGo.Wk p.tables T25 m c below code := ⟨X25.here, hx, hby⟩
        refine OwnGo.astore W25 (pn := 242) (l' := #[.val (.int p0), .val (.int p1), .val (.int p2), .val (.int p3), .val (.int p4), .val (.int p5), .val (.int n), .val (.int la), .val (.int dc), .val (.int k0), .val (.int k1), .val (.int kk), .val (.int wd), .val (.ref ca), .unset, .unset, .unset, .unset]) at_240 rfl rfl rfl ?_
        refine OwnGo.iconst (v := (3 : Int32)) W25 (pn := 243) at_242 rfl rfl ?_
        refine OwnGo.newarr X25 hx hby hZ (pn := 245) (hw _ (List.mem_of_getElem? (i := 1) rfl)) rfl (by decide) 3 (by decide) (by decide) (by decide) (by decide) at_243 rfl (fun T26 X26 E26 Awa_26 => ?_)
        obtain ⟨wa, gwa⟩ : ∃ z, z = T25.heap.size := ⟨_, rfl⟩
        rw [← gwa] at Awa_26 ⊢
        have ne_ca_wa : ca ≠ wa := Nat.ne_of_lt (by rw [gwa]; exact Aca_25.lt)
        have ne_wa_ca := ne_ca_wa.symm
        have Aca_26 := Aca_25.ext E26
        have S1_26 : Sta Z T26.heap "com/example/quire/quire/document/FieldType" "NUMERIC" "Lcom/example/quire/quire/document/FieldType;" (.ref k2) := S1_25.ext E26
        have S2_26 : Sta Z T26.heap "com/example/quire/quire/values/NumericEncoding" "DELTA" "Lcom/example/quire/quire/values/NumericEncoding;" (.ref k3) := S2_25.ext E26
        have o_wa : n0 ≤ wa := by rw [gwa]; exact Z_25
        have Z_26 : n0 ≤ T26.heap.size := Nat.le_trans Z_25 E26.1
        have W26 : OwnGo.Wk p.tables T26 m c below code := ⟨X26.here, hx, hby⟩
        have Awa_26 : OwnGo.Ia Z T26.heap wa .int [0, 0, 0] := Awa_26
        refine OwnGo.dup W26 (pn := 246) at_245 rfl rfl ?_
        refine OwnGo.iconst (v := (0 : Int32)) W26 (pn := 247) at_246 rfl rfl ?_
        refine OwnGo.iload W26 (pn := 249) at_247 rfl rfl ?_
        refine OwnGo.iastore X26 hx hby hZ (pn := 250) Awa_26 (by decide) (by show 0 < 3; decide) o_wa N25 at_249 rfl (fun T27 L27 X27 N27 Awa_27 Wr27 => ?_)
        have Awa_27 : OwnGo.Ia Z T27.heap wa .int [wd, 0, 0] := Awa_27
        have Aca_27 := Aca_26.other Wr27 ne_ca_wa
        have S1_27 : Sta Z T27.heap "com/example/quire/quire/document/FieldType" "NUMERIC" "Lcom/example/quire/quire/document/FieldType;" (.ref k2) := S1_26.wr Wr27
        have S2_27 : Sta Z T27.heap "com/example/quire/quire/values/NumericEncoding" "DELTA" "Lcom/example/quire/quire/values/NumericEncoding;" (.ref k3) := S2_26.wr Wr27
        have Z_27 : n0 ≤ T27.heap.size := by rw [Wr27.size]; exact Z_26
        have W27 : OwnGo.Wk p.tables T27 m c below code := ⟨X27.here, hx, hby⟩
        refine OwnGo.dup W27 (pn := 251) at_250 rfl rfl ?_
        refine OwnGo.iconst (v := (1 : Int32)) W27 (pn := 252) at_251 rfl rfl ?_
        refine OwnGo.iload W27 (pn := 254) at_252 rfl rfl ?_
        refine OwnGo.iastore X27 hx hby hZ (pn := 255) Awa_27 (by decide) (by show 1 < 3; decide) o_wa N27 at_254 rfl (fun T28 L28 X28 N28 Awa_28 Wr28 => ?_)
        have Awa_28 : OwnGo.Ia Z T28.heap wa .int [wd, wd, 0] := Awa_28
        have Aca_28 := Aca_27.other Wr28 ne_ca_wa
        have S1_28 : Sta Z T28.heap "com/example/quire/quire/document/FieldType" "NUMERIC" "Lcom/example/quire/quire/document/FieldType;" (.ref k2) := S1_27.wr Wr28
        have S2_28 : Sta Z T28.heap "com/example/quire/quire/values/NumericEncoding" "DELTA" "Lcom/example/quire/quire/values/NumericEncoding;" (.ref k3) := S2_27.wr Wr28
        have Z_28 : n0 ≤ T28.heap.size := by rw [Wr28.size]; exact Z_27
        have W28 : OwnGo.Wk p.tables T28 m c below code := ⟨X28.here, hx, hby⟩
        refine OwnGo.dup W28 (pn := 256) at_255 rfl rfl ?_
        refine OwnGo.iconst (v := (2 : Int32)) W28 (pn := 257) at_256 rfl rfl ?_
        refine OwnGo.iload W28 (pn := 259) at_257 rfl rfl ?_
        refine OwnGo.iastore X28 hx hby hZ (pn := 260) Awa_28 (by decide) (by show 2 < 3; decide) o_wa N28 at_259 rfl (fun T29 L29 X29 N29 Awa_29 Wr29 => ?_)
        have Awa_29 : OwnGo.Ia Z T29.heap wa .int [wd, wd, wd] := Awa_29
        have Aca_29 := Aca_28.other Wr29 ne_ca_wa
        have S1_29 : Sta Z T29.heap "com/example/quire/quire/document/FieldType" "NUMERIC" "Lcom/example/quire/quire/document/FieldType;" (.ref k2) := S1_28.wr Wr29
        have S2_29 : Sta Z T29.heap "com/example/quire/quire/values/NumericEncoding" "DELTA" "Lcom/example/quire/quire/values/NumericEncoding;" (.ref k3) := S2_28.wr Wr29
        have Z_29 : n0 ≤ T29.heap.size := by rw [Wr29.size]; exact Z_28
        have W29 : OwnGo.Wk p.tables T29 m c below code := ⟨X29.here, hx, hby⟩
        refine OwnGo.astore W29 (pn := 262) (l' := #[.val (.int p0), .val (.int p1), .val (.int p2), .val (.int p3), .val (.int p4), .val (.int p5), .val (.int n), .val (.int la), .val (.int dc), .val (.int k0), .val (.int k1), .val (.int kk), .val (.int wd), .val (.ref ca), .val (.ref wa), .unset, .unset, .unset]) at_260 rfl rfl rfl ?_
        refine OwnGo.iconst (v := (3 : Int32)) W29 (pn := 263) at_262 rfl rfl ?_
        refine OwnGo.newarrX X29 hx hby hZ (pn := 265) (hw _ (List.mem_of_getElem? (i := 2) rfl)) (by decide) 3 (by decide) (by decide) (by decide) (by decide) at_263 rfl (fun T30 X30 E30 => ?_)
        obtain ⟨ma, gma⟩ : ∃ z, z = T29.heap.size := ⟨_, rfl⟩
        rw [← gma]
        have Aca_30 := Aca_29.ext E30
        have Awa_30 := Awa_29.ext E30
        have S1_30 : Sta Z T30.heap "com/example/quire/quire/document/FieldType" "NUMERIC" "Lcom/example/quire/quire/document/FieldType;" (.ref k2) := S1_29.ext E30
        have S2_30 : Sta Z T30.heap "com/example/quire/quire/values/NumericEncoding" "DELTA" "Lcom/example/quire/quire/values/NumericEncoding;" (.ref k3) := S2_29.ext E30
        have Z_30 : n0 ≤ T30.heap.size := Nat.le_trans Z_29 E30.1
        have W30 : OwnGo.Wk p.tables T30 m c below code := ⟨X30.here, hx, hby⟩
        refine OwnGo.astore W30 (pn := 267) (l' := #[.val (.int p0), .val (.int p1), .val (.int p2), .val (.int p3), .val (.int p4), .val (.int p5), .val (.int n), .val (.int la), .val (.int dc), .val (.int k0), .val (.int k1), .val (.int kk), .val (.int wd), .val (.ref ca), .val (.ref wa), .val (.ref ma), .unset, .unset]) at_265 rfl rfl rfl ?_
        refine OwnGo.iload W30 (pn := 269) at_267 rfl rfl ?_
        refine OwnGo.iload W30 (pn := 271) at_269 rfl rfl ?_
        refine OwnGo.iadd W30 (pn := 272) at_271 rfl ?_
        refine OwnGo.iload W30 (pn := 274) at_272 rfl rfl ?_
        refine OwnGo.iadd W30 (pn := 275) at_274 rfl ?_
        refine OwnGo.istore W30 (pn := 277) (l' := #[.val (.int p0), .val (.int p1), .val (.int p2), .val (.int p3), .val (.int p4), .val (.int p5), .val (.int n), .val (.int la), .val (.int dc), .val (.int k0), .val (.int k1), .val (.int kk), .val (.int wd), .val (.ref ca), .val (.ref wa), .val (.ref ma), .val (.int ((k0 + k1) + kk)), .unset]) at_275 rfl rfl ?_
        have hlen : [k0, k1, kk].length = 3 := rfl
        refine B277 T30 _ X30 N29 Z_30 S1_30 S2_30 ca wa ma _ [k0, k1, kk] [wd, wd, wd] Aca_30 Awa_30 (Nat.le_of_ble_eq_true rfl) rfl (fun k hk => ?_) (fun k hk => ?_) (fun k hk => ?_) ?_
        · rw [hlen] at hk; omega
        · rw [hlen] at hk
          rcases (by omega : k = 0 ∨ k = 1 ∨ k = 2) with rfl | rfl | rfl
          · show 0 ≤ k0.toInt ∧ k0.toInt ≤ 4096; omega
          · show 0 ≤ k1.toInt ∧ k1.toInt ≤ 4096; omega
          · show 0 ≤ kk.toInt ∧ kk.toInt ≤ 4096; omega
        · rw [hlen] at hk
          rcases (by omega : k = 0 ∨ k = 1 ∨ k = 2) with rfl | rfl | rfl
          · show 0 ≤ wd.toInt ∧ wd.toInt ≤ 63; omega
          · show 0 ≤ wd.toInt ∧ wd.toInt ≤ 63; omega
          · show 0 ≤ wd.toInt ∧ wd.toInt ≤ 63; omega
        · show (0 + k0 + k1 + kk) = _
          rw [Int32.zero_add]
set_option maxRecDepth 65536 in
set_option maxHeartbeats 40000000 in
theorem comes_1 {Post : Tables → Env → Array Value → State → Outcome → State → Prop} (hpost : ∀ tb e args s v u, (limb_1_1.after args s (.returned v) u = true ∧ limb_1_2.after args s (.returned v) u = true ∧ True) → FrameEnd s (.returned v) u (Jvm.fieldLocs frame_1_writes args s ++ Jvm.arrayLocs frame_1_arrays args s ++ Jvm.staticLocs frame_1_statics s) 24 256 → Post tb e args s (.returned v) u) :
    ArmFor flags0 classFile x code maxLocals ret World_1 tables_1 room_1 Calls_1 rest_1 Pre_1 Post := by
  intro l hfl _ _ p e ha hc hk s m args below hf hA hF happ hP
  obtain ⟨hcalls, hrest, hpre⟩ := hP
  obtain ⟨-, -, -, hnamed, -, -, -, hat⟩ := (Spec.applies_iff hf).mp happ
  obtain ⟨hg, hn⟩ := and_e (Cond.before_iff.mp (show (Jvm.Cond.and given_1 narrow_1).before args s = true from hpre))
  obtain ⟨g0, k0⟩ := and_e hg
  obtain ⟨g1, k1⟩ := and_e k0
  obtain ⟨g2, k2⟩ := and_e k1
  obtain ⟨g3, k3⟩ := and_e k2
  obtain ⟨g4, k4⟩ := and_e k3
  obtain ⟨g5, k5⟩ := and_e k4
  obtain ⟨w0, w1, w2, w3, w4, w5, rfl⟩ : ∃ w0 w1 w2 w3 w4 w5 : Value, args = #[w0, w1, w2, w3, w4, w5] := by
    have hs : args.size = 6 := by simpa [Cond.value, given_1] using g0
    obtain ⟨L⟩ := args
    match L, hs with
    | [w0, w1, w2, w3, w4, w5], _ => exact ⟨w0, w1, w2, w3, w4, w5, rfl⟩
  have hw := fun d (hd : d ∈ tables_1) => atoms_spec (ws := Jvm.Cond.code x code maxLocals ret :: tables_1) hat d (List.mem_cons_of_mem _ hd)
  have hfit : Fit s := fun {y c} hc i hi => by
    obtain ⟨ha, rfl⟩ := Array.getElem?_eq_some_iff.mp hc
    have q := List.all_eq_true.mp ((Array.all_eq_true_iff_forall_mem.mp hF) _ (Array.getElem_mem ha)) i (List.mem_range.mpr hi)
    simpa [Array.getElem?_eq_getElem hi] using q
  obtain ⟨i0, ei0⟩ := is_v g1
  obtain rfl : w0 = (.int i0) := Option.some.inj ei0
  obtain ⟨i1, ei1⟩ := is_v g2
  obtain rfl : w1 = (.int i1) := Option.some.inj ei1
  obtain ⟨i2, ei2⟩ := is_v g3
  obtain rfl : w2 = (.int i2) := Option.some.inj ei2
  obtain ⟨i3, ei3⟩ := is_v g4
  obtain rfl : w3 = (.int i3) := Option.some.inj ei3
  obtain ⟨i4, ei4⟩ := is_v g5
  obtain rfl : w4 = (.int i4) := Option.some.inj ei4
  obtain ⟨i5, ei5⟩ := is_v k5
  obtain rfl : w5 = (.int i5) := Option.some.inj ei5
  obtain ⟨t1, t2⟩ := and_e hn
  obtain ⟨k2, ev1⟩ := exa_v t1
  obtain ⟨k3, ev2⟩ := exa_v t2
  have S1 := Sta.start ev1 (Or.inr ⟨(hw _ (List.mem_of_getElem? (i := 7) rfl)), (hw _ (List.mem_of_getElem? (i := 8) rfl))⟩)
  have S2 := Sta.start ev2 (Or.inr ⟨(hw _ (List.mem_of_getElem? (i := 10) rfl)), (hw _ (List.mem_of_getElem? (i := 11) rfl))⟩)
  obtain ⟨n, o, h1, h2, h3, _, L, rfl, ⟨rfl, N⟩, hq⟩ := rm_law l s _ hw i0 i1 i2 i3 i4 i5 s.heap s.heap.size (Nat.le_refl _) k2 k3 S1 S2 tables_1 p e ha hc hk s m _ below hf ((Spec.applies_iff_loose hf).mp happ).1 ⟨rfl, State.Warmed39.refl s, rfl⟩ trivial
  refine ⟨n, _, h1, h2, h3, hpost _ _ _ _ _ _ ⟨Cond.after_iff.mpr rfl, Cond.after_iff.mpr (eq_i res_at (Term.int_eval (1)) (rfl)), trivial⟩ ⟨hq.1, hq.2.1, (hq.2.2.sift fun y hy => Or.inr (N y hy)).mono (by decide) (by decide)⟩⟩
theorem main_1_1 : Claimed_1_1 := comes_1 fun _ _ _ _ _ _ h hF => ⟨h.1, hF⟩
theorem main_1_2 : Claimed_1_2 := comes_1 fun _ _ _ _ _ _ h hF => ⟨h.2.1, hF⟩
end Jvm.Pilot.@@N@@
namespace Jvm.Pilot.@@N@@
open Jvm Jvm.ClassFile Sem Op Lib Jvm.Free Jvm.Stand Jvm.Pilot.@@N@@.Jvm.D
/-! MADE BY PROGRAM (witnessworld.py) out of the Statement's table words and the real class files: 19 classes; the members and pool entries that the words name. The judged class is class 1, her method 1. -/
namespace start1
open Jvm.ClassFile
def u (s : String) : CpInfo := .utf8 (stringToUtf16 s)
/-- a pool by its gaps: so many unusable entries, then the entry; so many at the end -/
def gap : Nat → List CpInfo → List CpInfo
  | 0, r => r
  | n + 1, r => .unusable :: gap n r
def poolList (es : List (Nat × CpInfo)) (last : Nat) : List CpInfo := es.foldr (fun e r => gap e.1 (e.2 :: r)) (gap last [])
def pool (es : List (Nat × CpInfo)) (last : Nat) : Array CpInfo := ⟨poolList es last⟩
def fileOf (pool : Array CpInfo) (this : Nat) (attrs : Array Attribute := #[]) (ms : Array MethodInfo := #[]) (fl : Nat := 33) (sup : Nat := 0) (ifs : Array Nat := #[]) (fds : Array FieldInfo := #[]) : ClassFile where
  minorVersion := 0
  majorVersion := 65
  constantPool := pool
  accessFlags := fl
  thisClass := this
  superClass := sup
  interfaces := ifs
  fields := fds
  methods := ms
  attributes := attrs
def plain (name : String) (sup : Option ClassId) : Class where
  name := name
  kind := .ordinary
  loader := none
  accessFlags := 33
  super := sup
  interfaces := #[]
  cf := none
  fields := #[]
  methods := #[]
  instanceTypes := #[]
  staticTypes := #[]
  resolved := #[]
  callSites := []
  init := .initialized
  statics := none
  mirror := none

def pool0 : Array CpInfo := pool [(5, u "<init>"), (0, u "()V"), (1, .class_ 10), (1, u "java/lang/Object")] 113

def k0c0 : Code := { maxStack := 0, maxLocals := 1, code := object_method_1_code, exceptionTable := #[], attributes := #[] }
def k0m0 : Method := { name := "<init>", desc := "()V", sig := { parameters := [], returnType := none }, accessFlags := 1, code := some k0c0 }
/-- java/lang/Object -/
def k0 : Class := { plain "java/lang/Object" none with
  accessFlags := 33
  interfaces := #[]
  cf := some (fileOf pool0 8 #[] #[{ accessFlags := 1, nameIndex := 5, descriptorIndex := 6, attributes := #[] }] 33 0 #[] #[])
  fields := #[]
  methods := #[k0m0]
  instanceTypes := #[]
  staticTypes := #[]
  resolved := Array.replicate 124 none
  statics := none }

def pool1 : Array CpInfo := pool [(2, .class_ 4), (1, u "java/lang/Object"), (0, u "<init>"), (0, u "()V"), (0, .integer 2147483647), (0, .class_ 9), (0, u "com/example/quire/quire/values/internal/FieldLayout"), (0, .fieldref 11 12), (0, .class_ 13), (0, .nameAndType 14 15), (0, u "com/example/quire/quire/document/FieldType"), (0, u "NUMERIC"), (0, u "Lcom/example/quire/quire/document/FieldType;"), (0, .fieldref 17 18), (0, .class_ 19), (0, .nameAndType 20 21), (0, u "com/example/quire/quire/values/NumericEncoding"), (0, u "DELTA"), (0, u "Lcom/example/quire/quire/values/NumericEncoding;"), (0, .methodref 8 23), (0, .nameAndType 5 24), (0, u "(ILcom/example/quire/quire/document/FieldType;Lcom/example/quire/quire/values/NumericEncoding;J[JI[I[I[J)V"), (0, .methodref 8 26), (0, .nameAndType 27 28), (0, u "valueCount"), (0, u "()I"), (0, .class_ 30), (0, u "com/example/quire/quire/values/internal/FieldLayoutValueCountPinLaw"), (2, u "law"), (0, u "(IIIIII)Z")] 7

def k1m0 : Method := { name := "<init>", desc := "()V", sig := { parameters := [], returnType := none }, accessFlags := 1, code := none }
def k1c1 : Code := { maxStack := 12, maxLocals := 18, code := code, exceptionTable := #[], attributes := #[] }
def k1m1 : Method := { name := "law", desc := "(IIIIII)Z", sig := { parameters := [.int, .int, .int, .int, .int, .int], returnType := some .boolean }, accessFlags := 9, code := some k1c1 }
/-- com/example/quire/quire/values/internal/FieldLayoutValueCountPinLaw -/
def k1 : Class := { plain "com/example/quire/quire/values/internal/FieldLayoutValueCountPinLaw" (some 0) with
  accessFlags := 49
  interfaces := #[]
  cf := some (fileOf pool1 29 #[] #[{ accessFlags := 1, nameIndex := 5, descriptorIndex := 6, attributes := #[] }, { accessFlags := 9, nameIndex := 33, descriptorIndex := 34, attributes := #[] }] 49 2 #[] #[])
  fields := #[]
  methods := #[k1m0, k1m1]
  instanceTypes := #[]
  staticTypes := #[]
  resolved := Array.replicate 42 none
  statics := none }

def pool2 : Array CpInfo := pool [(1, .class_ 2), (0, u "com/example/quire/quire/values/internal/ValuesEntry"), (0, .class_ 4), (0, u "java/lang/Object")] 12

/-- com/example/quire/quire/values/internal/ValuesEntry -/
def k2 : Class := { plain "com/example/quire/quire/values/internal/ValuesEntry" (some 0) with
  accessFlags := 1536
  interfaces := #[]
  cf := some (fileOf pool2 1 #[] #[] 1536 3 #[] #[])
  fields := #[]
  methods := #[]
  instanceTypes := #[]
  staticTypes := #[]
  resolved := Array.replicate 17 none
  statics := none }

def pool3 : Array CpInfo := pool [(1, .methodref 2 3), (0, .class_ 4), (0, .nameAndType 5 6), (0, u "java/lang/Object"), (0, u "<init>"), (0, u "()V"), (0, .fieldref 8 9), (0, .class_ 10), (0, .nameAndType 11 12), (0, u "com/example/quire/quire/values/internal/FieldLayout"), (0, u "number"), (0, u "I"), (0, .fieldref 8 14), (0, .nameAndType 15 16), (0, u "kind"), (0, u "Lcom/example/quire/quire/document/FieldType;"), (0, .fieldref 8 18), (0, .nameAndType 19 20), (0, u "encoding"), (0, u "Lcom/example/quire/quire/values/NumericEncoding;"), (0, .fieldref 8 22), (0, .nameAndType 23 24), (0, u "divisor"), (0, u "J"), (0, .fieldref 8 26), (0, .nameAndType 27 28), (0, u "table"), (0, u "[J"), (0, .fieldref 8 30), (0, .nameAndType 31 12), (0, u "docCount"), (0, .fieldref 8 33), (0, .nameAndType 34 35), (0, u "counts"), (0, u "[I"), (0, .fieldref 8 37), (0, .nameAndType 38 35), (0, u "widths"), (0, .fieldref 8 40), (0, .nameAndType 41 28), (0, u "minimums"), (0, .fieldref 8 43), (0, .nameAndType 44 35), (0, u "firstParts"), (0, .methodref 8 46), (0, .nameAndType 47 48), (0, u "length"), (0, u "(I)I"), (0, .methodref 50 51), (0, .class_ 52), (0, .nameAndType 53 48), (0, u "com/example/quire/quire/values/internal/ValuesFormat"), (0, u "partCount"), (0, .fieldref 8 55), (0, .nameAndType 56 35), (0, u "checksums"), (1, .class_ 60), (1, u "com/example/quire/quire/values/internal/FieldLayout$1"), (6, u "()I"), (11, .methodref 50 80), (0, .nameAndType 81 82), (0, u "blockDocs"), (0, u "(II)I"), (0, .methodref 8 84), (0, .nameAndType 85 48), (0, u "docs"), (0, .methodref 50 87), (0, .nameAndType 88 89), (0, u "blockLength"), (0, u "(III)I"), (149, .class_ 241), (1, u "com/example/quire/quire/values/internal/FieldLayout$Records"), (26, .class_ 269), (0, u "com/example/quire/quire/values/internal/ValuesEntry"), (0, u "WIDTH_PER_BLOCK"), (2, u "BYTE_WIDTH"), (1, u "LEAST_DIVISOR"), (2, u "CODE_BITS"), (1, u "ORDINALS"), (1, u "(ILcom/example/quire/quire/document/FieldType;Lcom/example/quire/quire/values/NumericEncoding;J[JI[I[I[J)V"), (11, u "valueCount"), (24, .class_ 320), (0, u "com/example/quire/quire/values/internal/FieldLayout$Records$Block")] 31

def k3c0 : Code := { maxStack := 5, maxLocals := 12, code := prog_161_method_1_code, exceptionTable := #[], attributes := #[] }
def k3m0 : Method := { name := "<init>", desc := "(ILcom/example/quire/quire/document/FieldType;Lcom/example/quire/quire/values/NumericEncoding;J[JI[I[I[J)V", sig := { parameters := [.int, (.object "com/example/quire/quire/document/FieldType"), (.object "com/example/quire/quire/values/NumericEncoding"), .long, (.array .long), .int, (.array .int), (.array .int), (.array .long)], returnType := none }, accessFlags := 0, code := some k3c0 }
def k3c1 : Code := { maxStack := 2, maxLocals := 2, code := prog_161_method_6_code, exceptionTable := #[], attributes := #[] }
def k3m1 : Method := { name := "docs", desc := "(I)I", sig := { parameters := [.int], returnType := some .int }, accessFlags := 0, code := some k3c1 }
def k3c2 : Code := { maxStack := 4, maxLocals := 2, code := prog_161_method_9_code, exceptionTable := #[], attributes := #[] }
def k3m2 : Method := { name := "length", desc := "(I)I", sig := { parameters := [.int], returnType := some .int }, accessFlags := 0, code := some k3c2 }
def k3c3 : Code := { maxStack := 2, maxLocals := 6, code := prog_161_method_18_code, exceptionTable := #[], attributes := #[] }
def k3m3 : Method := { name := "valueCount", desc := "()I", sig := { parameters := [], returnType := some .int }, accessFlags := 1, code := some k3c3 }
/-- com/example/quire/quire/values/internal/FieldLayout -/
def k3 : Class := { plain "com/example/quire/quire/values/internal/FieldLayout" (some 0) with
  accessFlags := 48
  interfaces := #[2]
  cf := some (fileOf pool3 8 #[.nestMembers #[58, 239, 319]] #[{ accessFlags := 0, nameIndex := 5, descriptorIndex := 282, attributes := #[] }, { accessFlags := 0, nameIndex := 85, descriptorIndex := 48, attributes := #[] }, { accessFlags := 0, nameIndex := 47, descriptorIndex := 48, attributes := #[] }, { accessFlags := 1, nameIndex := 294, descriptorIndex := 67, attributes := #[] }] 48 2 #[268] #[{ accessFlags := 26, nameIndex := 270, descriptorIndex := 12, attributes := #[] }, { accessFlags := 26, nameIndex := 273, descriptorIndex := 12, attributes := #[] }, { accessFlags := 26, nameIndex := 275, descriptorIndex := 24, attributes := #[] }, { accessFlags := 26, nameIndex := 278, descriptorIndex := 12, attributes := #[] }, { accessFlags := 26, nameIndex := 280, descriptorIndex := 12, attributes := #[] }, { accessFlags := 18, nameIndex := 11, descriptorIndex := 12, attributes := #[] }, { accessFlags := 18, nameIndex := 15, descriptorIndex := 16, attributes := #[] }, { accessFlags := 18, nameIndex := 19, descriptorIndex := 20, attributes := #[] }, { accessFlags := 18, nameIndex := 23, descriptorIndex := 24, attributes := #[] }, { accessFlags := 18, nameIndex := 27, descriptorIndex := 28, attributes := #[] }, { accessFlags := 18, nameIndex := 31, descriptorIndex := 12, attributes := #[] }, { accessFlags := 18, nameIndex := 34, descriptorIndex := 35, attributes := #[] }, { accessFlags := 18, nameIndex := 38, descriptorIndex := 35, attributes := #[] }, { accessFlags := 18, nameIndex := 41, descriptorIndex := 28, attributes := #[] }, { accessFlags := 18, nameIndex := 44, descriptorIndex := 35, attributes := #[] }, { accessFlags := 18, nameIndex := 56, descriptorIndex := 35, attributes := #[] }])
  fields := #[{ name := "WIDTH_PER_BLOCK", type := .int, accessFlags := 26, slot := 0, constantValue := 0 }, { name := "BYTE_WIDTH", type := .int, accessFlags := 26, slot := 1, constantValue := 0 }, { name := "LEAST_DIVISOR", type := .long, accessFlags := 26, slot := 2, constantValue := 0 }, { name := "CODE_BITS", type := .int, accessFlags := 26, slot := 3, constantValue := 0 }, { name := "ORDINALS", type := .int, accessFlags := 26, slot := 4, constantValue := 0 }, { name := "number", type := .int, accessFlags := 18, slot := 0, constantValue := 0 }, { name := "kind", type := (.object "com/example/quire/quire/document/FieldType"), accessFlags := 18, slot := 1, constantValue := 0 }, { name := "encoding", type := (.object "com/example/quire/quire/values/NumericEncoding"), accessFlags := 18, slot := 2, constantValue := 0 }, { name := "divisor", type := .long, accessFlags := 18, slot := 3, constantValue := 0 }, { name := "table", type := (.array .long), accessFlags := 18, slot := 4, constantValue := 0 }, { name := "docCount", type := .int, accessFlags := 18, slot := 5, constantValue := 0 }, { name := "counts", type := (.array .int), accessFlags := 18, slot := 6, constantValue := 0 }, { name := "widths", type := (.array .int), accessFlags := 18, slot := 7, constantValue := 0 }, { name := "minimums", type := (.array .long), accessFlags := 18, slot := 8, constantValue := 0 }, { name := "firstParts", type := (.array .int), accessFlags := 18, slot := 9, constantValue := 0 }, { name := "checksums", type := (.array .int), accessFlags := 18, slot := 10, constantValue := 0 }]
  methods := #[k3m0, k3m1, k3m2, k3m3]
  instanceTypes := #[.int, (.object "com/example/quire/quire/document/FieldType"), (.object "com/example/quire/quire/values/NumericEncoding"), .long, (.array .long), .int, (.array .int), (.array .int), (.array .long), (.array .int), (.array .int)]
  staticTypes := #[.int, .int, .long, .int, .int]
  resolved := Array.replicate 352 none
  statics := none }

def pool4 : Array CpInfo := pool [(1, .class_ 2), (0, u "java/lang/constant/Constable"), (0, .class_ 4), (0, u "java/lang/Object")] 6

/-- java/lang/constant/Constable -/
def k4 : Class := { plain "java/lang/constant/Constable" (some 0) with
  accessFlags := 1537
  interfaces := #[]
  cf := some (fileOf pool4 1 #[] #[] 1537 3 #[] #[])
  fields := #[]
  methods := #[]
  instanceTypes := #[]
  staticTypes := #[]
  resolved := Array.replicate 11 none
  statics := none }

def pool5 : Array CpInfo := pool [(1, .class_ 2), (0, u "java/lang/Comparable"), (0, .class_ 4), (0, u "java/lang/Object")] 7

/-- java/lang/Comparable -/
def k5 : Class := { plain "java/lang/Comparable" (some 0) with
  accessFlags := 1537
  interfaces := #[]
  cf := some (fileOf pool5 1 #[] #[] 1537 3 #[] #[])
  fields := #[]
  methods := #[]
  instanceTypes := #[]
  staticTypes := #[]
  resolved := Array.replicate 12 none
  statics := none }

def pool6 : Array CpInfo := pool [(1, .class_ 2), (0, u "java/io/Serializable"), (0, .class_ 4), (0, u "java/lang/Object")] 2

/-- java/io/Serializable -/
def k6 : Class := { plain "java/io/Serializable" (some 0) with
  accessFlags := 1537
  interfaces := #[]
  cf := some (fileOf pool6 1 #[] #[] 1537 3 #[] #[])
  fields := #[]
  methods := #[]
  instanceTypes := #[]
  staticTypes := #[]
  resolved := Array.replicate 7 none
  statics := none }

def pool7 : Array CpInfo := pool [(2, .class_ 4), (1, u "java/lang/Enum"), (0, u "name"), (0, u "Ljava/lang/String;"), (2, u "ordinal"), (0, u "I"), (1, .class_ 14), (1, u "java/lang/Object"), (4, u "hash"), (86, .class_ 108), (1, u "java/lang/Enum$EnumDesc"), (2, .class_ 112), (0, u "java/lang/constant/Constable"), (0, .class_ 114), (0, u "java/lang/Comparable"), (0, .class_ 116), (0, u "java/io/Serializable")] 87

/-- java/lang/Enum -/
def k7 : Class := { plain "java/lang/Enum" (some 0) with
  accessFlags := 1057
  interfaces := #[4, 5, 6]
  cf := some (fileOf pool7 2 #[.nestMembers #[106]] #[] 1057 12 #[111, 113, 115] #[{ accessFlags := 18, nameIndex := 5, descriptorIndex := 6, attributes := #[] }, { accessFlags := 18, nameIndex := 9, descriptorIndex := 10, attributes := #[] }, { accessFlags := 2, nameIndex := 19, descriptorIndex := 10, attributes := #[] }])
  fields := #[{ name := "name", type := (.object "java/lang/String"), accessFlags := 18, slot := 0, constantValue := 0 }, { name := "ordinal", type := .int, accessFlags := 18, slot := 1, constantValue := 0 }, { name := "hash", type := .int, accessFlags := 2, slot := 2, constantValue := 0 }]
  methods := #[]
  instanceTypes := #[(.object "java/lang/String"), .int, .int]
  staticTypes := #[]
  resolved := Array.replicate 204 none
  statics := none }

def pool8 : Array CpInfo := pool [(1, .class_ 2), (0, u "com/example/quire/quire/document/FieldType"), (2, u "TEXT"), (0, u "Lcom/example/quire/quire/document/FieldType;"), (2, u "NUMERIC"), (2, u "SORTED"), (2, u "$VALUES"), (0, u "[Lcom/example/quire/quire/document/FieldType;"), (6, .class_ 25), (1, u "java/lang/Enum"), (8, u "label"), (0, u "Ljava/lang/String;"), (2, u "valueWord")] 36

/-- com/example/quire/quire/document/FieldType -/
def k8 : Class := { plain "com/example/quire/quire/document/FieldType" (some 7) with
  accessFlags := 16433
  interfaces := #[]
  cf := some (fileOf pool8 1 #[] #[] 16433 23 #[] #[{ accessFlags := 16409, nameIndex := 5, descriptorIndex := 6, attributes := #[] }, { accessFlags := 16409, nameIndex := 9, descriptorIndex := 6, attributes := #[] }, { accessFlags := 16409, nameIndex := 12, descriptorIndex := 6, attributes := #[] }, { accessFlags := 18, nameIndex := 34, descriptorIndex := 35, attributes := #[] }, { accessFlags := 18, nameIndex := 38, descriptorIndex := 35, attributes := #[] }, { accessFlags := 4122, nameIndex := 15, descriptorIndex := 16, attributes := #[] }])
  fields := #[{ name := "TEXT", type := (.object "com/example/quire/quire/document/FieldType"), accessFlags := 16409, slot := 0, constantValue := 0 }, { name := "NUMERIC", type := (.object "com/example/quire/quire/document/FieldType"), accessFlags := 16409, slot := 1, constantValue := 0 }, { name := "SORTED", type := (.object "com/example/quire/quire/document/FieldType"), accessFlags := 16409, slot := 2, constantValue := 0 }, { name := "label", type := (.object "java/lang/String"), accessFlags := 18, slot := 3, constantValue := 0 }, { name := "valueWord", type := (.object "java/lang/String"), accessFlags := 18, slot := 4, constantValue := 0 }, { name := "$VALUES", type := (.array (.object "com/example/quire/quire/document/FieldType")), accessFlags := 4122, slot := 3, constantValue := 0 }]
  methods := #[]
  instanceTypes := #[(.object "java/lang/String"), .int, .int, (.object "java/lang/String"), (.object "java/lang/String")]
  staticTypes := #[(.object "com/example/quire/quire/document/FieldType"), (.object "com/example/quire/quire/document/FieldType"), (.object "com/example/quire/quire/document/FieldType"), (.array (.object "com/example/quire/quire/document/FieldType"))]
  resolved := Array.replicate 75 none
  statics := some 0 }

def pool9 : Array CpInfo := pool [(1, .class_ 2), (0, u "com/example/quire/quire/values/NumericEncoding"), (2, u "DELTA"), (0, u "Lcom/example/quire/quire/values/NumericEncoding;"), (2, u "TABLE"), (2, u "UNCOMPRESSED"), (2, u "GCD"), (2, u "$VALUES"), (0, u "[Lcom/example/quire/quire/values/NumericEncoding;"), (6, .class_ 28), (1, u "java/lang/Enum"), (8, u "label"), (0, u "Ljava/lang/String;")] 33

/-- com/example/quire/quire/values/NumericEncoding -/
def k9 : Class := { plain "com/example/quire/quire/values/NumericEncoding" (some 7) with
  accessFlags := 16433
  interfaces := #[]
  cf := some (fileOf pool9 1 #[] #[] 16433 26 #[] #[{ accessFlags := 16409, nameIndex := 5, descriptorIndex := 6, attributes := #[] }, { accessFlags := 16409, nameIndex := 9, descriptorIndex := 6, attributes := #[] }, { accessFlags := 16409, nameIndex := 12, descriptorIndex := 6, attributes := #[] }, { accessFlags := 16409, nameIndex := 15, descriptorIndex := 6, attributes := #[] }, { accessFlags := 18, nameIndex := 37, descriptorIndex := 38, attributes := #[] }, { accessFlags := 4122, nameIndex := 18, descriptorIndex := 19, attributes := #[] }])
  fields := #[{ name := "DELTA", type := (.object "com/example/quire/quire/values/NumericEncoding"), accessFlags := 16409, slot := 0, constantValue := 0 }, { name := "TABLE", type := (.object "com/example/quire/quire/values/NumericEncoding"), accessFlags := 16409, slot := 1, constantValue := 0 }, { name := "UNCOMPRESSED", type := (.object "com/example/quire/quire/values/NumericEncoding"), accessFlags := 16409, slot := 2, constantValue := 0 }, { name := "GCD", type := (.object "com/example/quire/quire/values/NumericEncoding"), accessFlags := 16409, slot := 3, constantValue := 0 }, { name := "label", type := (.object "java/lang/String"), accessFlags := 18, slot := 3, constantValue := 0 }, { name := "$VALUES", type := (.array (.object "com/example/quire/quire/values/NumericEncoding")), accessFlags := 4122, slot := 4, constantValue := 0 }]
  methods := #[]
  instanceTypes := #[(.object "java/lang/String"), .int, .int, (.object "java/lang/String")]
  staticTypes := #[(.object "com/example/quire/quire/values/NumericEncoding"), (.object "com/example/quire/quire/values/NumericEncoding"), (.object "com/example/quire/quire/values/NumericEncoding"), (.object "com/example/quire/quire/values/NumericEncoding"), (.array (.object "com/example/quire/quire/values/NumericEncoding"))]
  resolved := Array.replicate 72 none
  statics := some 1 }

def pool10 : Array CpInfo := pool [(2, .class_ 4), (1, u "java/lang/Object"), (0, u "<init>"), (0, u "()V"), (1, .class_ 10), (1, u "com/example/quire/quire/values/internal/ValuesFormat$1"), (18, .class_ 31), (1, u "com/example/quire/quire/values/internal/ValuesFormat"), (6, .methodref 39 40), (0, .class_ 41), (0, .nameAndType 42 43), (0, u "java/lang/Math"), (0, u "min"), (0, u "(II)I"), (2, .methodref 29 47), (0, .nameAndType 48 43), (0, u "bitmapLength"), (0, .long 8), (4, u "(I)I"), (0, u "BLOCK_SIZE"), (0, u "I"), (2, u "PART_SIZE"), (1, u "MAX_TABLE_SIZE"), (1, u "VALUES_PER_BLOCK"), (10, u "blockDocs"), (0, u "blockLength"), (0, u "(III)I"), (0, u "partCount")] 6

def k10m0 : Method := { name := "<init>", desc := "()V", sig := { parameters := [], returnType := none }, accessFlags := 2, code := none }
def k10c1 : Code := { maxStack := 4, maxLocals := 2, code := prog_189_method_6_code, exceptionTable := #[], attributes := #[] }
def k10m1 : Method := { name := "blockDocs", desc := "(II)I", sig := { parameters := [.int, .int], returnType := some .int }, accessFlags := 8, code := some k10c1 }
def k10c2 : Code := { maxStack := 2, maxLocals := 2, code := prog_189_method_7_code, exceptionTable := #[], attributes := #[] }
def k10m2 : Method := { name := "bitmapLength", desc := "(II)I", sig := { parameters := [.int, .int], returnType := some .int }, accessFlags := 8, code := some k10c2 }
def k10c3 : Code := { maxStack := 5, maxLocals := 3, code := prog_189_method_8_code, exceptionTable := #[], attributes := #[] }
def k10m3 : Method := { name := "blockLength", desc := "(III)I", sig := { parameters := [.int, .int, .int], returnType := some .int }, accessFlags := 8, code := some k10c3 }
def k10c4 : Code := { maxStack := 2, maxLocals := 1, code := prog_189_method_9_code, exceptionTable := #[], attributes := #[] }
def k10m4 : Method := { name := "partCount", desc := "(I)I", sig := { parameters := [.int], returnType := some .int }, accessFlags := 8, code := some k10c4 }
/-- com/example/quire/quire/values/internal/ValuesFormat -/
def k10 : Class := { plain "com/example/quire/quire/values/internal/ValuesFormat" (some 0) with
  accessFlags := 48
  interfaces := #[]
  cf := some (fileOf pool10 29 #[.nestMembers #[8]] #[{ accessFlags := 2, nameIndex := 5, descriptorIndex := 6, attributes := #[] }, { accessFlags := 8, nameIndex := 74, descriptorIndex := 43, attributes := #[] }, { accessFlags := 8, nameIndex := 48, descriptorIndex := 43, attributes := #[] }, { accessFlags := 8, nameIndex := 75, descriptorIndex := 76, attributes := #[] }, { accessFlags := 8, nameIndex := 77, descriptorIndex := 54, attributes := #[] }] 48 2 #[] #[{ accessFlags := 24, nameIndex := 55, descriptorIndex := 56, attributes := #[] }, { accessFlags := 24, nameIndex := 59, descriptorIndex := 56, attributes := #[] }, { accessFlags := 24, nameIndex := 61, descriptorIndex := 56, attributes := #[] }, { accessFlags := 24, nameIndex := 63, descriptorIndex := 56, attributes := #[] }])
  fields := #[{ name := "BLOCK_SIZE", type := .int, accessFlags := 24, slot := 0, constantValue := 0 }, { name := "PART_SIZE", type := .int, accessFlags := 24, slot := 1, constantValue := 0 }, { name := "MAX_TABLE_SIZE", type := .int, accessFlags := 24, slot := 2, constantValue := 0 }, { name := "VALUES_PER_BLOCK", type := .int, accessFlags := 24, slot := 3, constantValue := 0 }]
  methods := #[k10m0, k10m1, k10m2, k10m3, k10m4]
  instanceTypes := #[]
  staticTypes := #[.int, .int, .int, .int]
  resolved := Array.replicate 84 none
  statics := none }

def pool11 : Array CpInfo := pool [(1, .class_ 2), (0, u "java/lang/Math"), (1, .class_ 6), (1, u "java/lang/Object"), (0, u "<init>"), (0, u "()V"), (89, .class_ 100), (1, u "java/lang/Math$RandomNumberGeneratorHolder"), (71, u "negativeZeroFloatBits"), (0, u "J"), (2, u "negativeZeroDoubleBits"), (24, u "min"), (43, u "$assertionsDisabled"), (0, u "Z"), (88, u "(II)I"), (2, u "twoToTheDoubleScaleDown"), (0, u "D"), (4, u "twoToTheDoubleScaleUp"), (9, u "E"), (3, u "PI"), (2, u "TAU"), (2, u "DEGREES_TO_RADIANS"), (0, u "RADIANS_TO_DEGREES")] 94

def k11m0 : Method := { name := "<init>", desc := "()V", sig := { parameters := [], returnType := none }, accessFlags := 2, code := none }
def k11c1 : Code := { maxStack := 2, maxLocals := 2, code := jdk_29_method_69_code, exceptionTable := #[], attributes := #[] }
def k11m1 : Method := { name := "min", desc := "(II)I", sig := { parameters := [.int, .int], returnType := some .int }, accessFlags := 9, code := some k11c1 }
/-- java/lang/Math -/
def k11 : Class := { plain "java/lang/Math" (some 0) with
  accessFlags := 49
  interfaces := #[]
  cf := some (fileOf pool11 1 #[.nestMembers #[98]] #[{ accessFlags := 2, nameIndex := 7, descriptorIndex := 8, attributes := #[] }, { accessFlags := 9, nameIndex := 201, descriptorIndex := 335, attributes := #[] }] 49 4 #[] #[{ accessFlags := 25, nameIndex := 354, descriptorIndex := 339, attributes := #[] }, { accessFlags := 25, nameIndex := 358, descriptorIndex := 339, attributes := #[] }, { accessFlags := 25, nameIndex := 361, descriptorIndex := 339, attributes := #[] }, { accessFlags := 26, nameIndex := 364, descriptorIndex := 339, attributes := #[] }, { accessFlags := 26, nameIndex := 365, descriptorIndex := 339, attributes := #[] }, { accessFlags := 26, nameIndex := 172, descriptorIndex := 173, attributes := #[] }, { accessFlags := 26, nameIndex := 176, descriptorIndex := 173, attributes := #[] }, { accessFlags := 8, nameIndex := 344, descriptorIndex := 339, attributes := #[] }, { accessFlags := 8, nameIndex := 338, descriptorIndex := 339, attributes := #[] }, { accessFlags := 4120, nameIndex := 245, descriptorIndex := 246, attributes := #[] }])
  fields := #[{ name := "E", type := .double, accessFlags := 25, slot := 0, constantValue := 0 }, { name := "PI", type := .double, accessFlags := 25, slot := 1, constantValue := 0 }, { name := "TAU", type := .double, accessFlags := 25, slot := 2, constantValue := 0 }, { name := "DEGREES_TO_RADIANS", type := .double, accessFlags := 26, slot := 3, constantValue := 0 }, { name := "RADIANS_TO_DEGREES", type := .double, accessFlags := 26, slot := 4, constantValue := 0 }, { name := "negativeZeroFloatBits", type := .long, accessFlags := 26, slot := 5, constantValue := 0 }, { name := "negativeZeroDoubleBits", type := .long, accessFlags := 26, slot := 6, constantValue := 0 }, { name := "twoToTheDoubleScaleUp", type := .double, accessFlags := 8, slot := 7, constantValue := 0 }, { name := "twoToTheDoubleScaleDown", type := .double, accessFlags := 8, slot := 8, constantValue := 0 }, { name := "$assertionsDisabled", type := .boolean, accessFlags := 4120, slot := 9, constantValue := 0 }]
  methods := #[k11m0, k11m1]
  instanceTypes := #[]
  staticTypes := #[.double, .double, .double, .double, .double, .long, .long, .double, .double, .boolean]
  resolved := Array.replicate 460 none
  statics := none }

def pool12 : Array CpInfo := pool [(1, u "java/lang/Cloneable"), (0, .class_ 1), (0, u "java/lang/Object"), (0, .class_ 3)] 3

/-- java/lang/Cloneable -/
def k12 : Class := { plain "java/lang/Cloneable" (some 0) with
  accessFlags := 1537
  interfaces := #[]
  cf := some (fileOf pool12 2 #[] #[] 1537 4 #[] #[])
  fields := #[]
  methods := #[]
  instanceTypes := #[]
  staticTypes := #[]
  resolved := Array.replicate 8 none
  statics := none }

/-- the primitive byte -/
def k13 : Class := { plain "byte" none with kind := .primitive 'B', accessFlags := 0x411 }
/-- [B -/
def k14 : Class := { plain "[B" (some 0) with kind := .array 13 .byte, interfaces := #[12, 6], accessFlags := 1041 }

/-- the primitive int -/
def k15 : Class := { plain "int" none with kind := .primitive 'I', accessFlags := 0x411 }
/-- [I -/
def k16 : Class := { plain "[I" (some 0) with kind := .array 15 .int, interfaces := #[12, 6], accessFlags := 1041 }

/-- the primitive long -/
def k17 : Class := { plain "long" none with kind := .primitive 'J', accessFlags := 0x411 }
/-- [J -/
def k18 : Class := { plain "[J" (some 0) with kind := .array 17 .long, interfaces := #[12, 6], accessFlags := 1041 }

def heap : Heap := #[{ cls := 8, slots := #[.null, .ref 2, .null, .null], vm := .statics 8 },
  { cls := 9, slots := #[.ref 3, .null, .null, .null, .null], vm := .statics 9 },
  { cls := 8, slots := #[.null, .int 1, .int 0, .null, .null], vm := .none },
  { cls := 9, slots := #[.null, .int 0, .int 0, .null], vm := .none }]
def classes : Array Class := #[k0, k1, k2, k3, k4, k5, k6, k7, k8, k9, k10, k11, k12, k13, k14, k15, k16, k17, k18]
def interned : List (Array UInt16 × Addr) := []
def slotsUsed : Nat := 18
def theMethod : MethodId := ⟨1, 1⟩
def args0 : Array Value := #[.int 5, .int 7, .int 5, .int 5, .int 9, .int 5]
def aboutOver (below : List Frame) : State where
  vm := { classes := classes, interned := interned.toArray }
  heap := heap
  slotsUsed := slotsUsed
  threads := #[{ frames := .invoking theMethod args0 :: below }]
def below0 : List Frame := [.native { method := ⟨0, 0⟩, args := #[] }]
def about1 : State := aboutOver below0
def p0 : Program := .bare "" "" ""
def e0 : Env := launch0.env 0 0 0
theorem w_frames : about1.frames = Frame.invoking theMethod args0 :: below0 := rfl
set_option maxRecDepth 65536 in
theorem w_args : argsFit about1.vm theMethod args0 = true := by decide +kernel
set_option maxRecDepth 65536 in
theorem w_heap : heapFits about1 = true := by decide +kernel
set_option maxRecDepth 65536 in
theorem w_runnable : about1.curStatus? = some .runnable := by decide +kernel
set_option maxRecDepth 65536 in
theorem w_alone : about1.alone = true := by decide +kernel
set_option maxRecDepth 65536 in
theorem w_named : about1.methodNamed? x = some theMethod := by decide +kernel
set_option maxRecDepth 65536 in
theorem w_hears : about1.hears theMethod below0 = true := by decide +kernel
set_option maxRecDepth 65536 in
theorem w_ripe : about1.ripe theMethod args0 below0 = true := by decide +kernel
theorem w_running : about1.status = .running := rfl
set_option maxRecDepth 65536 in
theorem w_room : about1.hasRoom e0.platform room_1 = true :=
  launch0.hasRoom_least _ room_1 (by decide +kernel) (by decide +kernel) (by decide +kernel) (by decide +kernel) (by decide +kernel) (by decide +kernel)
theorem allAtoms_all (ts : List Jvm.Cond) (a : Array Jvm.Value) (st : Jvm.State) : (allAtoms ts).before a st = ts.all (fun c => c.before a st) := by
  induction ts with
  | nil => rfl
  | cons c t ih =>
    show (Jvm.Cond.and c (allAtoms t)).before a st = _
    rw [Jvm.Cond.before_and, ih, List.all_cons]
def words1 : List Jvm.Cond := Jvm.Cond.code x code maxLocals ret :: tables_1
/-- a 'code' word, met by the world's own term for the bytes: nothing is compared byte by byte -/
theorem code_word {y : MethodName} {bytes : ByteArray} {mx : Nat} {rt : Option FieldType} {a : Array Value} {s : State} {m : MethodId} {meth : Method} {c : Code} (h1 : s.methodNamed? y = some m) (h2 : s.vm.method? m = some meth) (h3 : meth.code = some c) (h4 : c.code = bytes)
    (h5 : (c.maxLocals == mx && c.exceptionTable.isEmpty && decide (c.maxStack ≤ mostOperands) && decide (meth.sig.returnType = rt) && !meth.locks && decide (parseMethodDescriptor y.desc = some meth.sig)) = true) : (Jvm.Cond.code y bytes mx rt).before a s = true := by
  simp only [Bool.and_eq_true, beq_iff_eq, Bool.not_eq_true', decide_eq_true_eq] at h5
  obtain ⟨⟨⟨⟨⟨g1, g2⟩, g3⟩, g4⟩, g5⟩, g6⟩ := h5
  simp [Cond.before, Cond.holds, Cond.value, h1, h2, h3, h4, g1, g2, g3, g4, g5, g6]
def isCode : Jvm.Cond → Bool
  | .code _ _ _ _ => true
  | _ => false
theorem all_split {L : List Jvm.Cond} {P : Jvm.Cond → Bool} (h1 : L.all (fun c => isCode c || P c) = true) (h2 : ∀ c ∈ L.filter isCode, P c = true) : L.all P = true := by
  refine List.all_eq_true.mpr fun c hc => ?_
  have h := List.all_eq_true.mp h1 c hc
  rcases Bool.eq_false_or_eq_true (isCode c) with hi | hi
  · exact h2 c (List.mem_filter.mpr ⟨hc, hi⟩)
  · simpa [hi] using h
set_option maxRecDepth 65536 in
theorem w_c0 : (Jvm.Cond.code x code maxLocals ret).before args0 about1 = true := code_word (m := ⟨1, 1⟩) (meth := k1m1) (c := k1c1) (by decide +kernel) rfl rfl rfl (by decide +kernel)
set_option maxRecDepth 65536 in
theorem w_c1 : (Jvm.Cond.code ({ cls := "com/example/quire/quire/values/internal/FieldLayout", name := "<init>", desc := "(ILcom/example/quire/quire/document/FieldType;Lcom/example/quire/quire/values/NumericEncoding;J[JI[I[I[J)V" } : Jvm.MethodName) prog_161_method_1_code (12 : Nat) (Option.none : Option Jvm.ClassFile.FieldType)).before args0 about1 = true := code_word (m := ⟨3, 0⟩) (meth := k3m0) (c := k3c0) (by decide +kernel) rfl rfl rfl (by decide +kernel)
set_option maxRecDepth 65536 in
theorem w_c2 : (Jvm.Cond.code ({ cls := "java/lang/Object", name := "<init>", desc := "()V" } : Jvm.MethodName) object_method_1_code (1 : Nat) (Option.none : Option Jvm.ClassFile.FieldType)).before args0 about1 = true := code_word (m := ⟨0, 0⟩) (meth := k0m0) (c := k0c0) (by decide +kernel) rfl rfl rfl (by decide +kernel)
set_option maxRecDepth 65536 in
theorem w_c3 : (Jvm.Cond.code ({ cls := "com/example/quire/quire/values/internal/FieldLayout", name := "valueCount", desc := "()I" } : Jvm.MethodName) prog_161_method_18_code (6 : Nat) (Option.some Jvm.ClassFile.FieldType.int)).before args0 about1 = true := code_word (m := ⟨3, 3⟩) (meth := k3m3) (c := k3c3) (by decide +kernel) rfl rfl rfl (by decide +kernel)
set_option maxRecDepth 65536 in
theorem w_c4 : (Jvm.Cond.code ({ cls := "com/example/quire/quire/values/internal/FieldLayout", name := "length", desc := "(I)I" } : Jvm.MethodName) prog_161_method_9_code (2 : Nat) (Option.some Jvm.ClassFile.FieldType.int)).before args0 about1 = true := code_word (m := ⟨3, 2⟩) (meth := k3m2) (c := k3c2) (by decide +kernel) rfl rfl rfl (by decide +kernel)
set_option maxRecDepth 65536 in
theorem w_c5 : (Jvm.Cond.code ({ cls := "com/example/quire/quire/values/internal/FieldLayout", name := "docs", desc := "(I)I" } : Jvm.MethodName) prog_161_method_6_code (2 : Nat) (Option.some Jvm.ClassFile.FieldType.int)).before args0 about1 = true := code_word (m := ⟨3, 1⟩) (meth := k3m1) (c := k3c1) (by decide +kernel) rfl rfl rfl (by decide +kernel)
set_option maxRecDepth 65536 in
theorem w_c6 : (Jvm.Cond.code ({ cls := "com/example/quire/quire/values/internal/ValuesFormat", name := "blockDocs", desc := "(II)I" } : Jvm.MethodName) prog_189_method_6_code (2 : Nat) (Option.some Jvm.ClassFile.FieldType.int)).before args0 about1 = true := code_word (m := ⟨10, 1⟩) (meth := k10m1) (c := k10c1) (by decide +kernel) rfl rfl rfl (by decide +kernel)
set_option maxRecDepth 65536 in
theorem w_c7 : (Jvm.Cond.code ({ cls := "java/lang/Math", name := "min", desc := "(II)I" } : Jvm.MethodName) jdk_29_method_69_code (2 : Nat) (Option.some Jvm.ClassFile.FieldType.int)).before args0 about1 = true := code_word (m := ⟨11, 1⟩) (meth := k11m1) (c := k11c1) (by decide +kernel) rfl rfl rfl (by decide +kernel)
set_option maxRecDepth 65536 in
theorem w_c8 : (Jvm.Cond.code ({ cls := "com/example/quire/quire/values/internal/ValuesFormat", name := "blockLength", desc := "(III)I" } : Jvm.MethodName) prog_189_method_8_code (3 : Nat) (Option.some Jvm.ClassFile.FieldType.int)).before args0 about1 = true := code_word (m := ⟨10, 3⟩) (meth := k10m3) (c := k10c3) (by decide +kernel) rfl rfl rfl (by decide +kernel)
set_option maxRecDepth 65536 in
theorem w_c9 : (Jvm.Cond.code ({ cls := "com/example/quire/quire/values/internal/ValuesFormat", name := "bitmapLength", desc := "(II)I" } : Jvm.MethodName) prog_189_method_7_code (2 : Nat) (Option.some Jvm.ClassFile.FieldType.int)).before args0 about1 = true := code_word (m := ⟨10, 2⟩) (meth := k10m2) (c := k10c2) (by decide +kernel) rfl rfl rfl (by decide +kernel)
set_option maxRecDepth 65536 in
theorem w_c10 : (Jvm.Cond.code ({ cls := "com/example/quire/quire/values/internal/ValuesFormat", name := "partCount", desc := "(I)I" } : Jvm.MethodName) prog_189_method_9_code (1 : Nat) (Option.some Jvm.ClassFile.FieldType.int)).before args0 about1 = true := code_word (m := ⟨10, 4⟩) (meth := k10m4) (c := k10c4) (by decide +kernel) rfl rfl rfl (by decide +kernel)
def codes1 : List Jvm.Cond := [Jvm.Cond.code x code maxLocals ret, Jvm.Cond.code ({ cls := "com/example/quire/quire/values/internal/FieldLayout", name := "<init>", desc := "(ILcom/example/quire/quire/document/FieldType;Lcom/example/quire/quire/values/NumericEncoding;J[JI[I[I[J)V" } : Jvm.MethodName) prog_161_method_1_code (12 : Nat) (Option.none : Option Jvm.ClassFile.FieldType), Jvm.Cond.code ({ cls := "java/lang/Object", name := "<init>", desc := "()V" } : Jvm.MethodName) object_method_1_code (1 : Nat) (Option.none : Option Jvm.ClassFile.FieldType), Jvm.Cond.code ({ cls := "com/example/quire/quire/values/internal/FieldLayout", name := "valueCount", desc := "()I" } : Jvm.MethodName) prog_161_method_18_code (6 : Nat) (Option.some Jvm.ClassFile.FieldType.int), Jvm.Cond.code ({ cls := "com/example/quire/quire/values/internal/FieldLayout", name := "length", desc := "(I)I" } : Jvm.MethodName) prog_161_method_9_code (2 : Nat) (Option.some Jvm.ClassFile.FieldType.int), Jvm.Cond.code ({ cls := "com/example/quire/quire/values/internal/FieldLayout", name := "docs", desc := "(I)I" } : Jvm.MethodName) prog_161_method_6_code (2 : Nat) (Option.some Jvm.ClassFile.FieldType.int), Jvm.Cond.code ({ cls := "com/example/quire/quire/values/internal/ValuesFormat", name := "blockDocs", desc := "(II)I" } : Jvm.MethodName) prog_189_method_6_code (2 : Nat) (Option.some Jvm.ClassFile.FieldType.int), Jvm.Cond.code ({ cls := "java/lang/Math", name := "min", desc := "(II)I" } : Jvm.MethodName) jdk_29_method_69_code (2 : Nat) (Option.some Jvm.ClassFile.FieldType.int), Jvm.Cond.code ({ cls := "com/example/quire/quire/values/internal/ValuesFormat", name := "blockLength", desc := "(III)I" } : Jvm.MethodName) prog_189_method_8_code (3 : Nat) (Option.some Jvm.ClassFile.FieldType.int), Jvm.Cond.code ({ cls := "com/example/quire/quire/values/internal/ValuesFormat", name := "bitmapLength", desc := "(II)I" } : Jvm.MethodName) prog_189_method_7_code (2 : Nat) (Option.some Jvm.ClassFile.FieldType.int), Jvm.Cond.code ({ cls := "com/example/quire/quire/values/internal/ValuesFormat", name := "partCount", desc := "(I)I" } : Jvm.MethodName) prog_189_method_9_code (1 : Nat) (Option.some Jvm.ClassFile.FieldType.int)]
set_option maxRecDepth 65536 in
theorem codes_eq : words1.filter isCode = codes1 := rfl
theorem w_codes : ∀ c ∈ words1.filter isCode, c.before args0 about1 = true := by
  rw [codes_eq]
  intro c hc
  simp only [codes1, List.mem_cons, List.not_mem_nil, or_false] at hc
  rcases hc with rfl | rfl | rfl | rfl | rfl | rfl | rfl | rfl | rfl | rfl | rfl
  · exact w_c0
  · exact w_c1
  · exact w_c2
  · exact w_c3
  · exact w_c4
  · exact w_c5
  · exact w_c6
  · exact w_c7
  · exact w_c8
  · exact w_c9
  · exact w_c10
set_option maxRecDepth 65536 in
theorem w_t1 : (words1.take 24).all (fun c => isCode c || c.before args0 about1) = true := by decide +kernel
set_option maxRecDepth 65536 in
theorem w_t2 : ((words1.drop 24).take 24).all (fun c => isCode c || c.before args0 about1) = true := by decide +kernel
set_option maxRecDepth 65536 in
theorem w_t3 : (((words1.drop 24).drop 24).take 24).all (fun c => isCode c || c.before args0 about1) = true := by decide +kernel
set_option maxRecDepth 65536 in
theorem w_t4 : (((words1.drop 24).drop 24).drop 24).all (fun c => isCode c || c.before args0 about1) = true := by decide +kernel
theorem w_tables : (allAtoms (Jvm.Cond.code x code maxLocals ret :: tables_1)).before args0 about1 = true := by
  rw [allAtoms_all]
  show words1.all (fun c => c.before args0 about1) = true
  refine all_split ?_ w_codes
  rw [← List.take_append_drop 24 words1, List.all_append, w_t1, ← List.take_append_drop 24 (words1.drop 24), List.all_append, w_t2, ← List.take_append_drop 24 ((words1.drop 24).drop 24), List.all_append, w_t3, w_t4]
  rfl
set_option maxRecDepth 65536 in
theorem w_case : (Jvm.Cond.and given_1 narrow_1).before args0 about1 = true := by decide +kernel
theorem w_applies : (headSpec (Jvm.Cond.code x code maxLocals ret :: tables_1) room_1).applies x e0.platform about1 = true :=
  (Spec.applies_iff w_frames).mpr ⟨w_running, w_runnable, w_alone, w_named, w_hears, w_ripe, w_room, w_tables⟩
theorem atStart : AtStart classFile x code maxLocals ret World_1 tables_1 room_1 Calls_1 rest_1 Pre_1 launch0 p0 e0 about1 theMethod args0 below0 :=
  ⟨lists_1, trivial, launch0.admits_env _ _ _, launch0.least_env, fairChoices_fair.cas, fairChoices_fair.clock, w_frames, w_args, w_heap, w_applies, trivial, trivial, w_case⟩
end start1
theorem witness_1 : WitnessClaimed_1 := ⟨start1.p0, start1.e0, start1.about1, start1.theMethod, start1.args0, start1.below0, start1.atStart⟩
end Jvm.Pilot.@@N@@
