import JvmDerived
import JvmDerived.Pilot.@@N@@Statement
import JvmDerived.Pilot.@@N@@Code
set_option linter.unusedVariables false
set_option linter.unusedSimpArgs false
namespace Jvm.Pilot.@@N@@
namespace Own
open Jvm Jvm.ClassFile Sem Op Lib Jvm.Free Jvm.Stand Jvm.LawKit Jvm.RoadKit
/-! A WALK READ FORWARDS. 'Owe .. G T g': from the state T with the frame g on top the invocation comes back, and G holds of what it leaves. Each step's rule asks what is owed behind the step. -/
def Owe (tb : Tables) (e : Env) (below : List Frame) (G : Outcome → State → Prop) (T : State) (g : JFrame) : Prop := ∃ u o, Steps tb e below (T.setTop g) u ∧ u.status = .running ∧ Ended u below o ∧ G o u
theorem Owe.by {tb : Tables} {e : Env} {below : List Frame} {G : Outcome → State → Prop} {T T' : State} {g g' : JFrame} (k : ∀ t, Steps tb e below (T'.setTop g') t → Steps tb e below (T.setTop g) t) (h : Owe tb e below G T' g') : Owe tb e below G T g := by
  obtain ⟨u, o, h1, h2⟩ := h
  exact ⟨u, o, k _ h1, h2⟩
theorem Owe.cast {tb : Tables} {e : Env} {below : List Frame} {G : Outcome → State → Prop} {T : State} {g g' : JFrame} (q : g = g') (h : Owe tb e below G T g') : Owe tb e below G T g := q ▸ h
section Plain
variable {tb : Tables} [Ours tb] {e : Env} {below : List Frame} {G : Outcome → State → Prop} {T : State} {m : MethodId} {c : Code} {pc : Nat} {Ls : Array Slot} {st : List Value}
theorem Owe.aloadN (h : At T m c below) (hx : tb.exec = Jvm.exec) {k : Fin 4} {v : Value} (hd : decode c.code pc = .ok (.aload_n k, 1)) (hl : Ls[k.val]? = some (.val v)) (hv : v.isRef = true) (go : Owe tb e below G T (mkF m (pc + 1) Ls (v :: st))) : Owe tb e below G T (mkF m pc Ls st) := Owe.by (fun t k => XS.aloadN h hx rfl hd hl hv k) go
theorem Owe.aload (h : At T m c below) (hx : tb.exec = Jvm.exec) {k : Nat} {v : Value} (hd : decode c.code pc = .ok (.aload k, 2)) (hl : Ls[k]? = some (.val v)) (hv : v.isRef = true) (go : Owe tb e below G T (mkF m (pc + 2) Ls (v :: st))) : Owe tb e below G T (mkF m pc Ls st) := Owe.by (fun t k => XS.aload h hx rfl hd hl hv k) go
theorem Owe.iloadN (h : At T m c below) (hx : tb.exec = Jvm.exec) {k : Fin 4} {v : Int32} (hd : decode c.code pc = .ok (.iload_n k, 1)) (hl : Ls[k.val]? = some (.val (.int v))) (go : Owe tb e below G T (mkF m (pc + 1) Ls (.int v :: st))) : Owe tb e below G T (mkF m pc Ls st) := Owe.by (fun t k => XS.iloadN h hx rfl hd hl k) go
theorem Owe.iload (h : At T m c below) (hx : tb.exec = Jvm.exec) {k : Nat} {v : Int32} (hd : decode c.code pc = .ok (.iload k, 2)) (hl : Ls[k]? = some (.val (.int v))) (go : Owe tb e below G T (mkF m (pc + 2) Ls (.int v :: st))) : Owe tb e below G T (mkF m pc Ls st) := Owe.by (fun t k => XS.iload h hx rfl hd hl k) go
theorem Owe.iconst (h : At T m c below) (hx : tb.exec = Jvm.exec) {i : Int} (hd : decode c.code pc = .ok (.iconst i, 1)) {w : Int32} (hw : (Int32.ofInt i) = w) (go : Owe tb e below G T (mkF m (pc + 1) Ls (.int w :: st))) : Owe tb e below G T (mkF m pc Ls st) := by subst hw; exact Owe.by (fun t k => XS.iconst h hx rfl hd k) go
theorem Owe.bipush (h : At T m c below) (hx : tb.exec = Jvm.exec) {i : Int} (hd : decode c.code pc = .ok (.bipush i, 2)) {w : Int32} (hw : (Int8.ofInt i).toInt32 = w) (go : Owe tb e below G T (mkF m (pc + 2) Ls (.int w :: st))) : Owe tb e below G T (mkF m pc Ls st) := by subst hw; exact Owe.by (fun t k => XS.bipush h hx rfl hd k) go
theorem Owe.sipush (h : At T m c below) (hx : tb.exec = Jvm.exec) {i : Int} (hd : decode c.code pc = .ok (.sipush i, 3)) {w : Int32} (hw : (Int16.ofInt i).toInt32 = w) (go : Owe tb e below G T (mkF m (pc + 3) Ls (.int w :: st))) : Owe tb e below G T (mkF m pc Ls st) := by subst hw; exact Owe.by (fun t k => XS.sipush h hx rfl hd k) go
theorem Owe.aconstNull (h : At T m c below) (hx : tb.exec = Jvm.exec) (hd : decode c.code pc = .ok (.aconst_null, 1)) (go : Owe tb e below G T (mkF m (pc + 1) Ls (.null :: st))) : Owe tb e below G T (mkF m pc Ls st) := Owe.by (fun t k => XS.aconstNull h hx rfl hd k) go
theorem Owe.iadd (h : At T m c below) (hx : tb.exec = Jvm.exec) {x y : Int32} {rest : List Value} (hd : decode c.code pc = .ok (.iadd, 1)) (hs : st = .int y :: .int x :: rest) (go : Owe tb e below G T (mkF m (pc + 1) Ls (.int (x + y) :: rest))) : Owe tb e below G T (mkF m pc Ls st) := Owe.by (fun t k => XS.iadd h hx rfl hd hs k) go
theorem Owe.isub (h : At T m c below) (hx : tb.exec = Jvm.exec) {x y : Int32} {rest : List Value} (hd : decode c.code pc = .ok (.isub, 1)) (hs : st = .int y :: .int x :: rest) (go : Owe tb e below G T (mkF m (pc + 1) Ls (.int (x - y) :: rest))) : Owe tb e below G T (mkF m pc Ls st) := Owe.by (fun t k => XS.isub h hx rfl hd hs k) go
theorem Owe.imul (h : At T m c below) (hx : tb.exec = Jvm.exec) {x y : Int32} {rest : List Value} (hd : decode c.code pc = .ok (.imul, 1)) (hs : st = .int y :: .int x :: rest) (go : Owe tb e below G T (mkF m (pc + 1) Ls (.int (x * y) :: rest))) : Owe tb e below G T (mkF m pc Ls st) := Owe.by (fun t k => XS.imul h hx rfl hd hs k) go
theorem Owe.iand (h : At T m c below) (hx : tb.exec = Jvm.exec) {x y : Int32} {rest : List Value} (hd : decode c.code pc = .ok (.iand, 1)) (hs : st = .int y :: .int x :: rest) (go : Owe tb e below G T (mkF m (pc + 1) Ls (.int (x &&& y) :: rest))) : Owe tb e below G T (mkF m pc Ls st) := Owe.by (fun t k => XS.iand h hx rfl hd hs k) go
theorem Owe.ior (h : At T m c below) (hx : tb.exec = Jvm.exec) {x : Int32} {y : Int32} {rest : List Value} (hd : decode c.code pc = .ok (.ior, 1)) (hs : st = .int y :: .int x :: rest) (go : Owe tb e below G T (mkF m (pc + 1) Ls (.int (x ||| y) :: rest))) : Owe tb e below G T (mkF m pc Ls st) := Owe.by (fun t k => XS.ior h hx rfl hd hs k) go
theorem Owe.ixor (h : At T m c below) (hx : tb.exec = Jvm.exec) {x : Int32} {y : Int32} {rest : List Value} (hd : decode c.code pc = .ok (.ixor, 1)) (hs : st = .int y :: .int x :: rest) (go : Owe tb e below G T (mkF m (pc + 1) Ls (.int (x ^^^ y) :: rest))) : Owe tb e below G T (mkF m pc Ls st) := Owe.by (fun t k => XS.ixor h hx rfl hd hs k) go
theorem Owe.ishl (h : At T m c below) (hx : tb.exec = Jvm.exec) {x : Int32} {y : Int32} {rest : List Value} (hd : decode c.code pc = .ok (.ishl, 1)) (hs : st = .int y :: .int x :: rest) (go : Owe tb e below G T (mkF m (pc + 1) Ls (.int (x <<< (y &&& 31)) :: rest))) : Owe tb e below G T (mkF m pc Ls st) := Owe.by (fun t k => XS.ishl h hx rfl hd hs k) go
theorem Owe.ishr (h : At T m c below) (hx : tb.exec = Jvm.exec) {x : Int32} {y : Int32} {rest : List Value} (hd : decode c.code pc = .ok (.ishr, 1)) (hs : st = .int y :: .int x :: rest) (go : Owe tb e below G T (mkF m (pc + 1) Ls (.int (x >>> (y &&& 31)) :: rest))) : Owe tb e below G T (mkF m pc Ls st) := Owe.by (fun t k => XS.ishr h hx rfl hd hs k) go
theorem Owe.iushr (h : At T m c below) (hx : tb.exec = Jvm.exec) {x : Int32} {y : Int32} {rest : List Value} (hd : decode c.code pc = .ok (.iushr, 1)) (hs : st = .int y :: .int x :: rest) (go : Owe tb e below G T (mkF m (pc + 1) Ls (.int ((x.toUInt32 >>> (y &&& 31).toUInt32).toInt32) :: rest))) : Owe tb e below G T (mkF m pc Ls st) := Owe.by (fun t k => XS.iushr h hx rfl hd hs k) go
theorem Owe.irem (h : At T m c below) (hx : tb.exec = Jvm.exec) {x y : Int32} {rest : List Value} (hd : decode c.code pc = .ok (.irem, 1)) (hs : st = .int y :: .int x :: rest) (hy : y ≠ 0) (go : Owe tb e below G T (mkF m (pc + 1) Ls (.int (x - (x / y) * y) :: rest))) : Owe tb e below G T (mkF m pc Ls st) := Owe.by (fun t k => XS.irem h hx rfl hd hs hy k) go
theorem Owe.idiv (h : At T m c below) (hx : tb.exec = Jvm.exec) {x y : Int32} {rest : List Value} (hd : decode c.code pc = .ok (.idiv, 1)) (hs : st = .int y :: .int x :: rest) (hy : y ≠ 0) (go : Owe tb e below G T (mkF m (pc + 1) Ls (.int (x / y) :: rest))) : Owe tb e below G T (mkF m pc Ls st) := Owe.by (fun t k => XS.idiv h hx rfl hd hs hy k) go
theorem Owe.ineg (h : At T m c below) (hx : tb.exec = Jvm.exec) {x : Int32} {rest : List Value} (hd : decode c.code pc = .ok (.ineg, 1)) (hs : st = .int x :: rest) (go : Owe tb e below G T (mkF m (pc + 1) Ls (.int (-x) :: rest))) : Owe tb e below G T (mkF m pc Ls st) := Owe.by (fun t k => XS.ineg h hx rfl hd hs k) go
theorem Owe.iinc (h : At T m c below) (hx : tb.exec = Jvm.exec) {k : Nat} {cst : Int} {x : Int32} {l' : Array Slot} (hd : decode c.code pc = .ok (.iinc k cst, 3)) (hl : Ls[k]? = some (.val (.int x))) (hl' : storeLocals Ls k (.int (x + Int32.ofInt cst)) = some l') (go : Owe tb e below G T (mkF m (pc + 3) l' st)) : Owe tb e below G T (mkF m pc Ls st) := Owe.by (fun t k => XS.iinc h hx rfl hd hl hl' k) go
theorem Owe.dup (h : At T m c below) (hx : tb.exec = Jvm.exec) {x : Value} {rest : List Value} (hd : decode c.code pc = .ok (.dup, 1)) (hs : st = x :: rest) (hc : x.category = 1) (go : Owe tb e below G T (mkF m (pc + 1) Ls (x :: x :: rest))) : Owe tb e below G T (mkF m pc Ls st) := Owe.by (fun t k => XS.dup h hx rfl hd hs hc k) go
theorem Owe.pop (h : At T m c below) (hx : tb.exec = Jvm.exec) {x : Value} {rest : List Value} (hd : decode c.code pc = .ok (.pop, 1)) (hs : st = x :: rest) (hc : x.category = 1) (go : Owe tb e below G T (mkF m (pc + 1) Ls rest)) : Owe tb e below G T (mkF m pc Ls st) := Owe.by (fun t k => XS.pop h hx rfl hd hs hc k) go
theorem Owe.dupX1 (h : At T m c below) (hx : tb.exec = Jvm.exec) {x y : Value} {rest : List Value} (hd : decode c.code pc = .ok (.dup_x1, 1)) (hs : st = x :: y :: rest) (hc : x.category = 1) (hc2 : y.category = 1) (go : Owe tb e below G T (mkF m (pc + 1) Ls (x :: y :: x :: rest))) : Owe tb e below G T (mkF m pc Ls st) := Owe.by (fun t k => XS.dupX1 h hx rfl hd hs hc hc2 k) go
theorem Owe.dup2 (h : At T m c below) (hx : tb.exec = Jvm.exec) {x y : Value} {rest : List Value} (hd : decode c.code pc = .ok (.dup2, 1)) (hs : st = x :: y :: rest) (hc : x.category = 1) (hc' : y.category = 1) (go : Owe tb e below G T (mkF m (pc + 1) Ls (x :: y :: x :: y :: rest))) : Owe tb e below G T (mkF m pc Ls st) := Owe.by (fun t k => Jvm.Free.XT.dup2 h hx rfl hd hs hc hc' k) go
theorem Owe.istoreN (h : At T m c below) (hx : tb.exec = Jvm.exec) {k : Fin 4} {x : Int32} {rest : List Value} {l' : Array Slot} (hd : decode c.code pc = .ok (.istore_n k, 1)) (hs : st = .int x :: rest) (hl : storeLocals Ls k.val (.int x) = some l') (go : Owe tb e below G T (mkF m (pc + 1) l' rest)) : Owe tb e below G T (mkF m pc Ls st) := Owe.by (fun t k => XS.istoreN h hx rfl hd hs hl k) go
theorem Owe.istore (h : At T m c below) (hx : tb.exec = Jvm.exec) {k : Nat} {x : Int32} {rest : List Value} {l' : Array Slot} (hd : decode c.code pc = .ok (.istore k, 2)) (hs : st = .int x :: rest) (hl : storeLocals Ls k (.int x) = some l') (go : Owe tb e below G T (mkF m (pc + 2) l' rest)) : Owe tb e below G T (mkF m pc Ls st) := Owe.by (fun t k => XS.istore h hx rfl hd hs hl k) go
theorem Owe.astoreN (h : At T m c below) (hx : tb.exec = Jvm.exec) {k : Fin 4} {x : Value} {rest : List Value} {l' : Array Slot} (hd : decode c.code pc = .ok (.astore_n k, 1)) (hs : st = x :: rest) (hv : x.isRef = true) (hl : storeLocals Ls k.val x = some l') (go : Owe tb e below G T (mkF m (pc + 1) l' rest)) : Owe tb e below G T (mkF m pc Ls st) := Owe.by (fun t k => XS.astoreN h hx rfl hd hs hv hl k) go
theorem Owe.astore (h : At T m c below) (hx : tb.exec = Jvm.exec) {k : Nat} {x : Value} {rest : List Value} {l' : Array Slot} (hd : decode c.code pc = .ok (.astore k, 2)) (hs : st = x :: rest) (hv : x.isRef = true) (hl : storeLocals Ls k x = some l') (go : Owe tb e below G T (mkF m (pc + 2) l' rest)) : Owe tb e below G T (mkF m pc Ls st) := Owe.by (fun t k => XS.astore h hx rfl hd hs hv hl k) go
theorem Owe.goto (h : At T m c below) (hx : tb.exec = Jvm.exec) {o : Int} {pc' : Nat}  (hd : decode c.code pc = .ok (.goto o, 3)) (ho : 0 ≤ (pc : Int) + o) (hp : ((pc : Int) + o).toNat = pc') (go : Owe tb e below G T (mkF m pc' Ls st)) : Owe tb e below G T (mkF m pc Ls st) := Owe.by (fun t k => XS.goto h hx rfl rfl hd ho hp k) go
theorem Owe.ifYes (h : At T m c below) (hx : tb.exec = Jvm.exec) {cd : ClassFile.Cond} {x : Int32} {rest : List Value} {o : Int} {pc' : Nat}  (hd : decode c.code pc = .ok (.ifCond cd o, 3)) (hs : st = .int x :: rest) (hc : ifCond.holds cd x = true) (ho : 0 ≤ (pc : Int) + o) (hp : ((pc : Int) + o).toNat = pc') (go : Owe tb e below G T (mkF m pc' Ls rest)) : Owe tb e below G T (mkF m pc Ls st) := Owe.by (fun t k => XS.ifYes h hx rfl rfl hd hs hc ho hp k) go
theorem Owe.ifNo (h : At T m c below) (hx : tb.exec = Jvm.exec) {cd : ClassFile.Cond} {o : Int} {x : Int32} {rest : List Value} (hd : decode c.code pc = .ok (.ifCond cd o, 3)) (hs : st = .int x :: rest) (hc : ifCond.holds cd x = false) (go : Owe tb e below G T (mkF m (pc + 3) Ls rest)) : Owe tb e below G T (mkF m pc Ls st) := Owe.by (fun t k => XS.ifNo h hx rfl hd hs hc k) go
theorem Owe.icmpYes (h : At T m c below) (hx : tb.exec = Jvm.exec) {cd : ClassFile.Cond} {x y : Int32} {rest : List Value} {o : Int} {pc' : Nat}  (hd : decode c.code pc = .ok (.if_icmp cd o, 3)) (hs : st = .int y :: .int x :: rest) (hc : if_icmp.holds cd x y = true) (ho : 0 ≤ (pc : Int) + o) (hp : ((pc : Int) + o).toNat = pc') (go : Owe tb e below G T (mkF m pc' Ls rest)) : Owe tb e below G T (mkF m pc Ls st) := Owe.by (fun t k => XS.icmpYes h hx rfl rfl hd hs hc ho hp k) go
theorem Owe.icmpNo (h : At T m c below) (hx : tb.exec = Jvm.exec) {cd : ClassFile.Cond} {o : Int} {x y : Int32} {rest : List Value} (hd : decode c.code pc = .ok (.if_icmp cd o, 3)) (hs : st = .int y :: .int x :: rest) (hc : if_icmp.holds cd x y = false) (go : Owe tb e below G T (mkF m (pc + 3) Ls rest)) : Owe tb e below G T (mkF m pc Ls st) := Owe.by (fun t k => XS.icmpNo h hx rfl hd hs hc k) go
theorem Owe.ifnullYes (h : At T m c below) (hx : tb.exec = Jvm.exec) {rest : List Value} {o : Int} {pc' : Nat}  (hd : decode c.code pc = .ok (.ifnull o, 3)) (hs : st = .null :: rest) (ho : 0 ≤ (pc : Int) + o) (hp : ((pc : Int) + o).toNat = pc') (go : Owe tb e below G T (mkF m pc' Ls rest)) : Owe tb e below G T (mkF m pc Ls st) := Owe.by (fun t k => XS.ifnullYes h hx rfl rfl hd hs ho hp k) go
theorem Owe.ifnullNo (h : At T m c below) (hx : tb.exec = Jvm.exec) {o : Int} {b : Addr} {rest : List Value} (hd : decode c.code pc = .ok (.ifnull o, 3)) (hs : st = .ref b :: rest) (go : Owe tb e below G T (mkF m (pc + 3) Ls rest)) : Owe tb e below G T (mkF m pc Ls st) := Owe.by (fun t k => XS.ifnullNo h hx rfl hd hs k) go
theorem Owe.ifnonnullYes (h : At T m c below) (hx : tb.exec = Jvm.exec) {b : Addr} {rest : List Value} {o : Int} {pc' : Nat}  (hd : decode c.code pc = .ok (.ifnonnull o, 3)) (hs : st = .ref b :: rest) (ho : 0 ≤ (pc : Int) + o) (hp : ((pc : Int) + o).toNat = pc') (go : Owe tb e below G T (mkF m pc' Ls rest)) : Owe tb e below G T (mkF m pc Ls st) := Owe.by (fun t k => XS.ifnonnullYes h hx rfl rfl hd hs ho hp k) go
theorem Owe.ifnonnullNo (h : At T m c below) (hx : tb.exec = Jvm.exec) {o : Int} {rest : List Value} (hd : decode c.code pc = .ok (.ifnonnull o, 3)) (hs : st = .null :: rest) (go : Owe tb e below G T (mkF m (pc + 3) Ls rest)) : Owe tb e below G T (mkF m pc Ls st) := Owe.by (fun t k => XS.ifnonnullNo h hx rfl hd hs k) go
theorem Owe.acmpYes (h : At T m c below) (hx : tb.exec = Jvm.exec) {cd : ClassFile.ACond} {x y : Value} {rest : List Value} {o : Int} {pc' : Nat}  (hd : decode c.code pc = .ok (.if_acmp cd o, 3)) (hs : st = y :: x :: rest) (hx' : x.isRef = true) (hy' : y.isRef = true) (hc : Jvm.Free.XT.acmp cd x y = true) (ho : 0 ≤ (pc : Int) + o) (hp : ((pc : Int) + o).toNat = pc') (go : Owe tb e below G T (mkF m pc' Ls rest)) : Owe tb e below G T (mkF m pc Ls st) := Owe.by (fun t k => Jvm.Free.XT.acmpYes h hx rfl rfl hd hs hx' hy' hc ho hp k) go
theorem Owe.acmpNo (h : At T m c below) (hx : tb.exec = Jvm.exec) {cd : ClassFile.ACond} {o : Int} {x y : Value} {rest : List Value} (hd : decode c.code pc = .ok (.if_acmp cd o, 3)) (hs : st = y :: x :: rest) (hx' : x.isRef = true) (hy' : y.isRef = true) (hc : Jvm.Free.XT.acmp cd x y = false) (go : Owe tb e below G T (mkF m (pc + 3) Ls rest)) : Owe tb e below G T (mkF m pc Ls st) := Owe.by (fun t k => Jvm.Free.XT.acmpNo h hx rfl hd hs hx' hy' hc k) go
theorem Owe.ladd (h : At T m c below) (hx : tb.exec = Jvm.exec) {x : Int64} {y : Int64} {rest : List Value} (hd : decode c.code pc = .ok (.ladd, 1)) (hs : st = .long y :: .long x :: rest) (go : Owe tb e below G T (mkF m (pc + 1) Ls (.long (x + y) :: rest))) : Owe tb e below G T (mkF m pc Ls st) := Owe.by (fun t k => XS.ladd h hx rfl hd hs k) go
theorem Owe.lsub (h : At T m c below) (hx : tb.exec = Jvm.exec) {x : Int64} {y : Int64} {rest : List Value} (hd : decode c.code pc = .ok (.lsub, 1)) (hs : st = .long y :: .long x :: rest) (go : Owe tb e below G T (mkF m (pc + 1) Ls (.long (x - y) :: rest))) : Owe tb e below G T (mkF m pc Ls st) := Owe.by (fun t k => XS.lsub h hx rfl hd hs k) go
theorem Owe.lmul (h : At T m c below) (hx : tb.exec = Jvm.exec) {x : Int64} {y : Int64} {rest : List Value} (hd : decode c.code pc = .ok (.lmul, 1)) (hs : st = .long y :: .long x :: rest) (go : Owe tb e below G T (mkF m (pc + 1) Ls (.long (x * y) :: rest))) : Owe tb e below G T (mkF m pc Ls st) := Owe.by (fun t k => XS.lmul h hx rfl hd hs k) go
theorem Owe.land (h : At T m c below) (hx : tb.exec = Jvm.exec) {x : Int64} {y : Int64} {rest : List Value} (hd : decode c.code pc = .ok (.land, 1)) (hs : st = .long y :: .long x :: rest) (go : Owe tb e below G T (mkF m (pc + 1) Ls (.long (x &&& y) :: rest))) : Owe tb e below G T (mkF m pc Ls st) := Owe.by (fun t k => XS.land h hx rfl hd hs k) go
theorem Owe.lor (h : At T m c below) (hx : tb.exec = Jvm.exec) {x : Int64} {y : Int64} {rest : List Value} (hd : decode c.code pc = .ok (.lor, 1)) (hs : st = .long y :: .long x :: rest) (go : Owe tb e below G T (mkF m (pc + 1) Ls (.long (x ||| y) :: rest))) : Owe tb e below G T (mkF m pc Ls st) := Owe.by (fun t k => XS.lor h hx rfl hd hs k) go
theorem Owe.lxor (h : At T m c below) (hx : tb.exec = Jvm.exec) {x : Int64} {y : Int64} {rest : List Value} (hd : decode c.code pc = .ok (.lxor, 1)) (hs : st = .long y :: .long x :: rest) (go : Owe tb e below G T (mkF m (pc + 1) Ls (.long (x ^^^ y) :: rest))) : Owe tb e below G T (mkF m pc Ls st) := Owe.by (fun t k => XS.lxor h hx rfl hd hs k) go
theorem Owe.lshl (h : At T m c below) (hx : tb.exec = Jvm.exec) {x : Int64} {y : Int32} {rest : List Value} (hd : decode c.code pc = .ok (.lshl, 1)) (hs : st = .int y :: .long x :: rest) (go : Owe tb e below G T (mkF m (pc + 1) Ls (.long (x <<< (y &&& 0x3f).toInt64) :: rest))) : Owe tb e below G T (mkF m pc Ls st) := Owe.by (fun t k => XS.lshl h hx rfl hd hs k) go
theorem Owe.lshr (h : At T m c below) (hx : tb.exec = Jvm.exec) {x : Int64} {y : Int32} {rest : List Value} (hd : decode c.code pc = .ok (.lshr, 1)) (hs : st = .int y :: .long x :: rest) (go : Owe tb e below G T (mkF m (pc + 1) Ls (.long (x >>> (y &&& 0x3f).toInt64) :: rest))) : Owe tb e below G T (mkF m pc Ls st) := Owe.by (fun t k => XS.lshr h hx rfl hd hs k) go
theorem Owe.lushr (h : At T m c below) (hx : tb.exec = Jvm.exec) {x : Int64} {y : Int32} {rest : List Value} (hd : decode c.code pc = .ok (.lushr, 1)) (hs : st = .int y :: .long x :: rest) (go : Owe tb e below G T (mkF m (pc + 1) Ls (.long ((x.toUInt64 >>> (y &&& 0x3f).toInt64.toUInt64).toInt64) :: rest))) : Owe tb e below G T (mkF m pc Ls st) := Owe.by (fun t k => XS.lushr h hx rfl hd hs k) go
theorem Owe.lneg (h : At T m c below) (hx : tb.exec = Jvm.exec) {v : Int64} {rest : List Value} (hd : decode c.code pc = .ok (.lneg, 1)) (hs : st = .long v :: rest) (go : Owe tb e below G T (mkF m (pc + 1) Ls (.long (-v) :: rest))) : Owe tb e below G T (mkF m pc Ls st) := Owe.by (fun t k => XS.lneg h hx rfl hd hs k) go
theorem Owe.i2l (h : At T m c below) (hx : tb.exec = Jvm.exec) {v : Int32} {rest : List Value} (hd : decode c.code pc = .ok (.i2l, 1)) (hs : st = .int v :: rest) (go : Owe tb e below G T (mkF m (pc + 1) Ls (.long (v.toInt64) :: rest))) : Owe tb e below G T (mkF m pc Ls st) := Owe.by (fun t k => XS.i2l h hx rfl hd hs k) go
theorem Owe.l2i (h : At T m c below) (hx : tb.exec = Jvm.exec) {v : Int64} {rest : List Value} (hd : decode c.code pc = .ok (.l2i, 1)) (hs : st = .long v :: rest) (go : Owe tb e below G T (mkF m (pc + 1) Ls (.int (v.toInt32) :: rest))) : Owe tb e below G T (mkF m pc Ls st) := Owe.by (fun t k => XS.l2i h hx rfl hd hs k) go
theorem Owe.i2b (h : At T m c below) (hx : tb.exec = Jvm.exec) {v : Int32} {rest : List Value} (hd : decode c.code pc = .ok (.i2b, 1)) (hs : st = .int v :: rest) (go : Owe tb e below G T (mkF m (pc + 1) Ls (.int (v.toInt8.toInt32) :: rest))) : Owe tb e below G T (mkF m pc Ls st) := Owe.by (fun t k => XS.i2b h hx rfl hd hs k) go
theorem Owe.i2c (h : At T m c below) (hx : tb.exec = Jvm.exec) {v : Int32} {rest : List Value} (hd : decode c.code pc = .ok (.i2c, 1)) (hs : st = .int v :: rest) (go : Owe tb e below G T (mkF m (pc + 1) Ls (.int (v.toUInt32.toUInt16.toUInt32.toInt32) :: rest))) : Owe tb e below G T (mkF m pc Ls st) := Owe.by (fun t k => XS.i2c h hx rfl hd hs k) go
theorem Owe.i2s (h : At T m c below) (hx : tb.exec = Jvm.exec) {v : Int32} {rest : List Value} (hd : decode c.code pc = .ok (.i2s, 1)) (hs : st = .int v :: rest) (go : Owe tb e below G T (mkF m (pc + 1) Ls (.int (v.toInt16.toInt32) :: rest))) : Owe tb e below G T (mkF m pc Ls st) := Owe.by (fun t k => XS.i2s h hx rfl hd hs k) go
theorem Owe.lloadN (h : At T m c below) (hx : tb.exec = Jvm.exec) {k : Fin 4} {v : Int64} (hd : decode c.code pc = .ok (.lload_n k, 1)) (hl : Ls[k.val]? = some (.val (.long v))) (go : Owe tb e below G T (mkF m (pc + 1) Ls (.long v :: st))) : Owe tb e below G T (mkF m pc Ls st) := Owe.by (fun t k => XS.lloadN h hx rfl hd hl k) go
theorem Owe.lload (h : At T m c below) (hx : tb.exec = Jvm.exec) {k : Nat} {v : Int64} (hd : decode c.code pc = .ok (.lload k, 2)) (hl : Ls[k]? = some (.val (.long v))) (go : Owe tb e below G T (mkF m (pc + 2) Ls (.long v :: st))) : Owe tb e below G T (mkF m pc Ls st) := Owe.by (fun t k => XS.lload h hx rfl hd hl k) go
theorem Owe.lstoreN (h : At T m c below) (hx : tb.exec = Jvm.exec) {k : Fin 4} {x : Int64} {rest : List Value} {l' : Array Slot} (hd : decode c.code pc = .ok (.lstore_n k, 1)) (hs : st = .long x :: rest) (hl : storeLocals Ls k.val (.long x) = some l') (go : Owe tb e below G T (mkF m (pc + 1) l' rest)) : Owe tb e below G T (mkF m pc Ls st) := Owe.by (fun t k => XS.lstoreN h hx rfl hd hs hl k) go
theorem Owe.lstore (h : At T m c below) (hx : tb.exec = Jvm.exec) {k : Nat} {x : Int64} {rest : List Value} {l' : Array Slot} (hd : decode c.code pc = .ok (.lstore k, 2)) (hs : st = .long x :: rest) (hl : storeLocals Ls k (.long x) = some l') (go : Owe tb e below G T (mkF m (pc + 2) l' rest)) : Owe tb e below G T (mkF m pc Ls st) := Owe.by (fun t k => XS.lstore h hx rfl hd hs hl k) go
theorem Owe.lconst (h : At T m c below) (hx : tb.exec = Jvm.exec) {k : Fin 2} (hd : decode c.code pc = .ok (.lconst k, 1)) {w : Int64} (hw : (Int64.ofNat k) = w) (go : Owe tb e below G T (mkF m (pc + 1) Ls (.long w :: st))) : Owe tb e below G T (mkF m pc Ls st) := by subst hw; exact Owe.by (fun t k => XS.lconst h hx rfl hd k) go
theorem Owe.lcmp (h : At T m c below) (hx : tb.exec = Jvm.exec) {x y : Int64} {rest : List Value} (hd : decode c.code pc = .ok (.lcmp, 1)) (hs : st = .long y :: .long x :: rest) (go : Owe tb e below G T (mkF m (pc + 1) Ls (.int (lcmpW x y) :: rest))) : Owe tb e below G T (mkF m pc Ls st) := Owe.by (fun t k => XS.lcmp h hx rfl hd hs k) go
theorem Owe.tswIn (h : At T m c below) (hx : tb.exec = Jvm.exec) {dflt low high : Int} {offs : Array Int} {len : Nat} {o : Int} {pc' : Nat}  (hd : decode c.code pc = .ok (.tableswitch dflt low high offs, len)) {i : Int32} {rest : List Value} (hs : st = .int i :: rest) (hin : ¬ (i.toInt < low ∨ i.toInt > high)) (hoff : offs[(i.toInt - low).toNat]? = some o) (ho : 0 ≤ (pc : Int) + o) (hp : ((pc : Int) + o).toNat = pc') (go : Owe tb e below G T (mkF m pc' Ls rest)) : Owe tb e below G T (mkF m pc Ls st) := Owe.by (fun t k => XS.tswIn h hx rfl rfl hd hs hin hoff ho hp k) go
theorem Owe.tswOut (h : At T m c below) (hx : tb.exec = Jvm.exec) {dflt low high : Int} {offs : Array Int} {len : Nat} {pc' : Nat}  (hd : decode c.code pc = .ok (.tableswitch dflt low high offs, len)) {i : Int32} {rest : List Value} (hs : st = .int i :: rest) (hout : i.toInt < low ∨ i.toInt > high) (ho : 0 ≤ (pc : Int) + dflt) (hp : ((pc : Int) + dflt).toNat = pc') (go : Owe tb e below G T (mkF m pc' Ls rest)) : Owe tb e below G T (mkF m pc Ls st) := Owe.by (fun t k => XS.tswOut h hx rfl rfl hd hs hout ho hp k) go
theorem Owe.dload (h : At T m c below) (hx : tb.exec = Jvm.exec) {k : Nat} {v : UInt64} (hd : decode c.code pc = .ok (.dload k, 2)) (hl : Ls[k]? = some (.val (.double v))) (go : Owe tb e below G T (mkF m (pc + 2) Ls (.double v :: st))) : Owe tb e below G T (mkF m pc Ls st) := Owe.by (fun t k => XS.dload h hx rfl hd hl k) go
theorem Owe.dloadN (h : At T m c below) (hx : tb.exec = Jvm.exec) {k : Fin 4} {v : UInt64} (hd : decode c.code pc = .ok (.dload_n k, 1)) (hl : Ls[k.val]? = some (.val (.double v))) (go : Owe tb e below G T (mkF m (pc + 1) Ls (.double v :: st))) : Owe tb e below G T (mkF m pc Ls st) := Owe.by (fun t k => XS.dloadN h hx rfl hd hl k) go
theorem Owe.dstore (h : At T m c below) (hx : tb.exec = Jvm.exec) {k : Nat} {x : UInt64} {rest : List Value} {l' : Array Slot} (hd : decode c.code pc = .ok (.dstore k, 2)) (hs : st = .double x :: rest) (hl : storeLocals Ls k (.double x) = some l') (go : Owe tb e below G T (mkF m (pc + 2) l' rest)) : Owe tb e below G T (mkF m pc Ls st) := Owe.by (fun t k => XS.dstore h hx rfl hd hs hl k) go
theorem Owe.dstoreN (h : At T m c below) (hx : tb.exec = Jvm.exec) {k : Fin 4} {x : UInt64} {rest : List Value} {l' : Array Slot} (hd : decode c.code pc = .ok (.dstore_n k, 1)) (hs : st = .double x :: rest) (hl : storeLocals Ls k.val (.double x) = some l') (go : Owe tb e below G T (mkF m (pc + 1) l' rest)) : Owe tb e below G T (mkF m pc Ls st) := Owe.by (fun t k => XS.dstoreN h hx rfl hd hs hl k) go
theorem Owe.dconst0 (h : At T m c below) (hx : tb.exec = Jvm.exec) {v : UInt64} (hd : decode c.code pc = .ok (.dconst 0, 1)) (hv : FP.dconst0 = v) (go : Owe tb e below G T (mkF m (pc + 1) Ls (.double v :: st))) : Owe tb e below G T (mkF m pc Ls st) := Owe.by (fun t k => XS.dconst0 h hx rfl hd hv k) go
theorem Owe.dconst1 (h : At T m c below) (hx : tb.exec = Jvm.exec) {v : UInt64} (hd : decode c.code pc = .ok (.dconst 1, 1)) (hv : FP.dconst1 = v) (go : Owe tb e below G T (mkF m (pc + 1) Ls (.double v :: st))) : Owe tb e below G T (mkF m pc Ls st) := Owe.by (fun t k => XS.dconst1 h hx rfl hd hv k) go
theorem Owe.i2dS (h : At T m c below) (hx : tb.exec = Jvm.exec) {x : Int32} {v : UInt64} {rest : List Value} (hd : decode c.code pc = .ok (.i2d, 1)) (hs : st = .int x :: rest) (hv : FP.i2d x = v) (go : Owe tb e below G T (mkF m (pc + 1) Ls (.double v :: rest))) : Owe tb e below G T (mkF m pc Ls st) := Owe.by (fun t k => XS.i2dS h hx rfl hd hs hv k) go
theorem Owe.l2dS (h : At T m c below) (hx : tb.exec = Jvm.exec) {x : Int64} {v : UInt64} {rest : List Value} (hd : decode c.code pc = .ok (.l2d, 1)) (hs : st = .long x :: rest) (hv : FP.l2d x = v) (go : Owe tb e below G T (mkF m (pc + 1) Ls (.double v :: rest))) : Owe tb e below G T (mkF m pc Ls st) := Owe.by (fun t k => XS.l2dS h hx rfl hd hs hv k) go
theorem Owe.dcmpS (h : At T m c below) (hx : tb.exec = Jvm.exec) {o : CmpOp} {x y : UInt64} {v : Int32} {rest : List Value} (hd : decode c.code pc = .ok (.dcmp o, 1)) (hs : st = .double y :: .double x :: rest) (hv : cmpValue (FP.dcmp x y) o = v) (go : Owe tb e below G T (mkF m (pc + 1) Ls (.int v :: rest))) : Owe tb e below G T (mkF m pc Ls st) := Owe.by (fun t k => XS.dcmpS h hx rfl hd hs hv k) go
end Plain
section Heavy
variable {p : Program} {l : Launch} {e : Env} {R : Room} {s : State} {m : MethodId} {args : Array Value} {below : List Frame} {meth : Method} {c : Code} {T : State} {locs : List Loc} {cells slots : Nat} {Z : State} {a0 : Array Value} {h : Heap} {G : Outcome → State → Prop} {pc : Nat} {Ls : Array Slot} {st : List Value}
theorem Owe.ldcI (X : Stand p l e R s m args below meth c T locs cells slots) (hx : p.tables.exec = Jvm.exec) {own : String} {index : Nat} {v : Int32} (hown : s.vm.findClass own = some m.cls) (w : (Cond.constant own index v).before args s = true) (hd : decode c.code pc = .ok (.ldc index, 2)) (go : Owe p.tables e below G T (mkF m (pc + 2) Ls (.int v :: st))) : Owe p.tables e below G T (mkF m pc Ls st) :=
  Owe.by (X.ldcInt hx hown w (g := mkF m pc Ls st) rfl hd) go
theorem Owe.new (X : Stand p l e R s m args below meth c T locs cells slots) (hx : p.tables.exec = Jvm.exec) (hZ : Z.Warmed39 s.vm) {own C : String} {index n : Nat} (hown : s.vm.findClass own = some m.cls) (w : (Cond.classLink own index C).before a0 Z = true) (wi : (Cond.instantiable C n).before a0 Z = true) (wz : (Cond.initialized C).before a0 Z = true) (eT : T.heap = h) (hd : decode c.code pc = .ok (.new index, 3)) (hc : cells + 1 ≤ R.cells) (hl : slots + n ≤ R.slots)
    (go : ∀ (T' : State) (h' : Heap) (a : Addr), a = h.size → Stand p l e R s m args below meth c T' locs (cells + 1) (slots + n) → T'.heap = h' → Ext h h' → Exa Z h' a C → (∀ {O nm d : String} {ty : FieldType}, Laid Z a0 C O nm d → parseFieldDescriptor d = some ty → Fld Z h' a O nm d (defaultValue ty)) → Owe p.tables e below G T' (mkF m (pc + 3) Ls (.ref a :: st))) : Owe p.tables e below G T (mkF m pc Ls st) := by
  obtain ⟨T', h', X', e', E', A', D', -, st'⟩ := newO X hx hZ hown w wi wz eT (g := mkF m pc Ls st) rfl hd hc hl
  exact Owe.by st' (go T' h' _ rfl X' e' E' A' D')
theorem Owe.newarr (X : Stand p l e R s m args below meth c T locs cells slots) (hx : p.tables.exec = Jvm.exec) (hZ : Z.Warmed39 s.vm) {aty : ArrayType} (w : (Cond.arrayClass (newarray.typeOf aty)).before a0 Z = true) (eT : T.heap = h) (hd : decode c.code pc = .ok (.newarray aty, 2)) {n : Int32} {rest : List Value} (hs : st = .int n :: rest) (hn : ¬ n < 0) {cap : Nat} (hcap : n.toNatClampNeg ≤ cap) (hb : cap * 8 ≤ 536870912) (hc : cells + 1 ≤ R.cells) (hl : slots + cap ≤ R.slots)
    (go : ∀ (T' : State) (h' : Heap) (a : Addr) (k : ClassId), a = h.size → Stand p l e R s m args below meth c T' locs (cells + 1) (slots + cap) → T'.heap = h' → Ext h h' → Arv Z h' a k (newarray.typeOf aty) n [] (defaultValue (newarray.typeOf aty)) → Owe p.tables e below G T' (mkF m (pc + 2) Ls (.ref a :: rest))) : Owe p.tables e below G T (mkF m pc Ls st) := by
  obtain ⟨T', h', k, X', e', E', A', st'⟩ := newP X hx hZ w eT (g := mkF m pc Ls st) rfl hd hs hn hcap hb hc hl
  exact Owe.by st' (go T' h' _ k rfl X' e' E' (Arv.new A' hn))
theorem Owe.castore (X : Stand p l e R s m args below meth c T locs cells slots) (hx : p.tables.exec = Jvm.exec) (hZ : Z.Warmed39 s.vm) (eT : T.heap = h) {a : Addr} {k : ClassId} {n : Int32} {vs : List Value} {dv : Value} (V : Arv Z h a k .char n vs dv) {j x : Int32} (i : Nat) (hj : j.toNatClampNeg = i) (hi : i < vs.length) (hin : ¬ j < 0 ∧ j < n) (hd : decode c.code pc = .ok (.castore, 1)) {rest : List Value} (hs : st = .int x :: .int j :: .ref a :: rest)
    (go : ∀ (T' : State) (h' : Heap), Stand p l e R s m args below meth c T' (locs ++ [⟨a, j.toNatClampNeg⟩]) cells slots → T'.heap = h' → Wr h h' a j.toNatClampNeg (.int (nar .char x)) → Arv Z h' a k .char n (vs.set i (.int (nar .char x))) dv → Owe p.tables e below G T' (mkF m (pc + 1) Ls rest)) : Owe p.tables e below G T (mkF m pc Ls st) := by
  obtain ⟨cl, A, q, S, M, H, U⟩ := V
  obtain ⟨T', h', X', e', W', st'⟩ := stC X hx hZ eT A (j := j) (inb_of S hin) (g := mkF m pc Ls st) rfl hs hd
  exact Owe.by st' (go T' h' X' e' W' (Arv.set A q S M H U (fits_nar_char _) W' i hj hi))
theorem Owe.bastore (X : Stand p l e R s m args below meth c T locs cells slots) (hx : p.tables.exec = Jvm.exec) (hZ : Z.Warmed39 s.vm) (eT : T.heap = h) {a : Addr} {k : ClassId} {n : Int32} {vs : List Value} {dv : Value} (V : Arv Z h a k .byte n vs dv) {j x : Int32} (i : Nat) (hj : j.toNatClampNeg = i) (hi : i < vs.length) (hin : ¬ j < 0 ∧ j < n) (hd : decode c.code pc = .ok (.bastore, 1)) {rest : List Value} (hs : st = .int x :: .int j :: .ref a :: rest)
    (go : ∀ (T' : State) (h' : Heap), Stand p l e R s m args below meth c T' (locs ++ [⟨a, j.toNatClampNeg⟩]) cells slots → T'.heap = h' → Wr h h' a j.toNatClampNeg (.int (x.toInt8.toInt32)) → Arv Z h' a k .byte n (vs.set i (.int (x.toInt8.toInt32))) dv → Owe p.tables e below G T' (mkF m (pc + 1) Ls rest)) : Owe p.tables e below G T (mkF m pc Ls st) := by
  obtain ⟨cl, A, q, S, M, H, U⟩ := V
  obtain ⟨T', h', X', e', W', st'⟩ := stB X hx hZ eT A (j := j) (inb_of S hin) (g := mkF m pc Ls st) rfl hs hd
  exact Owe.by st' (go T' h' X' e' W' (Arv.set A q S M H U (fits_nar_byte _) W' i hj hi))
theorem Owe.caload (X : Stand p l e R s m args below meth c T locs cells slots) (hx : p.tables.exec = Jvm.exec) (hZ : Z.Warmed39 s.vm) (eT : T.heap = h) {a : Addr} {k : ClassId} {n : Int32} {vs : List Value} {dv : Value} (V : Arv Z h a k .char n vs dv) {j : Int32} {v : Value} (hin : ¬ j < 0 ∧ j < n) (hv : vs.getD j.toNatClampNeg dv = v) (hd : decode c.code pc = .ok (.caload, 1)) {rest : List Value} (hs : st = .int j :: .ref a :: rest)
    (go : Owe p.tables e below G T (mkF m (pc + 1) Ls (v :: rest))) : Owe p.tables e below G T (mkF m pc Ls st) := by
  obtain ⟨cl, A, q, S, M, H, U⟩ := V
  exact Owe.by (fun t k => X.caload hx (by rw [eT]; exact A.1) (State.isArrayOf_alike hZ.alike A.2.1) A.2.2 (inb_of S hin) (H.at (inb_of S hin) hv) (g := mkF m pc Ls st) rfl hs hd t k) go
theorem Owe.baload (X : Stand p l e R s m args below meth c T locs cells slots) (hx : p.tables.exec = Jvm.exec) (hZ : Z.Warmed39 s.vm) (eT : T.heap = h) {a : Addr} {k : ClassId} {n : Int32} {vs : List Value} {dv : Value} (V : Arv Z h a k .byte n vs dv) {j : Int32} {v : Value} (hin : ¬ j < 0 ∧ j < n) (hv : vs.getD j.toNatClampNeg dv = v) (hd : decode c.code pc = .ok (.baload, 1)) {rest : List Value} (hs : st = .int j :: .ref a :: rest)
    (go : Owe p.tables e below G T (mkF m (pc + 1) Ls (v :: rest))) : Owe p.tables e below G T (mkF m pc Ls st) := by
  obtain ⟨cl, A, q, S, M, H, U⟩ := V
  exact Owe.by (fun t k => X.baloadBytes hx (by rw [eT]; exact A.1) (State.isArrayOf_alike hZ.alike A.2.1) A.2.2 (inb_of S hin) (H.at (inb_of S hin) hv) (g := mkF m pc Ls st) rfl hs hd t k) go
theorem Owe.arrlen (X : Stand p l e R s m args below meth c T locs cells slots) (hx : p.tables.exec = Jvm.exec) (hZ : Z.Warmed39 s.vm) (eT : T.heap = h) {a : Addr} {k : ClassId} {ty : FieldType} {n : Int32} {vs : List Value} {dv : Value} (V : Arv Z h a k ty n vs dv) (hd : decode c.code pc = .ok (.arraylength, 1)) {rest : List Value} (hs : st = .ref a :: rest)
    (go : Owe p.tables e below G T (mkF m (pc + 1) Ls (.int n :: rest))) : Owe p.tables e below G T (mkF m pc Ls st) := by
  obtain ⟨cl, A, q, S, M, H, U⟩ := V
  refine Owe.by (fun t k => X.arraylength hx (by rw [eT]; exact A.1) (State.isArrayOf_alike hZ.alike A.2.1) (g := mkF m pc Ls st) rfl hs hd t ?_) go
  rw [len_of S M]; exact k
theorem Owe.getf (X : Stand p l e R s m args below meth c T locs cells slots) (hx : p.tables.exec = Jvm.exec) (hZ : Z.Warmed39 s.vm) {own R0 O n d host : String} {index : Nat} (hown : s.vm.findClass own = some m.cls) (w : (Cond.fieldLink own index R0 n d).before a0 Z = true ∨ (Cond.fieldLinkNest own index R0 n d host).before a0 Z = true) (via : Via Z R0 O n d) (eT : T.heap = h) {a : Addr} {v : Value} (F : Fld Z h a O n d v) (hd : decode c.code pc = .ok (.getfield index, 3)) {rest : List Value} (hs : st = .ref a :: rest)
    (go : ∀ T' : State, Stand p l e R s m args below meth c T' locs cells slots → T'.heap = h → Owe p.tables e below G T' (mkF m (pc + 3) Ls (v :: rest))) : Owe p.tables e below G T (mkF m pc Ls st) := by
  obtain ⟨T', X', e', st'⟩ := getF X hx hZ hown w via eT F (g := mkF m pc Ls st) rfl hs hd
  exact Owe.by st' (go T' X' e')
theorem Owe.gets (X : Stand p l e R s m args below meth c T locs cells slots) (hx : p.tables.exec = Jvm.exec) (hZ : Z.Warmed39 s.vm) {own R0 O n d : String} {index : Nat} (hown : s.vm.findClass own = some m.cls) (w : (Cond.fieldLink own index R0 n d).before a0 Z = true) (via : Via Z R0 O n d) (eT : T.heap = h) {v : Value} (F : Sta Z h O n d v) (hd : decode c.code pc = .ok (.getstatic index, 3))
    (go : ∀ T' : State, Stand p l e R s m args below meth c T' locs cells slots → T'.heap = h → Owe p.tables e below G T' (mkF m (pc + 3) Ls (v :: st))) : Owe p.tables e below G T (mkF m pc Ls st) := by
  obtain ⟨T', X', e', st'⟩ := getS X hx hZ (host := "") hown w via eT F (g := mkF m pc Ls st) rfl hd
  exact Owe.by st' (go T' X' e')
theorem Owe.putf (X : Stand p l e R s m args below meth c T locs cells slots) (hx : p.tables.exec = Jvm.exec) (hZ : Z.Warmed39 s.vm) {own R0 O n d host C : String} {index kk : Nat} {ty : FieldType} (hown : s.vm.findClass own = some m.cls) (w : (Cond.fieldLink own index R0 n d).before a0 Z = true ∨ (Cond.fieldLinkNest own index R0 n d host).before a0 Z = true) (via : Via Z R0 O n d) (eT : T.heap = h) {a : Addr} {v old : Value} (F : Fld Z h a O n d old) (E : Exa Z h a C)
    (L : (Cond.lays C O n d).before a0 Z = true ∨ ((Cond.laysFinal C O n d).before a0 Z = true ∧ own = O ∧ meth.name = "<init>")) (wi : (Cond.instantiable C kk).before a0 Z = true) (hty : parseFieldDescriptor d = some ty) (hn : narrow ty v = v) (hf : fits ty v = true) (hd : decode c.code pc = .ok (.putfield index, 3)) {rest : List Value} (hs : st = v :: .ref a :: rest)
    (go : ∀ (T' : State) (h' : Heap), Stand p l e R s m args below meth c T' (locs ++ [⟨a, Jvm.RoadKit.slotOf Z O n d⟩]) cells slots → T'.heap = h' → Wr h h' a (Jvm.RoadKit.slotOf Z O n d) v → Owe p.tables e below G T' (mkF m (pc + 3) Ls rest)) : Owe p.tables e below G T (mkF m pc Ls st) := by
  obtain ⟨T', h', X', e', W', st'⟩ := putF X hx hZ hown w via eT F E L wi hty hn hf (g := mkF m pc Ls st) rfl hs hd
  exact Owe.by st' (go T' h' X' e' W')
theorem Owe.objinit (X : Stand p l e R s m args below meth c T locs cells slots) (hx : p.tables.exec = Jvm.exec) (hZ : Z.Warmed39 s.vm) {own : String} {idx : Nat} (hown : s.vm.findClass own = some m.cls) (w1 : (Cond.methodLink own idx Lib.objectInit).before a0 Z = true) (w2 : (Cond.instanceMethod Lib.objectInit).before a0 Z = true) (w3 : (Cond.code Lib.objectInit ⟨#[0xb1]⟩ 1 none).before a0 Z = true) (eT : T.heap = h) (hsize : Ls.size = c.maxLocals) {a : Addr} {rest : List Value} (hs : st = .ref a :: rest) (hd : decode c.code pc = .ok (.invokespecial idx, 3)) (hf : 1 ≤ R.frames) {W : Nat} (hW : (rest.map fun v => v.category).sum ≤ W) (hl : W + 12 ≤ R.locals)
    (go : ∀ T' : State, Stand p l e R s m args below meth c T' locs cells slots → T'.heap = h → Owe p.tables e below G T' (mkF m (pc + 3) Ls rest)) : Owe p.tables e below G T (mkF m pc Ls st) := by
  obtain ⟨T', X', e', st'⟩ := initO X hx hZ hown w1 w2 w3 eT (g := mkF m pc Ls st) rfl hsize hs hd hf (W := W) (by show 2 * 0 + _ ≤ W; omega) hl
  exact Owe.by st' (go T' X' e')
theorem Owe.castY (X : Stand p l e R s m args below meth c T locs cells slots) (hx : p.tables.exec = Jvm.exec) (hZ : Z.Warmed39 s.vm) {own K : String} {index : Nat} (hown : s.vm.findClass own = some m.cls) (w : (Cond.classLink own index K).before a0 Z = true) (eT : T.heap = h) {a : Addr} (F : Ins Z h a K true) (hd : decode c.code pc = .ok (.checkcast index, 3)) {rest : List Value} (hs : st = .ref a :: rest)
    (go : ∀ T' : State, Stand p l e R s m args below meth c T' locs cells slots → T'.heap = h → Owe p.tables e below G T' (mkF m (pc + 3) Ls st)) : Owe p.tables e below G T (mkF m pc Ls st) := by
  obtain ⟨T', X', e', st'⟩ := Jvm.RoadKit.castY X hx hZ hown w eT F (g := mkF m pc Ls st) rfl hs hd
  exact Owe.by st' (go T' X' e')
theorem Owe.instY (X : Stand p l e R s m args below meth c T locs cells slots) (hx : p.tables.exec = Jvm.exec) (hZ : Z.Warmed39 s.vm) {own K : String} {index : Nat} (hown : s.vm.findClass own = some m.cls) (w : (Cond.classLink own index K).before a0 Z = true) (eT : T.heap = h) {a : Addr} (F : Ins Z h a K true) (hd : decode c.code pc = .ok (.instanceof index, 3)) {rest : List Value} (hs : st = .ref a :: rest)
    (go : ∀ T' : State, Stand p l e R s m args below meth c T' locs cells slots → T'.heap = h → Owe p.tables e below G T' (mkF m (pc + 3) Ls (.int 1 :: rest))) : Owe p.tables e below G T (mkF m pc Ls st) := by
  obtain ⟨T', X', e', st'⟩ := Jvm.RoadKit.instY X hx hZ hown w eT F (g := mkF m pc Ls st) rfl hs hd
  exact Owe.by st' (go T' X' e')
theorem Owe.instNo (X : Stand p l e R s m args below meth c T locs cells slots) (hx : p.tables.exec = Jvm.exec) (hZ : Z.Warmed39 s.vm) {own K C : String} {index : Nat} (hown : s.vm.findClass own = some m.cls) (w : (Cond.classLink own index K).before a0 Z = true) (eT : T.heap = h) {a : Addr} (E : Exa Z h a C) (F : ∃ c t, Z.vm.findClass C = some c ∧ Z.vm.findClass K = some t ∧ Z.vm.assignable c t = false) (hd : decode c.code pc = .ok (.instanceof index, 3)) {rest : List Value} (hs : st = .ref a :: rest)
    (go : ∀ T' : State, Stand p l e R s m args below meth c T' locs cells slots → T'.heap = h → Owe p.tables e below G T' (mkF m (pc + 3) Ls (.int 0 :: rest))) : Owe p.tables e below G T (mkF m pc Ls st) := by
  obtain ⟨T', X', e', st'⟩ := Jvm.RoadKit.instNo X hx hZ hown w eT E F (g := mkF m pc Ls st) rfl hs hd
  exact Owe.by st' (go T' X' e')
theorem Owe.instNull (X : Stand p l e R s m args below meth c T locs cells slots) (hx : p.tables.exec = Jvm.exec) {index : Nat} (hd : decode c.code pc = .ok (.instanceof index, 3)) {rest : List Value} (hs : st = .null :: rest) (go : Owe p.tables e below G T (mkF m (pc + 3) Ls (.int 0 :: rest))) : Owe p.tables e below G T (mkF m pc Ls st) :=
  Owe.by (Jvm.Stand.instanceofNull X hx (g := mkF m pc Ls st) rfl hs hd) go
theorem Owe.aaload (X : Stand p l e R s m args below meth c T locs cells slots) (hx : p.tables.exec = Jvm.exec) (hZ : Z.Warmed39 s.vm) (eT : T.heap = h) {a : Addr} {cl : Cell} {ty : FieldType} (A : Jvm.RoadKit.Arr Z h a cl ty) (hty : ty.isReference = true) {j : Int32} {v : Value} (hin : ¬ (j < 0 ∨ cl.slots.size ≤ j.toNatClampNeg)) (hv : cl.slots[j.toNatClampNeg]? = some v) (hd : decode c.code pc = .ok (.aaload, 1)) {rest : List Value} (hs : st = .int j :: .ref a :: rest)
    (go : Owe p.tables e below G T (mkF m (pc + 1) Ls (v :: rest))) : Owe p.tables e below G T (mkF m pc Ls st) :=
  Owe.by (fun t k => X.aaload hx (by rw [eT]; exact A.1) (State.isArrayOf_alike hZ.alike A.2.1) hty A.2.2 hin hv (g := mkF m pc Ls st) rfl hs hd t k) go
theorem Owe.aaloadV (X : Stand p l e R s m args below meth c T locs cells slots) (hx : p.tables.exec = Jvm.exec) (hZ : Z.Warmed39 s.vm) (eT : T.heap = h) {a : Addr} {k : ClassId} {ty : FieldType} {n : Int32} {vs : List Value} {dv : Value} (V : Arv Z h a k ty n vs dv) (hty : ty.isReference = true) {j : Int32} {v : Value} (hin : ¬ j < 0 ∧ j < n) (hv : vs.getD j.toNatClampNeg dv = v) (hd : decode c.code pc = .ok (.aaload, 1)) {rest : List Value} (hs : st = .int j :: .ref a :: rest)
    (go : Owe p.tables e below G T (mkF m (pc + 1) Ls (v :: rest))) : Owe p.tables e below G T (mkF m pc Ls st) := by
  obtain ⟨cl, A, q, S, M, H, U⟩ := V
  exact Owe.aaload X hx hZ eT A hty (inb_of S hin) (H.at (inb_of S hin) hv) hd hs go
theorem Owe.ldc2L (X : Stand p l e R s m args below meth c T locs cells slots) (hx : p.tables.exec = Jvm.exec) {own : String} {index : Nat} {v : Int64} (hown : s.vm.findClass own = some m.cls) (w : (Cond.constantLong own index v).before args s = true) (hd : decode c.code pc = .ok (.ldc2_w index, 3)) (go : Owe p.tables e below G T (mkF m (pc + 3) Ls (.long v :: st))) : Owe p.tables e below G T (mkF m pc Ls st) :=
  Owe.by (X.ldc2Long hx hown w (g := mkF m pc Ls st) rfl hd) go
theorem Owe.clone (X : Stand p l e R s m args below meth c T locs cells slots) (hx : p.tables.exec = Jvm.exec) (hZ : Z.Warmed39 s.vm) {own ad : String} {index : Nat} (hown : s.vm.findClass own = some m.cls) (w1 : (Cond.methodLink own index ⟨ad, "clone", "()Ljava/lang/Object;"⟩).before a0 Z = true) (w2 : (Cond.sameMethod ad "java/lang/Object" "clone" "()Ljava/lang/Object;").before a0 Z = true) (w3 : (Cond.native ⟨"java/lang/Object", "clone", "()Ljava/lang/Object;"⟩).before a0 Z = true)
    (w4 : (Cond.instanceMethod ⟨"java/lang/Object", "clone", "()Ljava/lang/Object;"⟩).before a0 Z = true) (w5 : (Cond.selects ad ⟨ad, "clone", "()Ljava/lang/Object;"⟩ ⟨"java/lang/Object", "clone", "()Ljava/lang/Object;"⟩).before a0 Z = true) (w6 : (Cond.castable ad "java/lang/Cloneable").before a0 Z = true)
    (eT : T.heap = h) {a : Addr} {k : ClassId} {ty : FieldType} {n : Int32} {vs : List Value} {dv : Value} (V : Arv Z h a k ty n vs dv) (E : Exa Z h a ad) (hsize : Ls.size = c.maxLocals) {rest : List Value} (hs : st = .ref a :: rest) (hd : decode c.code pc = .ok (.invokevirtual index, 3))
    (hf : 1 ≤ R.frames) {W cap : Nat} (hW : (rest.map fun v => v.category).sum ≤ W) (hl : W + 14 ≤ R.locals) (hcap : n.toNatClampNeg ≤ cap) (hc : cells + 1 ≤ R.cells) (hsl : slots + cap ≤ R.slots)
    (go : ∀ (T' : State) (h' : Heap) (b : Addr), b = h.size → Stand p l e R s m args below meth c T' locs (cells + 1) (slots + cap) → T'.heap = h' → Ext h h' → Arv Z h' b k ty n vs dv → Exa Z h' b ad → Owe p.tables e below G T' (mkF m (pc + 3) Ls (.ref b :: rest))) : Owe p.tables e below G T (mkF m pc Ls st) := by
  obtain ⟨T', h', X', e', E', A', B', st'⟩ := cloneH X hx hZ hown w1 w2 w3 w4 w5 w6 eT V.arh E (g := mkF m pc Ls st) rfl hsize hs hd hf (W := W) (by show 2 * 0 + _ ≤ W; omega) hl hcap hc hsl
  exact Owe.by st' (go T' h' _ rfl X' e' E' A' B')
/-! calls by a contract in the Back form of 'backOf' and of the pasted String laws -/
variable {y z : MethodName} {as' : Array Value} {Q : Option Value → Heap → List Loc → Prop} {W kc ks : Nat}
theorem Owe.special (X : Stand p l e R s m args below meth c T locs cells slots) (hx : p.tables.exec = Jvm.exec) {own : String} {index : Nat} (hy1 : y.name = "<init>") (hown : s.vm.findClass own = some m.cls) (hlink : (Cond.methodLink own index y).before args s = true) (hinst : (Cond.instanceMethod y).before args s = true) {bytes : ByteArray} {maxL : Nat} (hcode : (Cond.code y bytes maxL none).before args s = true) (hy : y.cls ≠ "java/lang/invoke/MethodHandle" ∧ y.cls ≠ "java/lang/invoke/VarHandle")
    (hK : Back l R p e below s args y 3 W (fun A a => a = as' ∧ A.U.heap = h ∧ A.cells + kc ≤ R.cells ∧ A.slots + ks ≤ R.slots) (fun A _ v B => ∃ L, Q v B.U.heap L ∧ B.locs = A.locs ++ L ∧ B.cells = A.cells + kc ∧ B.slots = A.slots + ks))
    (hsize : Ls.size = c.maxLocals) {a : Addr} {argsL rest : List Value} (hlen : ∀ sig, parseMethodDescriptor y.desc = some sig → argsL.length = sig.parameters.length) (hs : st = argsL.reverse ++ .ref a :: rest) (hW : (rest.map fun v => v.category).sum ≤ W) (hd : decode c.code pc = .ok (.invokespecial index, 3))
    (has : (.ref a :: argsL).toArray = as') (eT : T.heap = h) (hc : cells + kc ≤ R.cells) (hl : slots + ks ≤ R.slots)
    (go : ∀ (T' : State) (v : Option Value) (L : List Loc), Stand p l e R s m args below meth c T' (locs ++ L) (cells + kc) (slots + ks) → Q v T'.heap L → Owe p.tables e below G T' (mkF m (pc + 3) Ls (v.toList ++ rest))) : Owe p.tables e below G T (mkF m pc Ls st) := by
  obtain ⟨v, _, ⟨T', L', k', n'⟩, -, X', ⟨L, hQ, l', y', z'⟩, st'⟩ := X.specialBack hx hy1 hown hlink hinst hcode hy hK (g := mkF m pc Ls st) rfl hsize (Steps.refl _) hlen hs (by show 2 * 0 + _ ≤ W; omega) hd (fun _ _ => ⟨has, eT, hc, hl⟩)
  dsimp only [Pt.U, Pt.locs, Pt.cells, Pt.slots] at X' l' y' z' st' hQ
  subst l' y' z'
  exact Owe.by (fun t k => st'.trans k) (go T' v L X' hQ)
theorem Owe.specialRef (X : Stand p l e R s m args below meth c T locs cells slots) (hx : p.tables.exec = Jvm.exec) (hZ : Z.Warmed39 s.vm) {own : String} {index : Nat} (hy1 : y.name = "<init>") (hown : s.vm.findClass own = some m.cls) (href : (Cond.methodRef own index y).before a0 Z = true) (hinst : (Cond.instanceMethod y).before a0 Z = true) {bytes : ByteArray} {maxL : Nat} (hcode : (Cond.code y bytes maxL none).before a0 Z = true) (hy : y.cls ≠ "java/lang/invoke/MethodHandle" ∧ y.cls ≠ "java/lang/invoke/VarHandle")
    (hK : Back l R p e below s args y 3 W (fun A a => a = as' ∧ A.U.heap = h ∧ A.cells + kc ≤ R.cells ∧ A.slots + ks ≤ R.slots) (fun A _ v B => ∃ L, Q v B.U.heap L ∧ B.locs = A.locs ++ L ∧ B.cells = A.cells + kc ∧ B.slots = A.slots + ks))
    (hsize : Ls.size = c.maxLocals) {a : Addr} {argsL rest : List Value} (hlen : ∀ sig, parseMethodDescriptor y.desc = some sig → argsL.length = sig.parameters.length) (hs : st = argsL.reverse ++ .ref a :: rest) (hW : (rest.map fun v => v.category).sum ≤ W) (hd : decode c.code pc = .ok (.invokespecial index, 3))
    (has : (.ref a :: argsL).toArray = as') (eT : T.heap = h) (hc : cells + kc ≤ R.cells) (hl : slots + ks ≤ R.slots)
    (go : ∀ (T' : State) (v : Option Value) (L : List Loc), Stand p l e R s m args below meth c T' (locs ++ L) (cells + kc) (slots + ks) → Q v T'.heap L → Owe p.tables e below G T' (mkF m (pc + 3) Ls (v.toList ++ rest))) : Owe p.tables e below G T (mkF m pc Ls st) := by
  have hU : Z.Warmed39 T.vm := wtrans hZ X.warmed
  obtain ⟨obj, methO, hnO, hmO, hstO, habO⟩ := Cond.instanceMethod_spec hinst
  obtain ⟨methO', cO, hmO', hcO, hbO, hlO, -, hlockO, -, hsigO⟩ := Cond.code_spec hnO hcode
  cases hmO.symm.trans hmO'
  obtain ⟨kO, hkO, hnameO⟩ := className_of_methodNamed hnO
  obtain ⟨hnameMO, hdescO⟩ := name_of_methodNamed hnO hmO
  have href' := Cond.methodRef_warmed39 (vm' := T.vm) hU hnO hy href
  have hownT : (Z.setVm T.vm).vm.findClass own = some m.cls := by show T.vm.findClass own = _; rw [X.warmed.alike.findClass]; exact hown
  have hnT : (Z.setVm T.vm).methodNamed? y = some obj := by rw [State.methodNamed?_setVm hU.alike]; exact hnO
  obtain ⟨m', c', hf, hready, hfind, hnr⟩ := Cond.methodRef_named e hownT href'
  have hfo := State.methodFound?_of_named hnT hy
  cases hfo.symm.trans hf
  cases (findClass_of_methodNamed hnT).symm.trans hfind
  obtain ⟨kO₂, hkO₂, heO₂⟩ := hU.alike.2.2 _ _ hkO
  have hmO₂ : T.vm.method? obj = some methO := by rw [hU.alike.method?]; exact hmO
  have hfound : lookupSpecial T.vm obj.cls "<init>" methO.desc = .method obj := by
    rw [hU.alike.lookupSpecial, hdescO, ← hy1]; exact lookupSpecial_of_named hnO hmO hstO
  obtain ⟨v, ⟨T', L', k', n'⟩, X', ⟨L, hQ, l', y', z'⟩, st'⟩ := hK m meth c ⟨T, locs, cells, slots⟩ (mkF m pc Ls rest) (.invokespecial index) obj (.ref a :: argsL).toArray X rfl hsize hd (by show 2 * 0 + (rest.map fun v => v.category).sum ≤ W; omega) hnT ⟨has, eT, hc, hl⟩
  dsimp only [Pt.U, Pt.locs, Pt.cells, Pt.slots] at X' l' y' z' st' hQ
  subst l' y' z'
  refine Owe.by (fun t k => ?_) (go T' v L X' hQ)
  have hstep : ∀ target, (∀ acts, Steps p.tables e below (doInvoke e (T.setTop (mkF m pc Ls rest)) acts obj (.ref a :: argsL).toArray).1 target) → Steps p.tables e below (T.setTop (mkF m pc Ls st)) target := fun target hrest => by
    jvm_step X.here [hx, hd, invokespecial.wp_init (e := e) (s := T) (k := kO₂) (meth := methO) (m := obj) (a := a) (args := argsL) (rest := rest) (f := mkF m pc Ls st)
      X.here.top hnr hready hkO₂ hmO₂ (by rw [hnameMO]; exact hy1) hstO habO hfound (hlen _ hsigO) hs]
    exact hrest
  exact hstep _ fun acts => by rw [doInvoke_state]; exact st'.trans k
theorem Owe.virt (X : Stand p l e R s m args below meth c T locs cells slots) (hx : p.tables.exec = Jvm.exec) (hZ : Z.Warmed39 s.vm) {own C : String} {index : Nat} (hown : s.vm.findClass own = some m.cls) (hlink : (Cond.methodLink own index y).before args s = true) (hdecl : (Cond.declares y).before args s = true) (hsel : (Cond.selects C y z).before args s = true) (hinst : (Cond.instanceMethod z).before args s = true) (hnf : NotFace s y) (hy : y.cls ≠ "java/lang/invoke/MethodHandle" ∧ y.cls ≠ "java/lang/invoke/VarHandle")
    (hK : Back l R p e below s args z 3 W (fun A a => a = as' ∧ A.U.heap = h ∧ A.cells + kc ≤ R.cells ∧ A.slots + ks ≤ R.slots) (fun A _ v B => ∃ L, Q v B.U.heap L ∧ B.locs = A.locs ++ L ∧ B.cells = A.cells + kc ∧ B.slots = A.slots + ks))
    (hsize : Ls.size = c.maxLocals) {a : Addr} {argsL rest : List Value} (E : Exa Z h a C) (hlen : ∀ sig, parseMethodDescriptor y.desc = some sig → argsL.length = sig.parameters.length) (hs : st = argsL.reverse ++ .ref a :: rest) (hW : (rest.map fun v => v.category).sum ≤ W) (hd : decode c.code pc = .ok (.invokevirtual index, 3))
    (has : (.ref a :: argsL).toArray = as') (eT : T.heap = h) (hc : cells + kc ≤ R.cells) (hl : slots + ks ≤ R.slots)
    (go : ∀ (T' : State) (v : Option Value) (L : List Loc), Stand p l e R s m args below meth c T' (locs ++ L) (cells + kc) (slots + ks) → Q v T'.heap L → Owe p.tables e below G T' (mkF m (pc + 3) Ls (v.toList ++ rest))) : Owe p.tables e below G T (mkF m pc Ls st) := by
  obtain ⟨cq, kq, qa, qb, qc⟩ := isOf hZ eT E
  obtain ⟨v, _, ⟨T', L', k', n'⟩, -, X', ⟨L, hQ, l', y', z'⟩, st'⟩ := X.virtualBack hx hown hlink hdecl hnf hsel hinst hy hK qa qc (g := mkF m pc Ls st) rfl hsize (Steps.refl _) hlen hs (by show 2 * 0 + _ ≤ W; omega) hd (fun _ _ => ⟨has, eT, hc, hl⟩)
  dsimp only [Pt.U, Pt.locs, Pt.cells, Pt.slots] at X' l' y' z' st' hQ
  subst l' y' z'
  exact Owe.by (fun t k => st'.trans k) (go T' v L X' hQ)
theorem Owe.virtUp (X : Stand p l e R s m args below meth c T locs cells slots) (hx : p.tables.exec = Jvm.exec) (hZ : Z.Warmed39 s.vm) {own C owner : String} {index : Nat} (hown : s.vm.findClass own = some m.cls) (hlink : (Cond.methodLink own index y).before args s = true) (hsame : (Cond.sameMethod y.cls owner y.name y.desc).before args s = true) (hdecl : (Cond.declares ⟨owner, y.name, y.desc⟩).before args s = true) (howner : owner ≠ "java/lang/invoke/MethodHandle" ∧ owner ≠ "java/lang/invoke/VarHandle") (hsel : (Cond.selects C y z).before args s = true) (hinst : (Cond.instanceMethod z).before args s = true)
    (hK : Back l R p e below s args z 3 W (fun A a => a = as' ∧ A.U.heap = h ∧ A.cells + kc ≤ R.cells ∧ A.slots + ks ≤ R.slots) (fun A _ v B => ∃ L, Q v B.U.heap L ∧ B.locs = A.locs ++ L ∧ B.cells = A.cells + kc ∧ B.slots = A.slots + ks))
    (hsize : Ls.size = c.maxLocals) {a : Addr} {argsL rest : List Value} (E : Exa Z h a C) (hlen : ∀ sig, parseMethodDescriptor y.desc = some sig → argsL.length = sig.parameters.length) (hs : st = argsL.reverse ++ .ref a :: rest) (hW : (rest.map fun v => v.category).sum ≤ W) (hd : decode c.code pc = .ok (.invokevirtual index, 3))
    (has : (.ref a :: argsL).toArray = as') (eT : T.heap = h) (hc : cells + kc ≤ R.cells) (hl : slots + ks ≤ R.slots)
    (go : ∀ (T' : State) (v : Option Value) (L : List Loc), Stand p l e R s m args below meth c T' (locs ++ L) (cells + kc) (slots + ks) → Q v T'.heap L → Owe p.tables e below G T' (mkF m (pc + 3) Ls (v.toList ++ rest))) : Owe p.tables e below G T (mkF m pc Ls st) := by
  obtain ⟨cq, kq, qa, qb, qc⟩ := isOf hZ eT E
  obtain ⟨v, _, ⟨T', L', k', n'⟩, -, X', ⟨L, hQ, l', y', z'⟩, st'⟩ := X.virtualBackUp hx hown hlink hsame hdecl howner hsel hinst hK qa qc (g := mkF m pc Ls st) rfl hsize (Steps.refl _) hlen hs (by show 2 * 0 + _ ≤ W; omega) hd (fun _ _ => ⟨has, eT, hc, hl⟩)
  dsimp only [Pt.U, Pt.locs, Pt.cells, Pt.slots] at X' l' y' z' st' hQ
  subst l' y' z'
  exact Owe.by (fun t k => st'.trans k) (go T' v L X' hQ)
theorem Owe.stat (X : Stand p l e R s m args below meth c T locs cells slots) (hx : p.tables.exec = Jvm.exec) {own : String} {index : Nat} {bytes : ByteArray} {maxL : Nat} {ret : Option FieldType} (hown : s.vm.findClass own = some m.cls) (hlink : (Cond.methodLink own index y).before args s = true) (hstat : (Cond.static y).before args s = true) (hinit : (Cond.initialized y.cls).before args s = true) (hcode : (Cond.code y bytes maxL ret).before args s = true) (hy : y.cls ≠ "java/lang/invoke/MethodHandle" ∧ y.cls ≠ "java/lang/invoke/VarHandle")
    (hK : Back l R p e below s args y 3 W (fun A a => a = as' ∧ A.U.heap = h ∧ A.cells + kc ≤ R.cells ∧ A.slots + ks ≤ R.slots) (fun A _ v B => ∃ L, Q v B.U.heap L ∧ B.locs = A.locs ++ L ∧ B.cells = A.cells + kc ∧ B.slots = A.slots + ks))
    (hsize : Ls.size = c.maxLocals) {argsL rest : List Value} (hlen : ∀ sig, parseMethodDescriptor y.desc = some sig → argsL.length = sig.parameters.length) (hs : st = argsL.reverse ++ rest) (hW : (rest.map fun v => v.category).sum ≤ W) (hd : decode c.code pc = .ok (.invokestatic index, 3))
    (has : argsL.toArray = as') (eT : T.heap = h) (hc : cells + kc ≤ R.cells) (hl : slots + ks ≤ R.slots)
    (go : ∀ (T' : State) (v : Option Value) (L : List Loc), Stand p l e R s m args below meth c T' (locs ++ L) (cells + kc) (slots + ks) → Q v T'.heap L → Owe p.tables e below G T' (mkF m (pc + 3) Ls (v.toList ++ rest))) : Owe p.tables e below G T (mkF m pc Ls st) := by
  obtain ⟨v, _, ⟨T', L', k', n'⟩, -, X', ⟨L, hQ, l', y', z'⟩, st'⟩ := Jvm.LawKit.callS X hx hown hlink hstat hinit hcode hy hK (g := mkF m pc Ls st) rfl hsize hlen hs (by show 2 * 0 + _ ≤ W; omega) hd (fun _ _ => ⟨has, eT, hc, hl⟩)
  dsimp only [Pt.U, Pt.locs, Pt.cells, Pt.slots] at X' l' y' z' st' hQ
  subst l' y' z'
  exact Owe.by st' (go T' v L X' hQ)
/-! the end: it returns -/
theorem Owe.retN (X : Stand p l e R s m args below meth c T locs cells slots) (hx : p.tables.exec = Jvm.exec) (hlk : meth.locks = false) {z : Int32} {t : FieldType} {rest : List Value} (hret : meth.sig.returnType = some t) (ht : t = .boolean ∨ t = .byte ∨ t = .char ∨ t = .short) (hd : decode c.code pc = .ok (.ireturn, 1)) (hs : st = .int z :: rest)
    (go : ∀ fs : List Frame, FrameEnd s (.returned (some (.int (nar t z)))) (T.setFrames fs) locs cells slots → G (.returned (some (.int (nar t z)))) (T.setFrames fs)) : Owe p.tables e below G T (mkF m pc Ls st) := by
  subst hs
  obtain ⟨fs, hr, hrun, hended, hW, hsame⟩ := X.leave (v := some (.int (nar t z))) (fun h => by rw [hret] at h; cases h) hlk
  exact ⟨_, _, Jvm.RoadKit.retN X hx hret ht hd hr, hrun, hended, go fs ⟨⟨_, rfl⟩, hW, hsame⟩⟩
theorem Owe.retI (X : Stand p l e R s m args below meth c T locs cells slots) (hx : p.tables.exec = Jvm.exec) (hlk : meth.locks = false) {z : Int32} {rest : List Value} (hret : meth.sig.returnType = some .int) (hd : decode c.code pc = .ok (.ireturn, 1)) (hs : st = .int z :: rest)
    (go : ∀ fs : List Frame, FrameEnd s (.returned (some (.int z))) (T.setFrames fs) locs cells slots → G (.returned (some (.int z))) (T.setFrames fs)) : Owe p.tables e below G T (mkF m pc Ls st) := by
  subst hs
  obtain ⟨fs, hr, hrun, hended, hW, hsame⟩ := X.leave (v := some (.int z)) (fun h => by rw [hret] at h; cases h) hlk
  have hm' : T.vm.method? m = some meth := X.method'
  have hn : narrow .int (.int z) = .int z := rfl
  refine ⟨_, _, ?_, hrun, hended, go fs ⟨⟨_, rfl⟩, hW, hsame⟩⟩
  show Steps p.tables e below (T.setTop { method := m, pc := pc, locals := Ls, stack := _ :: rest, locked := none }) _
  jvm_step X.here [X.here.top, hx, hd, hm', hret, hn]
  first | (intro acts; rw [hr _ acts rfl rfl rfl]) | rw [hr _ _ rfl rfl rfl]
  exact Steps.refl _
theorem Owe.retR (X : Stand p l e R s m args below meth c T locs cells slots) (hx : p.tables.exec = Jvm.exec) (hlk : meth.locks = false) {w : Value} {t : FieldType} {rest : List Value} (hret : meth.sig.returnType = some t) (hn : narrow t w = w) (ht : t.isReference = true) (hw : w.isRef = true) (hd : decode c.code pc = .ok (.areturn, 1)) (hs : st = w :: rest)
    (go : ∀ fs : List Frame, FrameEnd s (.returned (some w)) (T.setFrames fs) locs cells slots → G (.returned (some w)) (T.setFrames fs)) : Owe p.tables e below G T (mkF m pc Ls st) := by
  subst hs
  obtain ⟨fs, hr, hrun, hended, hW, hsame⟩ := X.leave (v := some w) (fun h => by rw [hret] at h; cases h) hlk
  have hm' : T.vm.method? m = some meth := X.method'
  refine ⟨_, _, ?_, hrun, hended, go fs ⟨⟨_, rfl⟩, hW, hsame⟩⟩
  show Steps p.tables e below (T.setTop { method := m, pc := pc, locals := Ls, stack := _ :: rest, locked := none }) _
  jvm_step X.here [X.here.top, hx, hd, hm', hret, hn, hw]
  try (refine ⟨ht, ?_⟩)
  first | (intro acts; rw [hr _ acts rfl rfl rfl]) | rw [hr _ _ rfl rfl rfl]
  exact Steps.refl _
theorem Owe.ret0 (X : Stand p l e R s m args below meth c T locs cells slots) (hx : p.tables.exec = Jvm.exec) (hlk : meth.locks = false) (hret : meth.sig.returnType = none) (hd : decode c.code pc = .ok (.return_, 1)) (hs : st = [])
    (go : ∀ fs : List Frame, FrameEnd s (.returned none) (T.setFrames fs) locs cells slots → G (.returned none) (T.setFrames fs)) : Owe p.tables e below G T (mkF m pc Ls st) := by
  subst hs
  obtain ⟨fs, hr, hrun, hended, hW, hsame⟩ := X.leave (v := none) (fun _ => rfl) hlk
  exact ⟨_, _, X.returnOut hx hret hd hr, hrun, hended, go fs ⟨⟨_, rfl⟩, hW, hsame⟩⟩
end Heavy
theorem frameMono {s t : State} {o : Outcome} {L : List Loc} {k n k' n' : Nat} (h : FrameEnd s o t L k n) (hk : k ≤ k') (hn : n ≤ n') : FrameEnd s o t L k' n' := ⟨h.1, h.2.1, h.2.2.mono hk hn⟩
end Own
end Jvm.Pilot.@@N@@
namespace Jvm.Pilot.@@N@@
namespace Own
open Jvm Jvm.ClassFile Sem Op Lib Jvm.Free Jvm.Stand Jvm.LawKit Jvm.RoadKit
/-! WALKS THAT MAY LOAD A STRING CONSTANT COLD: the Stand is over 's.setVm vm0', 'hS' says what has come since the true start s -/
section Cold
variable {p : Program} {l : Launch} {e : Env} {R : Room} {s : State} {m : MethodId} {args : Array Value} {below : List Frame} {meth : Method} {c : Code} {T : State} {locs : List Loc} {cells slots : Nat} {Z : State} {a0 : Array Value} {h : Heap} {G : Outcome → State → Prop} {pc : Nat} {Ls : Array Slot} {st : List Value} {vm0 : Vm} {k0 : Nat} {EL : List (String × Nat)}
theorem coldMono {s t : State} {o : Outcome} {L : List Loc} {k n k' n' : Nat} (h : ReturnedEndW s o t L k n) (hk : k ≤ k') (hn : n ≤ n') : ReturnedEndW s o t L k' n' := ⟨h.1, h.2.1, h.2.2.1, h.2.2.2.mono hk hn⟩
theorem Owe.ldcO (X : Stand p l e R (s.setVm vm0) m args below meth c T locs cells slots) (hx : p.tables.exec = Jvm.exec) (hZ : Z.Warmed39 (s.setVm vm0).vm) (hS : s.Since vm0 k0) (hEL : EW Z a0 EL) (H : CHv Z EL vm0 h) {own text : String} {index : Nat} (hown : (s.setVm vm0).vm.findClass own = some m.cls) (w : (Cond.stringLink own index text).before a0 Z = true) (wS : ∀ a ∈ Bundle.stringAtoms, a.before a0 Z = true) (eT : T.heap = h) (hk : k0 ≤ h.size) (hd : decode c.code pc = .ok (.ldc index, 2)) {n : Nat} (hn : 4 * text.toList.length ≤ n) (hbig : n ≤ 536870912) (hc : cells + 2 ≤ R.cells) (hl : slots + (n + 4) ≤ R.slots)
    (go : ∀ (a : Addr) (T' : State) (h' : Heap) (k1 : Nat), Stand p l e R (s.setVm T'.vm) m args below meth c T' locs (cells + 2) (slots + (n + 4)) → T'.heap = h' → Ext h h' → s.Since T'.vm k1 → k1 ≤ h'.size → Z.Warmed39 (s.setVm T'.vm).vm → (s.setVm T'.vm).vm.findClass own = some m.cls → CHr Z EL vm0 h T'.vm h' → Lit (s.setVm T'.vm) own index a → Owe p.tables e below G T' (mkF m (pc + 2) Ls (.ref a :: st))) : Owe p.tables e below G T (mkF m pc Ls st) := by
  obtain ⟨a, T', h', k1, X', e', E', hS', hk', hZ', hown', hC', L', st'⟩ := ldcOH X hx hZ hown w wS eT hS hk hEL H (g := mkF m pc Ls st) rfl hd hn hbig hc hl
  exact Owe.by st' (go a T' h' k1 X' e' E' hS' hk' hZ' hown' hC' L')
theorem Owe.ldcV (X : Stand p l e R (s.setVm vm0) m args below meth c T locs cells slots) (hx : p.tables.exec = Jvm.exec) (hZ : Z.Warmed39 (s.setVm vm0).vm) (hS : s.Since vm0 k0) (hEL : EW Z a0 EL) (H : CHv Z EL vm0 h) {own text : String} {index : Nat} (hmem : (own, index) ∈ EL) (hown : (s.setVm vm0).vm.findClass own = some m.cls) (w : (Cond.stringLink own index text).before a0 Z = true) (wS : ∀ a ∈ Bundle.stringAtoms, a.before a0 Z = true) (eT : T.heap = h) (hk : k0 ≤ h.size)
    {vs : List Value} {z : Int32} (ht : (∀ c ∈ text.toList, c.toNat < 256) ∧ text.toList.map (fun c => Value.int (Jvm.Lit.byteI c.toNat.toUInt16)) = vs) (hz : ¬ z < 0) (hlv : z.toNatClampNeg = vs.length) (hd : decode c.code pc = .ok (.ldc index, 2)) {n : Nat} (hn : 4 * text.toList.length ≤ n) (hbig : n ≤ 536870912) (hc : cells + 2 ≤ R.cells) (hl : slots + (n + 4) ≤ R.slots)
    (go : ∀ (a : Addr) (T' : State) (h' : Heap) (k1 : Nat) (b : Addr) (k : ClassId), Stand p l e R (s.setVm T'.vm) m args below meth c T' locs (cells + 2) (slots + (n + 4)) → T'.heap = h' → Ext h h' → s.Since T'.vm k1 → k1 ≤ h'.size → Z.Warmed39 (s.setVm T'.vm).vm → (s.setVm T'.vm).vm.findClass own = some m.cls →
      Exa Z h' a "java/lang/String" → Fld Z h' a "java/lang/String" "coder" "B" (.int 0) → Fld Z h' a "java/lang/String" "value" "[B" (.ref b) → Arv Z h' b k .byte z vs (.int 0) → CHr Z EL vm0 h T'.vm h' → Lit (s.setVm T'.vm) own index a → (∀ x, Safe Z EL T'.vm h' x → x ≠ a ∧ x ≠ b) → Owe p.tables e below G T' (mkF m (pc + 2) Ls (.ref a :: st))) : Owe p.tables e below G T (mkF m pc Ls st) := by
  obtain ⟨a, T', h', k1, b, k, X', e', E', hS', hk', hZ', hown', r1, r2, r3, r4, -, -, r7, r8, r9, st'⟩ := ldcCH X hx hZ hown w wS eT hS hk hEL hmem H ht hz hlv (g := mkF m pc Ls st) rfl hd hn hbig hc hl
  exact Owe.by st' (go a T' h' k1 b k X' e' E' hS' hk' hZ' hown' r1 r2 r3 r4 r7 r8 r9)
theorem Owe.ldcA (X : Stand p l e R (s.setVm vm0) m args below meth c T locs cells slots) (hx : p.tables.exec = Jvm.exec) (hZ : Z.Warmed39 (s.setVm vm0).vm) {own text : String} {index : Nat} (hown : (s.setVm vm0).vm.findClass own = some m.cls) (w : (Cond.stringLink own index text).before a0 Z = true) {a : Addr} (L : Lit (s.setVm vm0) own index a) (hd : decode c.code pc = .ok (.ldc index, 2)) (go : Owe p.tables e below G T (mkF m (pc + 2) Ls (.ref a :: st))) : Owe p.tables e below G T (mkF m pc Ls st) :=
  Owe.by (ldcAgain X hx hZ hown w L (g := mkF m pc Ls st) rfl hd) go
variable {y z : MethodName} {as' : Array Value} {Q : Option Value → Heap → List Loc → Prop} {W kc ks : Nat}
theorem Owe.specialS (X : Stand p l e R (s.setVm vm0) m args below meth c T locs cells slots) (hx : p.tables.exec = Jvm.exec) (hZ : Z.Warmed39 (s.setVm vm0).vm) (hS : s.Since vm0 k0) (hk : k0 ≤ h.size) {own : String} {index : Nat} (hy1 : y.name = "<init>") (hown : (s.setVm vm0).vm.findClass own = some m.cls) (hlink : (Cond.methodLink own index y).before args (s.setVm vm0) = true) (hinst : (Cond.instanceMethod y).before args (s.setVm vm0) = true) {bytes : ByteArray} {maxL : Nat} (hcode : (Cond.code y bytes maxL none).before args (s.setVm vm0) = true) (hy : y.cls ≠ "java/lang/invoke/MethodHandle" ∧ y.cls ≠ "java/lang/invoke/VarHandle")
    (hK : BackS l R p e below (s.setVm vm0) args y 3 W (fun A a => a = as' ∧ A.U.heap = h ∧ A.cells + kc ≤ R.cells ∧ A.slots + ks ≤ R.slots) (fun A _ v B => ∃ L, Q v B.U.heap L ∧ B.locs = A.locs ++ L ∧ B.cells = A.cells + kc ∧ B.slots = A.slots + ks ∧ CHr Z EL vm0 h B.U.vm B.U.heap))
    (hsize : Ls.size = c.maxLocals) {a : Addr} {argsL rest : List Value} (hlen : ∀ sig, parseMethodDescriptor y.desc = some sig → argsL.length = sig.parameters.length) (hs : st = argsL.reverse ++ .ref a :: rest) (hW : (rest.map fun v => v.category).sum ≤ W) (hd : decode c.code pc = .ok (.invokespecial index, 3))
    (has : (.ref a :: argsL).toArray = as') (eT : T.heap = h) (hc : cells + kc ≤ R.cells) (hl : slots + ks ≤ R.slots)
    (go : ∀ (T' : State) (v : Option Value) (L : List Loc), Stand p l e R (s.setVm T'.vm) m args below meth c T' (locs ++ L) (cells + kc) (slots + ks) → s.Since T'.vm T'.heap.size → Z.Warmed39 (s.setVm T'.vm).vm → (s.setVm T'.vm).vm.findClass own = some m.cls → CHr Z EL vm0 h T'.vm T'.heap → Q v T'.heap L → Owe p.tables e below G T' (mkF m (pc + 3) Ls (v.toList ++ rest))) : Owe p.tables e below G T (mkF m pc Ls st) := by
  obtain ⟨v, _, ⟨T', L', k', n'⟩, -, X', hS', hg', ⟨L, hQ, l', y', z', hC'⟩, st'⟩ := X.specialBackS hx hy1 hown hlink hinst hcode hy hK (g := mkF m pc Ls st) rfl hsize (Steps.refl _) hlen hs (by show 2 * 0 + _ ≤ W; omega) hd (fun _ _ => ⟨has, eT, hc, hl⟩)
  dsimp only [Pt.U, Pt.locs, Pt.cells, Pt.slots] at X' l' y' z' st' hQ hS' hg' hC'
  subst l' y' z'
  exact Owe.by (fun t k => st'.trans k) (go T' v L X' (hS.trans hS' (Nat.le_trans hk (eT ▸ hg'))) (State.Warmed39.trans (t := s.setVm vm0) hZ hS'.1) (by rw [show (s.setVm T'.vm).vm = T'.vm from rfl, hS'.1.alike.findClass]; exact hown) hC' hQ)
theorem Owe.virtS (X : Stand p l e R (s.setVm vm0) m args below meth c T locs cells slots) (hx : p.tables.exec = Jvm.exec) (hZ : Z.Warmed39 (s.setVm vm0).vm) (hS : s.Since vm0 k0) (hk : k0 ≤ h.size) {own C : String} {index : Nat} (hown : (s.setVm vm0).vm.findClass own = some m.cls) (hlink : (Cond.methodLink own index y).before args (s.setVm vm0) = true) (hdecl : (Cond.declares y).before args (s.setVm vm0) = true) (hsel : (Cond.selects C y z).before args (s.setVm vm0) = true) (hinst : (Cond.instanceMethod z).before args (s.setVm vm0) = true) (hnf : NotFace (s.setVm vm0) y) (hy : y.cls ≠ "java/lang/invoke/MethodHandle" ∧ y.cls ≠ "java/lang/invoke/VarHandle")
    (hK : BackS l R p e below (s.setVm vm0) args z 3 W (fun A a => a = as' ∧ A.U.heap = h ∧ A.cells + kc ≤ R.cells ∧ A.slots + ks ≤ R.slots) (fun A _ v B => ∃ L, Q v B.U.heap L ∧ B.locs = A.locs ++ L ∧ B.cells = A.cells + kc ∧ B.slots = A.slots + ks ∧ CHr Z EL vm0 h B.U.vm B.U.heap))
    (hsize : Ls.size = c.maxLocals) {a : Addr} {argsL rest : List Value} (E : Exa Z h a C) (hlen : ∀ sig, parseMethodDescriptor y.desc = some sig → argsL.length = sig.parameters.length) (hs : st = argsL.reverse ++ .ref a :: rest) (hW : (rest.map fun v => v.category).sum ≤ W) (hd : decode c.code pc = .ok (.invokevirtual index, 3))
    (has : (.ref a :: argsL).toArray = as') (eT : T.heap = h) (hc : cells + kc ≤ R.cells) (hl : slots + ks ≤ R.slots)
    (go : ∀ (T' : State) (v : Option Value) (L : List Loc), Stand p l e R (s.setVm T'.vm) m args below meth c T' (locs ++ L) (cells + kc) (slots + ks) → s.Since T'.vm T'.heap.size → Z.Warmed39 (s.setVm T'.vm).vm → (s.setVm T'.vm).vm.findClass own = some m.cls → CHr Z EL vm0 h T'.vm T'.heap → Q v T'.heap L → Owe p.tables e below G T' (mkF m (pc + 3) Ls (v.toList ++ rest))) : Owe p.tables e below G T (mkF m pc Ls st) := by
  obtain ⟨cq, kq, qa, qb, qc⟩ := isOf hZ eT E
  obtain ⟨v, _, ⟨T', L', k', n'⟩, -, X', hS', hg', ⟨L, hQ, l', y', z', hC'⟩, st'⟩ := X.virtualBackS hx hown hlink hdecl hnf hsel hinst hy hK qa qc (g := mkF m pc Ls st) rfl hsize (Steps.refl _) hlen hs (by show 2 * 0 + _ ≤ W; omega) hd (fun _ _ => ⟨has, eT, hc, hl⟩)
  dsimp only [Pt.U, Pt.locs, Pt.cells, Pt.slots] at X' l' y' z' st' hQ hS' hg' hC'
  subst l' y' z'
  exact Owe.by (fun t k => st'.trans k) (go T' v L X' (hS.trans hS' (Nat.le_trans hk (eT ▸ hg'))) (State.Warmed39.trans (t := s.setVm vm0) hZ hS'.1) (by rw [show (s.setVm T'.vm).vm = T'.vm from rfl, hS'.1.alike.findClass]; exact hown) hC' hQ)
theorem Owe.statS (X : Stand p l e R (s.setVm vm0) m args below meth c T locs cells slots) (hx : p.tables.exec = Jvm.exec) (hZ : Z.Warmed39 (s.setVm vm0).vm) (hS : s.Since vm0 k0) (hk : k0 ≤ h.size) {own : String} {index : Nat} {bytes : ByteArray} {maxL : Nat} {ret : Option FieldType} (hown : (s.setVm vm0).vm.findClass own = some m.cls) (hlink : (Cond.methodLink own index y).before args (s.setVm vm0) = true) (hstat : (Cond.static y).before args (s.setVm vm0) = true) (hinit : (Cond.initialized y.cls).before args (s.setVm vm0) = true) (hcode : (Cond.code y bytes maxL ret).before args (s.setVm vm0) = true) (hy : y.cls ≠ "java/lang/invoke/MethodHandle" ∧ y.cls ≠ "java/lang/invoke/VarHandle")
    (hK : BackS l R p e below (s.setVm vm0) args y 3 W (fun A a => a = as' ∧ A.U.heap = h ∧ A.cells + kc ≤ R.cells ∧ A.slots + ks ≤ R.slots) (fun A _ v B => ∃ L, Q v B.U.heap L ∧ B.locs = A.locs ++ L ∧ B.cells = A.cells + kc ∧ B.slots = A.slots + ks ∧ CHr Z EL vm0 h B.U.vm B.U.heap))
    (hsize : Ls.size = c.maxLocals) {argsL rest : List Value} (hlen : ∀ sig, parseMethodDescriptor y.desc = some sig → argsL.length = sig.parameters.length) (hs : st = argsL.reverse ++ rest) (hW : (rest.map fun v => v.category).sum ≤ W) (hd : decode c.code pc = .ok (.invokestatic index, 3))
    (has : argsL.toArray = as') (eT : T.heap = h) (hc : cells + kc ≤ R.cells) (hl : slots + ks ≤ R.slots)
    (go : ∀ (T' : State) (v : Option Value) (L : List Loc), Stand p l e R (s.setVm T'.vm) m args below meth c T' (locs ++ L) (cells + kc) (slots + ks) → s.Since T'.vm T'.heap.size → Z.Warmed39 (s.setVm T'.vm).vm → (s.setVm T'.vm).vm.findClass own = some m.cls → CHr Z EL vm0 h T'.vm T'.heap → Q v T'.heap L → Owe p.tables e below G T' (mkF m (pc + 3) Ls (v.toList ++ rest))) : Owe p.tables e below G T (mkF m pc Ls st) := by
  obtain ⟨v, _, ⟨T', L', k', n'⟩, -, X', hS', hg', ⟨L, hQ, l', y', z', hC'⟩, st'⟩ := callSS X hx hown hlink hstat hinit hcode hy hK (g := mkF m pc Ls st) rfl hsize hlen hs (by show 2 * 0 + _ ≤ W; omega) hd (fun _ _ => ⟨has, eT, hc, hl⟩)
  dsimp only [Pt.U, Pt.locs, Pt.cells, Pt.slots] at X' l' y' z' st' hQ hS' hg' hC'
  subst l' y' z'
  exact Owe.by (fun t k => st'.trans k) (go T' v L X' (hS.trans hS' (Nat.le_trans hk (eT ▸ hg'))) (State.Warmed39.trans (t := s.setVm vm0) hZ hS'.1) (by rw [show (s.setVm T'.vm).vm = T'.vm from rfl, hS'.1.alike.findClass]; exact hown) hC' hQ)
theorem Owe.retNW (X : Stand p l e R (s.setVm vm0) m args below meth c T locs cells slots) (hx : p.tables.exec = Jvm.exec) (hS : s.Since vm0 k0) (eT : T.heap = h) (hk : k0 ≤ h.size) (hlk : meth.locks = false) {z : Int32} {t : FieldType} {rest : List Value} (hret : meth.sig.returnType = some t) (ht : t = .boolean ∨ t = .byte ∨ t = .char ∨ t = .short) (hd : decode c.code pc = .ok (.ireturn, 1)) (hs : st = .int z :: rest)
    (go : ∀ fs : List Frame, ReturnedEndW s (.returned (some (.int (nar t z)))) (T.setFrames fs) locs cells slots → G (.returned (some (.int (nar t z)))) (T.setFrames fs)) : Owe p.tables e below G T (mkF m pc Ls st) := by
  subst hs
  obtain ⟨fs, hr, hrun, hended, hE⟩ := X.leaveW hS (eT ▸ hk) (v := some (.int (nar t z))) (fun h => by rw [hret] at h; cases h) hlk
  exact ⟨_, _, Jvm.RoadKit.retN X hx hret ht hd hr, hrun, hended, go fs hE⟩
theorem Owe.retRW (X : Stand p l e R (s.setVm vm0) m args below meth c T locs cells slots) (hx : p.tables.exec = Jvm.exec) (hS : s.Since vm0 k0) (eT : T.heap = h) (hk : k0 ≤ h.size) (hlk : meth.locks = false) {w : Value} {t : FieldType} {rest : List Value} (hret : meth.sig.returnType = some t) (hn : narrow t w = w) (ht : t.isReference = true) (hw : w.isRef = true) (hd : decode c.code pc = .ok (.areturn, 1)) (hs : st = w :: rest)
    (go : ∀ fs : List Frame, ReturnedEndW s (.returned (some w)) (T.setFrames fs) locs cells slots → G (.returned (some w)) (T.setFrames fs)) : Owe p.tables e below G T (mkF m pc Ls st) := by
  subst hs
  obtain ⟨fs, hr, hrun, hended, hE⟩ := X.leaveW hS (eT ▸ hk) (v := some w) (fun h => by rw [hret] at h; cases h) hlk
  have hm' : T.vm.method? m = some meth := X.method'
  refine ⟨_, _, ?_, hrun, hended, go fs hE⟩
  show Steps p.tables e below (T.setTop { method := m, pc := pc, locals := Ls, stack := _ :: rest, locked := none }) _
  jvm_step X.here [X.here.top, hx, hd, hm', hret, hn, hw]
  try (refine ⟨ht, ?_⟩)
  first | (intro acts; rw [hr _ acts rfl rfl rfl]) | rw [hr _ _ rfl rfl rfl]
  exact Steps.refl _
theorem Owe.ret0W (X : Stand p l e R (s.setVm vm0) m args below meth c T locs cells slots) (hx : p.tables.exec = Jvm.exec) (hS : s.Since vm0 k0) (eT : T.heap = h) (hk : k0 ≤ h.size) (hlk : meth.locks = false) (hret : meth.sig.returnType = none) (hd : decode c.code pc = .ok (.return_, 1)) (hs : st = [])
    (go : ∀ fs : List Frame, ReturnedEndW s (.returned none) (T.setFrames fs) locs cells slots → G (.returned none) (T.setFrames fs)) : Owe p.tables e below G T (mkF m pc Ls st) := by
  subst hs
  obtain ⟨fs, hr, hrun, hended, hE⟩ := X.leaveW hS (eT ▸ hk) (v := none) (fun _ => rfl) hlk
  exact ⟨_, _, X.returnOut hx hret hd hr, hrun, hended, go fs hE⟩
end Cold
end Own
end Jvm.Pilot.@@N@@
namespace Jvm.Pilot.@@N@@
open Jvm Jvm.ClassFile Sem Op Lib Jvm.Free Jvm.Stand Jvm.LawKit Jvm.RoadKit Bundle Jvm.Pilot.@@N@@.Jvm.D Jvm.Pilot.@@N@@.Own
abbrev Hw (Z : State) (a0 : Array Value) : Prop := ∀ d ∈ tables_1, d.before a0 Z = true
theorem wd {Z : State} {a0 : Array Value} (hw : Hw Z a0) (i : Nat) {d : Jvm.Cond} (h : tables_1[i]? = some d := by rfl) : d.before a0 Z = true := hw d (List.mem_of_getElem? h)
theorem nb {a b : Nat} (h : Nat.ble a b = true) : a ≤ b := Nat.le_of_ble_eq_true h
abbrev MF (l : Launch) (Z : State) (y : MethodName) (bytes : ByteArray) (maxL : Nat) (ret : Option FieldType) (ws : List Jvm.Cond) (RT : Room) (as' : Array Value) (h0 : Heap) (Q : Option Value → Heap → List Loc → Prop) : Prop :=
  MetFree l y (head1 (Jvm.Cond.code y bytes maxL ret :: ws) RT) (fun a U => a = as' ∧ Z.Warmed39 U.vm ∧ U.heap = h0) (fun _ _ _ _ _ => True) (fun _ U o U' => ∃ v L, o = .returned v ∧ Q v U'.heap L ∧ FrameEnd U o U' L RT.cells RT.slots)
theorem MF.of {l : Launch} {Z : State} {y : MethodName} {bytes : ByteArray} {maxL : Nat} {ret : Option FieldType} {ws : List Jvm.Cond} {RT : Room} {as' : Array Value} {h0 : Heap} {Q : Option Value → Heap → List Loc → Prop} {Ls : Array Slot} (pn : plainName y.cls = true) (ef : ∀ m, entryFrame m as' maxL = mkF m 0 Ls [])
    (k : ∀ (p : Program) (e : Env) (s : State) (m : MethodId) (below : List Frame) (meth : Method) (c : Code) (s₁ : State) (G : Outcome → State → Prop), Stand p l e RT s m as' below meth c s₁ [] 0 0 → s₁.heap = h0 → p.tables.exec = Jvm.exec → c.code = bytes → c.maxLocals = maxL → s.vm.findClass y.cls = some m.cls → meth.name = y.name → meth.locks = false → meth.sig.returnType = ret → Z.Warmed39 s.vm → s.methodNamed? y = some m →
      (∀ o u, (∃ v L, o = .returned v ∧ Q v u.heap L ∧ FrameEnd s o u L RT.cells RT.slots) → G o u) → Owe p.tables e below G s₁ (mkF m 0 Ls [])) : MF l Z y bytes maxL ret ws RT as' h0 Q := by
  refine MetFree.of_bodySF (plainFor_of_name pn) hisR ?_
  intro p e s m args below meth c s₁ Bd hml hP hK
  obtain ⟨rfl, hZ, hh⟩ := hP
  obtain ⟨u, o, h1, h2, h3, h4⟩ := k p e s m below meth c s₁ (fun o u => ∃ v L, o = .returned v ∧ Q v u.heap L ∧ FrameEnd s o u L RT.cells RT.slots) (Stand.of_body Bd) (by rw [← hh, Bd.state]; rfl) Bd.exec Bd.bytes hml (findClass_of_methodNamed Bd.named) (name_of_methodNamed Bd.named Bd.method).1 (BodyLoose.notSynchronized Bd) Bd.returns hZ Bd.named (fun _ _ q => q)
  exact ⟨u, o, castTop (ef m) h1, h2, h3, h4⟩
theorem and255_chars (x : Int32) : ¬ nar .char ((x &&& (255 : Int32)).toUInt32.toUInt16.toUInt32.toInt32) < 0 ∧ ¬ (255 : Int32) < nar .char ((x &&& (255 : Int32)).toUInt32.toUInt16.toUInt32.toInt32) := by
  have t : ∀ k : Fin 256, ¬ nar .char ((Int32.ofNat k.val).toUInt32.toUInt16.toUInt32.toInt32) < 0 ∧ ¬ (255 : Int32) < nar .char ((Int32.ofNat k.val).toUInt32.toUInt16.toUInt32.toInt32) := by decide +kernel
  have h : (x &&& 255).toBitVec.toNat < 256 := by
    simp only [Int32.toBitVec_and, BitVec.toNat_and]
    exact Nat.lt_succ_of_le Nat.and_le_right
  have e : (x &&& 255) = Int32.ofNat (x &&& 255).toBitVec.toNat := by
    apply Int32.toBitVec_inj.mp
    show _ = BitVec.ofNat 32 _
    rw [BitVec.ofNat_toNat]; simp
  rw [e]
  exact t ⟨_, h⟩
theorem own_narrow_ref {v : Value} {t : FieldType} (h : v.isRef = true) (ht : t.isReference = true) : narrow t v = v := by cases t <;> first | (cases ht; done) | (cases v <;> first | rfl | (cases h; done))
theorem own_fits_ref {v : Value} {t : FieldType} (h : v.isRef = true) (ht : t.isReference = true) : fits t v = true := by cases t <;> first | (cases ht; done) | (cases v <;> first | rfl | (cases h; done))
theorem own_cat_ref {v : Value} (h : v.isRef = true) : v.category = 1 := by cases v <;> first | rfl | (cases h; done)
theorem own_eq_int {args : Array Value} {Z : State} {t : Term} {j : Int32} (h : (Jvm.Cond.eq t (Term.int j)).value args Z none Z [] = some true) : t.eval args Z none [] Z = some (.int j) := by
  obtain ⟨x, y, ha, hb, hk, -⟩ := cmp_v (Or.inl h)
  have hj : (Term.int j).eval args Z none [] Z = some (.int j) := Term.int_eval j
  cases x with
  | int z => rw [ha, gotT (Cond.eq_ints ha hj) h]
  | _ => simp [Cond.value, ha, hj] at h
theorem own_eq_ref {args : Array Value} {Z : State} {t u : Term} {b : Addr} (eu : u.eval args Z none [] Z = some (.ref b)) (h : (Jvm.Cond.eq t u).value args Z none Z [] = some true) : t.eval args Z none [] Z = some (.ref b) := by
  obtain ⟨x, y, ha, hb, hk, -⟩ := cmp_v (Or.inl h)
  cases x with
  | ref z => simp [Cond.value, ha, eu] at h; rw [ha, h]
  | _ => simp [Cond.value, ha, eu] at h
theorem own_fld_int {Z : State} {args : Array Value} {t : Term} {a : Addr} {C n d : String} {j : Int32} (ev : t.eval args Z none [] Z = some (.ref a)) (h : (Jvm.Cond.eq (Term.field t C n d) (Term.int j)).value args Z none Z [] = some true) : Fld Z Z.heap a C n d (.int j) := Fld.start ((fld_at ev).symm.trans (own_eq_int h))
theorem own_fld_ref {Z : State} {args : Array Value} {t u : Term} {a b : Addr} {C n d : String} (ev : t.eval args Z none [] Z = some (.ref a)) (eu : u.eval args Z none [] Z = some (.ref b)) (h : (Jvm.Cond.eq (Term.field t C n d) u).value args Z none Z [] = some true) : Fld Z Z.heap a C n d (.ref b) := Fld.start ((fld_at ev).symm.trans (own_eq_ref eu h))
theorem own_rem5 (x : Int32) : ((x &&& (2147483647 : Int32)) - ((x &&& (2147483647 : Int32)) / (5 : Int32)) * (5 : Int32)) = (0 : Int32) ∨ ((x &&& (2147483647 : Int32)) - ((x &&& (2147483647 : Int32)) / (5 : Int32)) * (5 : Int32)) = (1 : Int32) ∨ ((x &&& (2147483647 : Int32)) - ((x &&& (2147483647 : Int32)) / (5 : Int32)) * (5 : Int32)) = (2 : Int32) ∨ ((x &&& (2147483647 : Int32)) - ((x &&& (2147483647 : Int32)) / (5 : Int32)) * (5 : Int32)) = (3 : Int32) ∨ ((x &&& (2147483647 : Int32)) - ((x &&& (2147483647 : Int32)) / (5 : Int32)) * (5 : Int32)) = (4 : Int32) := by
  have h0 := c_and x (2147483647 : Int32) (by decide)
  generalize (x &&& (2147483647 : Int32)) = k at h0 ⊢
  have h1 := (c_idiv k (5 : Int32) 5 (by decide) (by decide)).1 h0.1
  have h2 := c_imul (k / (5 : Int32)) (5 : Int32)
  have h3 := c_isub k (k / (5 : Int32) * (5 : Int32))
  have r1 := rng32 (k / (5 : Int32) * (5 : Int32)); have r2 := rng32 (k - k / (5 : Int32) * (5 : Int32)); have r3 := rng32 k
  rw [h1, show ((5 : Int32)).toInt = 5 from rfl] at h2
  have e : (k - k / (5 : Int32) * (5 : Int32)).toInt = 0 ∨ (k - k / (5 : Int32) * (5 : Int32)).toInt = 1 ∨ (k - k / (5 : Int32) * (5 : Int32)).toInt = 2 ∨ (k - k / (5 : Int32) * (5 : Int32)).toInt = 3 ∨ (k - k / (5 : Int32) * (5 : Int32)).toInt = 4 := by omega
  simp only [← Int32.toInt_inj]
  exact e
def lo1 (c : Int32) : Int32 := ((c >>> ((0 : Int32) &&& 31)).toInt8.toInt32).toInt8.toInt32
def la1 (c : Int32) : Int32 := (c.toInt8.toInt32).toInt8.toInt32
abbrev own_dl (c : Int32) : Int32 := (la1 c &&& (255 : Int32)).toUInt32.toUInt16.toUInt32.toInt32
def hi1 (c : Int32) : Int32 := ((c >>> ((8 : Int32) &&& 31)).toInt8.toInt32).toInt8.toInt32
def getc (a b : Int32) : Int32 := (((a &&& (255 : Int32)) <<< ((0 : Int32) &&& 31)) ||| ((b &&& (255 : Int32)) <<< ((8 : Int32) &&& 31))).toUInt32.toUInt16.toUInt32.toInt32
def okb (c : Int32) : Bool := decide (c.toInt = 95) || (decide (48 ≤ c.toInt) && decide (c.toInt ≤ 57)) || (decide (65 ≤ c.toInt) && decide (c.toInt ≤ 90))
def rc : List Int32 → Int32
  | [] => 1
  | c :: cs => if okb c = true then rc cs else 0
theorem okb_iff (c : Int32) : okb c = true ↔ (c.toInt = 95 ∨ (48 ≤ c.toInt ∧ c.toInt ≤ 57) ∨ (65 ≤ c.toInt ∧ c.toInt ≤ 90)) := by
  simp [okb, or_assoc]
theorem own_gp (c : Int32) (h : ¬ c < 0 ∧ ¬ (65535 : Int32) < c) : getc (lo1 c) (hi1 c) = c := by
  have e0 : (0 : Int32).toInt = 0 := rfl
  have e1 : (65535 : Int32).toInt = 65535 := rfl
  simp only [Int32.lt_iff_toInt_lt, e0, e1] at h
  have a1 := c_ishr c (0 : Int32) 0 rfl
  have a2 := c_i2b (c >>> ((0 : Int32) &&& 31))
  have a3 := c_i2b ((c >>> ((0 : Int32) &&& 31)).toInt8.toInt32)
  have b1 := c_ishr c (8 : Int32) 8 rfl
  have b2 := c_i2b (c >>> ((8 : Int32) &&& 31))
  have b3 := c_i2b ((c >>> ((8 : Int32) &&& 31)).toInt8.toInt32)
  have a4 := c_mask (lo1 c) (255 : Int32) 8 (by decide) (by decide)
  have b4 := c_mask (hi1 c) (255 : Int32) 8 (by decide) (by decide)
  have a5 := c_ishl (lo1 c &&& (255 : Int32)) (0 : Int32) 0 rfl
  have b5 := c_ishl (hi1 c &&& (255 : Int32)) (8 : Int32) 8 rfl
  have r1 := rng32 ((lo1 c &&& (255 : Int32)) <<< ((0 : Int32) &&& 31))
  have r2 := rng32 ((hi1 c &&& (255 : Int32)) <<< ((8 : Int32) &&& 31))
  have l1 : (lo1 c).toInt = ((c >>> ((0 : Int32) &&& 31)).toInt8.toInt32).toInt8.toInt32.toInt := rfl
  have l2 : (hi1 c).toInt = ((c >>> ((8 : Int32) &&& 31)).toInt8.toInt32).toInt8.toInt32.toInt := rfl
  have o := c_or ((hi1 c &&& (255 : Int32)) <<< ((8 : Int32) &&& 31)) ((lo1 c &&& (255 : Int32)) <<< ((0 : Int32) &&& 31)) 8 (by decide) 256 rfl (by omega) (by omega) (by omega)
  rw [Int32.or_comm] at o
  have f := c_i2c (((lo1 c &&& (255 : Int32)) <<< ((0 : Int32) &&& 31)) ||| ((hi1 c &&& (255 : Int32)) <<< ((8 : Int32) &&& 31)))
  apply Int32.toInt_inj.mp
  show (((lo1 c &&& (255 : Int32)) <<< ((0 : Int32) &&& 31)) ||| ((hi1 c &&& (255 : Int32)) <<< ((8 : Int32) &&& 31))).toUInt32.toUInt16.toUInt32.toInt32.toInt = c.toInt
  omega
theorem own_narR (x : Int32) : ¬ nar .char x < 0 ∧ ¬ (65535 : Int32) < nar .char x := by
  have e0 : (0 : Int32).toInt = 0 := rfl
  have e1 : (65535 : Int32).toInt = 65535 := rfl
  have c := c_i2c x
  simp only [Int32.lt_iff_toInt_lt, nar]
  omega
theorem own_narc (x : Int32) : nar .char (x.toUInt32.toUInt16.toUInt32.toInt32) = x.toUInt32.toUInt16.toUInt32.toInt32 := by
  have c := c_i2c x
  have d := c_i2c (x.toUInt32.toUInt16.toUInt32.toInt32)
  apply Int32.toInt_inj.mp
  simp only [nar]
  omega
theorem own_lat (c : Int32) (h : ¬ c < 0 ∧ ¬ (65535 : Int32) < c) (h2 : ¬ (255 : Int32) < c) : own_dl c = c := by
  show (((c.toInt8.toInt32).toInt8.toInt32) &&& (255 : Int32)).toUInt32.toUInt16.toUInt32.toInt32 = c
  have e0 : (0 : Int32).toInt = 0 := rfl
  have e1 : (255 : Int32).toInt = 255 := rfl
  have e2 : (65535 : Int32).toInt = 65535 := rfl
  simp only [Int32.lt_iff_toInt_lt, e0, e1, e2] at h h2
  have a2 := c_i2b c
  have a3 := c_i2b (c.toInt8.toInt32)
  have a4 := c_mask ((c.toInt8.toInt32).toInt8.toInt32) (255 : Int32) 8 (by decide) (by decide)
  have f := c_i2c (((c.toInt8.toInt32).toInt8.toInt32) &&& (255 : Int32))
  apply Int32.toInt_inj.mp
  omega
theorem n48 : (48 : Int32).toInt = 48 := rfl
theorem n57 : (57 : Int32).toInt = 57 := rfl
theorem n65 : (65 : Int32).toInt = 65 := rfl
theorem n90 : (90 : Int32).toInt = 90 := rfl
theorem n95 : (95 : Int32).toInt = 95 := rfl
theorem own_narV {c : Int32} (h : ¬ c < 0 ∧ ¬ (65535 : Int32) < c) : nar .char c = c := by
  have e0 : (0 : Int32).toInt = 0 := rfl
  have e1 : (65535 : Int32).toInt = 65535 := rfl
  simp only [Int32.lt_iff_toInt_lt, e0, e1] at h
  have d := c_i2c c
  apply Int32.toInt_inj.mp
  simp only [nar]
  omega
theorem nb0 : nar FieldType.boolean (0 : Int32) = 0 := by decide
theorem nb1 : nar FieldType.boolean (1 : Int32) = 1 := by decide
theorem rcT {c : Int32} {cs : List Int32} (h : okb c = true) : rc (c :: cs) = rc cs := if_pos h
theorem rcF {c : Int32} {cs : List Int32} (h : ¬ okb c = true) : rc (c :: cs) = 0 := if_neg h
def own_EL : List (String × Nat) := [("java/lang/String", 7)]
theorem own_ew {Z : State} {a0 : Array Value} (hw : ∀ d ∈ tables_1, d.before a0 Z = true) : EW Z a0 own_EL := EW.cons (wd hw 15) (by decide) (EW.nil)
theorem own_sa : ∀ d ∈ Bundle.stringAtoms, d ∈ tables_1 := by decide +kernel
theorem own_wS {Z : State} {a0 : Array Value} (hw : ∀ d ∈ tables_1, d.before a0 Z = true) : ∀ a ∈ Bundle.stringAtoms, a.before a0 Z = true := fun d hd => hw d (own_sa d hd)
theorem own_safe_null {Z : State} {EL : List (String × Nat)} {vm : Vm} {h : Heap} {x : Addr} (hal : Z.vm.Alike vm) (E : Exa Z h x "java/lang/String") (F : Fld Z h x "java/lang/String" "value" "[B" .null) : Safe Z EL vm h x := fun B => by
  obtain ⟨p, -, u, a, -, q, -, S, rfl | rfl⟩ := B
  · obtain ⟨cS, ⟨⟨s1, -, -, ⟨c1, k1, i1, f1, -⟩, -, -, -, v1, -⟩, -⟩, -⟩ := S
    obtain ⟨cell, cf, k, i, f, h1, h2, -, -, -, -, h7⟩ := F
    cases h1.symm.trans (show h[q.sa]? = some q.sC from s1)
    obtain ⟨k3, e3, -⟩ := State.fieldFound?_setVm (s := Z) hal h2
    have e4 := (show (Wst Z vm h).fieldFound? _ _ _ = _ from e3).symm.trans f1
    simp only [Option.some.injEq, Prod.mk.injEq] at e4
    rw [e4.2.2.2, v1] at h7
    cases h7
  · obtain ⟨cell, k, e1, e2, e3, -, -⟩ := E
    cases (show h[q.sd]? = some q.SA from S.hd).symm.trans e1
    obtain ⟨cS, -, -, f, -⟩ := S
    have f' : Z.vm.findClass "[B" = some q.SA.cls := by rw [← hal.findClass]; exact f
    obtain ⟨k1, q1, q2⟩ := Vm.findClass_spec f'
    obtain ⟨k2, q3, q4⟩ := Vm.findClass_spec e2
    cases q1.symm.trans q3
    exact absurd (q2.symm.trans q4) (by decide)
theorem pd_0 : parseMethodDescriptor "(I)I" = some ⟨[.int], some .int⟩ := by decide +kernel
theorem pd_1 : parseMethodDescriptor "(I)[B" = some ⟨[.int], some (.array .byte)⟩ := by decide +kernel
theorem pd_2 : parseMethodDescriptor "([BII)V" = some ⟨[(.array .byte), .int, .int], none⟩ := by decide +kernel
theorem pd_3 : parseMethodDescriptor "([CI[BII)I" = some ⟨[(.array .char), .int, (.array .byte), .int, .int], some .int⟩ := by decide +kernel
theorem pd_4 : parseMethodDescriptor "([CII)[B" = some ⟨[(.array .char), .int, .int], some (.array .byte)⟩ := by decide +kernel
theorem pd_5 : parseMethodDescriptor "([BI)B" = some ⟨[(.array .byte), .int], some .byte⟩ := by decide +kernel
theorem pd_6 : parseMethodDescriptor "([CIILjava/lang/Void;)V" = some ⟨[(.array .char), .int, .int, (.object "java/lang/Void")], none⟩ := by decide +kernel
theorem pd_7 : parseMethodDescriptor "([BI)C" = some ⟨[(.array .byte), .int], some .char⟩ := by decide +kernel
theorem pd_8 : parseMethodDescriptor "(IILjava/util/function/BiFunction;)I" = some ⟨[.int, .int, (.object "java/util/function/BiFunction")], some .int⟩ := by decide +kernel
theorem pd_9 : parseMethodDescriptor "()B" = some ⟨[], some .byte⟩ := by decide +kernel
theorem pd_10 : parseMethodDescriptor "(II)V" = some ⟨[.int, .int], none⟩ := by decide +kernel
theorem pd_11 : parseMethodDescriptor "([B)I" = some ⟨[(.array .byte)], some .int⟩ := by decide +kernel
theorem pd_12 : parseMethodDescriptor "(I[B)V" = some ⟨[.int, (.array .byte)], none⟩ := by decide +kernel
theorem pd_13 : parseMethodDescriptor "()Z" = some ⟨[], some .boolean⟩ := by decide +kernel
theorem pd_14 : parseMethodDescriptor "()I" = some ⟨[], some .int⟩ := by decide +kernel
theorem pd_15 : parseMethodDescriptor "(I)C" = some ⟨[.int], some .char⟩ := by decide +kernel
theorem pd_16 : parseMethodDescriptor "([C)V" = some ⟨[(.array .char)], none⟩ := by decide +kernel
theorem pd_17 : parseMethodDescriptor "(Ljava/lang/String;)Z" = some ⟨[(.object "java/lang/String")], some .boolean⟩ := by decide +kernel
theorem pd_18 : parseMethodDescriptor "(C)Z" = some ⟨[.char], some .boolean⟩ := by decide +kernel
theorem d0_0 : decode jdk_52_method_5_code 0 = .ok (.getstatic 44, 3) := by decide +kernel
theorem d0_3 : decode jdk_52_method_5_code 3 = .ok (.ifCond .ne 25, 3) := by decide +kernel
theorem d0_6 : decode jdk_52_method_5_code 6 = .ok (.iload_n 1, 1) := by decide +kernel
theorem d0_7 : decode jdk_52_method_5_code 7 = .ok (.ifCond .lt 11, 3) := by decide +kernel
theorem d0_10 : decode jdk_52_method_5_code 10 = .ok (.iload_n 1, 1) := by decide +kernel
theorem d0_11 : decode jdk_52_method_5_code 11 = .ok (.aload_n 0, 1) := by decide +kernel
theorem d0_12 : decode jdk_52_method_5_code 12 = .ok (.invokestatic 48, 3) := by decide +kernel
theorem d0_15 : decode jdk_52_method_5_code 15 = .ok (.if_icmp .lt 13, 3) := by decide +kernel
theorem d0_18 : decode jdk_52_method_5_code 18 = .ok (.new 52, 3) := by decide +kernel
theorem d0_21 : decode jdk_52_method_5_code 21 = .ok (.dup, 1) := by decide +kernel
theorem d0_22 : decode jdk_52_method_5_code 22 = .ok (.ldc 54, 2) := by decide +kernel
theorem d0_24 : decode jdk_52_method_5_code 24 = .ok (.invokespecial 56, 3) := by decide +kernel
theorem d0_27 : decode jdk_52_method_5_code 27 = .ok (.athrow, 1) := by decide +kernel
theorem d0_28 : decode jdk_52_method_5_code 28 = .ok (.iload_n 1, 1) := by decide +kernel
theorem d0_29 : decode jdk_52_method_5_code 29 = .ok (.iconst 1, 1) := by decide +kernel
theorem d0_30 : decode jdk_52_method_5_code 30 = .ok (.ishl, 1) := by decide +kernel
theorem d0_31 : decode jdk_52_method_5_code 31 = .ok (.istore_n 1, 1) := by decide +kernel
theorem d0_32 : decode jdk_52_method_5_code 32 = .ok (.aload_n 0, 1) := by decide +kernel
theorem d0_33 : decode jdk_52_method_5_code 33 = .ok (.iload_n 1, 1) := by decide +kernel
theorem d0_34 : decode jdk_52_method_5_code 34 = .ok (.iinc 1 1, 3) := by decide +kernel
theorem d0_37 : decode jdk_52_method_5_code 37 = .ok (.baload, 1) := by decide +kernel
theorem d0_38 : decode jdk_52_method_5_code 38 = .ok (.sipush 255, 3) := by decide +kernel
theorem d0_41 : decode jdk_52_method_5_code 41 = .ok (.iand, 1) := by decide +kernel
theorem d0_42 : decode jdk_52_method_5_code 42 = .ok (.getstatic 59, 3) := by decide +kernel
theorem d0_45 : decode jdk_52_method_5_code 45 = .ok (.ishl, 1) := by decide +kernel
theorem d0_46 : decode jdk_52_method_5_code 46 = .ok (.aload_n 0, 1) := by decide +kernel
theorem d0_47 : decode jdk_52_method_5_code 47 = .ok (.iload_n 1, 1) := by decide +kernel
theorem d0_48 : decode jdk_52_method_5_code 48 = .ok (.baload, 1) := by decide +kernel
theorem d0_49 : decode jdk_52_method_5_code 49 = .ok (.sipush 255, 3) := by decide +kernel
theorem d0_52 : decode jdk_52_method_5_code 52 = .ok (.iand, 1) := by decide +kernel
theorem d0_53 : decode jdk_52_method_5_code 53 = .ok (.getstatic 63, 3) := by decide +kernel
theorem d0_56 : decode jdk_52_method_5_code 56 = .ok (.ishl, 1) := by decide +kernel
theorem d0_57 : decode jdk_52_method_5_code 57 = .ok (.ior, 1) := by decide +kernel
theorem d0_58 : decode jdk_52_method_5_code 58 = .ok (.i2c, 1) := by decide +kernel
theorem d0_59 : decode jdk_52_method_5_code 59 = .ok (.ireturn, 1) := by decide +kernel
abbrev Y0 : MethodName := ⟨"java/lang/StringUTF16", "getChar", "([BI)C"⟩
theorem pn_0 : plainName "java/lang/StringUTF16" = true := by first | (simp [plainName, overriddenIn]; done) | decide +kernel
theorem ef_gch (m : MethodId) (x0 : Addr) (x1 : Int32)  : entryFrame m #[(.ref x0), (.int x1)] 2 = mkF m 0 #[.val (.ref x0), .val (.int x1)] [] := by first | (simp [entryFrame, mkF, argsToLocals, Value.category]; done) | rfl
def Qgch (Z : State) (a1 : Addr) (k1 : ClassId) (c1 : Int32) (i1 : Int32) (b0 : Int32) (b1 : Int32) (N : Int32) (vs : List Value) (h0 : Heap) (n0 : Nat) (v : Option Value) (h : Heap) (L : List Loc) : Prop := v = some (.int c1) ∧ Fr n0 L ∧ h = h0
set_option maxRecDepth 65536 in
set_option maxHeartbeats 40000000 in
theorem rmgch (l : Launch) (Z : State) (a0 : Array Value) (hw : Hw Z a0) (ws : List Jvm.Cond) (a1 : Addr) (k1 : ClassId) (c1 : Int32) (i1 : Int32) (b0 : Int32) (b1 : Int32) (N : Int32) (vs : List Value) (h0 : Heap) (n0 : Nat) (Z0 : n0 ≤ h0.size) (V_a1 : Arv Z h0 a1 k1 .byte N vs (.int (0 : Int32))) (hin0 : ¬ (i1 <<< ((1 : Int32) &&& 31)) < 0 ∧ (i1 <<< ((1 : Int32) &&& 31)) < N) (hv0 : vs.getD (i1 <<< ((1 : Int32) &&& 31)).toNatClampNeg (.int (0 : Int32)) = .int b0) (hin1 : ¬ ((i1 <<< ((1 : Int32) &&& 31)) + (1 : Int32)) < 0 ∧ ((i1 <<< ((1 : Int32) &&& 31)) + (1 : Int32)) < N) (hv1 : vs.getD ((i1 <<< ((1 : Int32) &&& 31)) + (1 : Int32)).toNatClampNeg (.int (0 : Int32)) = .int b1) (hch : getc b0 b1 = c1) (hnc : nar .char c1 = c1) (Ol : Old Z n0 h0) (S__assertionsDisabled : Sta Z Z.heap "java/lang/StringUTF16" "$assertionsDisabled" "Z" (.int (1 : Int32))) (S_HI_BYTE_SHIFT : Sta Z Z.heap "java/lang/StringUTF16" "HI_BYTE_SHIFT" "I" (.int (0 : Int32))) (S_LO_BYTE_SHIFT : Sta Z Z.heap "java/lang/StringUTF16" "LO_BYTE_SHIFT" "I" (.int (8 : Int32))) :
    MF l Z Y0 jdk_52_method_5_code 2 (some .char) ws ({ frames := 0, cells := 0, slots := 0, locals := 0 } : Room) #[(.ref a1), (.int i1)] h0 (Qgch Z a1 k1 c1 i1 b0 b1 N vs h0 n0) := by
  refine MF.of pn_0 (fun m => ef_gch m a1 i1) ?_
  intro p e s m below meth c s₁ G X0 e0 hx hby hml hown hnm hlk hrt hZ hnd hG
  have N0 := Fr.nil n0
  refine Owe.gets X0 hx hZ hown (wd hw 92) Via.refl e0 (S__assertionsDisabled.ext Ol.2) (hb hby d0_0) fun T1 X1 e1 => ?_
  refine Owe.ifYes X1.here hx (hb hby d0_3) rfl ((if0 _ _).trans (feq (by decide)).2) (pc' := 28) (by decide) (by decide) ?_
  refine Owe.iloadN X1.here hx (hb hby d0_28) rfl ?_
  refine Owe.iconst X1.here hx (hb hby d0_29) (w := (1 : Int32)) rfl ?_
  refine Owe.ishl X1.here hx (hb hby d0_30) rfl ?_
  refine Owe.istoreN X1.here hx (hb hby d0_31) rfl (l' := #[.val (.ref a1), .val (.int (i1 <<< ((1 : Int32) &&& 31)))]) rfl ?_
  refine Owe.aloadN X1.here hx (hb hby d0_32) rfl rfl ?_
  refine Owe.iloadN X1.here hx (hb hby d0_33) rfl ?_
  refine Owe.iinc X1.here hx (hb hby d0_34) rfl (l' := #[.val (.ref a1), .val (.int ((i1 <<< ((1 : Int32) &&& 31)) + (1 : Int32)))]) rfl ?_
  refine Owe.baload X1 hx hZ e1 V_a1 (v := (.int b0)) hin0 hv0 (hb hby d0_37) rfl ?_
  refine Owe.sipush X1.here hx (hb hby d0_38) (w := (255 : Int32)) rfl ?_
  refine Owe.iand X1.here hx (hb hby d0_41) rfl ?_
  refine Owe.gets X1 hx hZ hown (wd hw 93) Via.refl e1 (S_HI_BYTE_SHIFT.ext Ol.2) (hb hby d0_42) fun T2 X2 e2 => ?_
  refine Owe.ishl X2.here hx (hb hby d0_45) rfl ?_
  refine Owe.aloadN X2.here hx (hb hby d0_46) rfl rfl ?_
  refine Owe.iloadN X2.here hx (hb hby d0_47) rfl ?_
  refine Owe.baload X2 hx hZ e2 V_a1 (v := (.int b1)) hin1 hv1 (hb hby d0_48) rfl ?_
  refine Owe.sipush X2.here hx (hb hby d0_49) (w := (255 : Int32)) rfl ?_
  refine Owe.iand X2.here hx (hb hby d0_52) rfl ?_
  refine Owe.gets X2 hx hZ hown (wd hw 94) Via.refl e2 (S_LO_BYTE_SHIFT.ext Ol.2) (hb hby d0_53) fun T3 X3 e3 => ?_
  refine Owe.ishl X3.here hx (hb hby d0_56) rfl ?_
  refine Owe.ior X3.here hx (hb hby d0_57) rfl ?_
  refine Owe.i2c X3.here hx (hb hby d0_58) rfl ?_
  refine Owe.retN X3 hx hlk (t := .char) hrt (by simp) (hb hby d0_59) rfl fun fs hE => ?_
  refine hG _ _ ⟨_, _, rfl, ?_, frameMono hE (by decide) (by decide)⟩
  show Qgch Z a1 k1 c1 i1 b0 b1 N vs h0 n0 _ T3.heap _
  rw [e3]
  exact ⟨(congrArg (fun z => some (Value.int z)) ((congrArg (nar .char) hch).trans hnc)), N0, rfl⟩
theorem d1_0 : decode jdk_52_method_3_code 0 = .ok (.iload_n 0, 1) := by decide +kernel
theorem d1_1 : decode jdk_52_method_3_code 1 = .ok (.ifCond .ge 11, 3) := by decide +kernel
theorem d1_4 : decode jdk_52_method_3_code 4 = .ok (.new 17, 3) := by decide +kernel
theorem d1_7 : decode jdk_52_method_3_code 7 = .ok (.dup, 1) := by decide +kernel
theorem d1_8 : decode jdk_52_method_3_code 8 = .ok (.invokespecial 19, 3) := by decide +kernel
theorem d1_11 : decode jdk_52_method_3_code 11 = .ok (.athrow, 1) := by decide +kernel
theorem d1_12 : decode jdk_52_method_3_code 12 = .ok (.iload_n 0, 1) := by decide +kernel
theorem d1_13 : decode jdk_52_method_3_code 13 = .ok (.ldc 20, 2) := by decide +kernel
theorem d1_15 : decode jdk_52_method_3_code 15 = .ok (.if_icmp .lt 40, 3) := by decide +kernel
theorem d1_18 : decode jdk_52_method_3_code 18 = .ok (.new 21, 3) := by decide +kernel
theorem d1_21 : decode jdk_52_method_3_code 21 = .ok (.dup, 1) := by decide +kernel
theorem d1_22 : decode jdk_52_method_3_code 22 = .ok (.new 23, 3) := by decide +kernel
theorem d1_25 : decode jdk_52_method_3_code 25 = .ok (.dup, 1) := by decide +kernel
theorem d1_26 : decode jdk_52_method_3_code 26 = .ok (.invokespecial 25, 3) := by decide +kernel
theorem d1_29 : decode jdk_52_method_3_code 29 = .ok (.ldc 26, 2) := by decide +kernel
theorem d1_31 : decode jdk_52_method_3_code 31 = .ok (.invokevirtual 28, 3) := by decide +kernel
theorem d1_34 : decode jdk_52_method_3_code 34 = .ok (.iload_n 0, 1) := by decide +kernel
theorem d1_35 : decode jdk_52_method_3_code 35 = .ok (.invokevirtual 32, 3) := by decide +kernel
theorem d1_38 : decode jdk_52_method_3_code 38 = .ok (.ldc 35, 2) := by decide +kernel
theorem d1_40 : decode jdk_52_method_3_code 40 = .ok (.invokevirtual 28, 3) := by decide +kernel
theorem d1_43 : decode jdk_52_method_3_code 43 = .ok (.ldc 20, 2) := by decide +kernel
theorem d1_45 : decode jdk_52_method_3_code 45 = .ok (.invokevirtual 32, 3) := by decide +kernel
theorem d1_48 : decode jdk_52_method_3_code 48 = .ok (.invokevirtual 37, 3) := by decide +kernel
theorem d1_51 : decode jdk_52_method_3_code 51 = .ok (.invokespecial 41, 3) := by decide +kernel
theorem d1_54 : decode jdk_52_method_3_code 54 = .ok (.athrow, 1) := by decide +kernel
theorem d1_55 : decode jdk_52_method_3_code 55 = .ok (.iload_n 0, 1) := by decide +kernel
theorem d1_56 : decode jdk_52_method_3_code 56 = .ok (.iconst 1, 1) := by decide +kernel
theorem d1_57 : decode jdk_52_method_3_code 57 = .ok (.ishl, 1) := by decide +kernel
theorem d1_58 : decode jdk_52_method_3_code 58 = .ok (.ireturn, 1) := by decide +kernel
abbrev Y1 : MethodName := ⟨"java/lang/StringUTF16", "newBytesLength", "(I)I"⟩
theorem ef_nbl1 (m : MethodId) (x0 : Int32)  : entryFrame m #[(.int x0)] 1 = mkF m 0 #[.val (.int x0)] [] := by first | (simp [entryFrame, mkF, argsToLocals, Value.category]; done) | rfl
def Qnbl1 (Z : State)  (h0 : Heap) (n0 : Nat) (v : Option Value) (h : Heap) (L : List Loc) : Prop := v = some (.int (2 : Int32)) ∧ Fr n0 L ∧ h = h0
set_option maxRecDepth 65536 in
set_option maxHeartbeats 40000000 in
theorem rmnbl1 (l : Launch) (Z : State) (a0 : Array Value) (hw : Hw Z a0) (ws : List Jvm.Cond)  (h0 : Heap) (n0 : Nat) (Z0 : n0 ≤ h0.size)  :
    MF l Z Y1 jdk_52_method_3_code 1 (some .int) ws ({ frames := 0, cells := 0, slots := 0, locals := 0 } : Room) #[(.int (1 : Int32))] h0 (Qnbl1 Z  h0 n0) := by
  refine MF.of pn_0 (fun m => ef_nbl1 m (1 : Int32)) ?_
  intro p e s m below meth c s₁ G X0 e0 hx hby hml hown hnm hlk hrt hZ hnd hG
  have N0 := Fr.nil n0
  refine Owe.iloadN X0.here hx (hb hby d1_0) rfl ?_
  refine Owe.ifYes X0.here hx (hb hby d1_1) rfl ((if0 _ _).trans (flt (by decide)).2.1) (pc' := 12) (by decide) (by decide) ?_
  refine Owe.iloadN X0.here hx (hb hby d1_12) rfl ?_
  refine Owe.ldcI X0 hx (v := (1073741823 : Int32)) hown (mvT hZ (wd hw 88)) (hb hby d1_13) ?_
  refine Owe.icmpYes X0.here hx (hb hby d1_15) rfl (tlt (by decide)).1 (pc' := 55) (by decide) (by decide) ?_
  refine Owe.iloadN X0.here hx (hb hby d1_55) rfl ?_
  refine Owe.iconst X0.here hx (hb hby d1_56) (w := (1 : Int32)) rfl ?_
  refine Owe.ishl X0.here hx (hb hby d1_57) rfl ?_
  refine Owe.retI X0 hx hlk hrt (hb hby d1_58) rfl fun fs hE => ?_
  refine hG _ _ ⟨_, _, rfl, ?_, frameMono hE (by decide) (by decide)⟩
  show Qnbl1 Z  h0 n0 _ s₁.heap _
  rw [e0]
  exact ⟨(congrArg (fun z => some (Value.int z)) (by decide)), N0, rfl⟩
theorem d2_0 : decode jdk_52_method_2_code 0 = .ok (.iload_n 0, 1) := by decide +kernel
theorem d2_1 : decode jdk_52_method_2_code 1 = .ok (.invokestatic 11, 3) := by decide +kernel
theorem d2_4 : decode jdk_52_method_2_code 4 = .ok (.newarray .byte, 2) := by decide +kernel
theorem d2_6 : decode jdk_52_method_2_code 6 = .ok (.areturn, 1) := by decide +kernel
abbrev Y2 : MethodName := ⟨"java/lang/StringUTF16", "newBytesFor", "(I)[B"⟩
theorem ef_nbf1 (m : MethodId) (x0 : Int32)  : entryFrame m #[(.int x0)] 1 = mkF m 0 #[.val (.int x0)] [] := by first | (simp [entryFrame, mkF, argsToLocals, Value.category]; done) | rfl
def Qnbf1 (Z : State)  (h0 : Heap) (n0 : Nat) (v : Option Value) (h : Heap) (L : List Loc) : Prop := ∃ (x1 : Addr), ∃ (kb1 : ClassId), v = some (.ref x1) ∧ Fr n0 L ∧ Keep h0 h [] ∧ n0 ≤ x1 ∧ h0.size ≤ x1 ∧ Arv Z h x1 kb1 .byte (2 : Int32) [(.int (0 : Int32)), (.int (0 : Int32))] (.int (0 : Int32))
set_option maxRecDepth 65536 in
set_option maxHeartbeats 40000000 in
theorem rmnbf1 (l : Launch) (Z : State) (a0 : Array Value) (hw : Hw Z a0) (ws : List Jvm.Cond)  (h0 : Heap) (n0 : Nat) (Z0 : n0 ≤ h0.size)  :
    MF l Z Y2 jdk_52_method_2_code 1 (some (.array .byte)) ws ({ frames := 1, cells := 1, slots := 2, locals := 12 } : Room) #[(.int (1 : Int32))] h0 (Qnbf1 Z  h0 n0) := by
  refine MF.of pn_0 (fun m => ef_nbf1 m (1 : Int32)) ?_
  intro p e s m below meth c s₁ G X0 e0 hx hby hml hown hnm hlk hrt hZ hnd hG
  have N0 := Fr.nil n0
  have K0 := Keep.refl h0 []
  refine Owe.iloadN X0.here hx (hb hby d2_0) rfl ?_
  refine Owe.stat X0 hx (y := Y1) hown (mvT hZ (wd hw 85)) (mvT hZ (wd hw 86)) (mvT hZ (wd hw 35)) (mvT hZ (wd hw 87)) (by decide) (backOf (W := 0) (rmnbl1 l Z a0 hw []  h0 n0 Z0 ) hZ (wd hw 87) (wd hw 35) (by decide) (by decide)) (by rw [hml]; rfl) (argsL := [(.int (1 : Int32))]) (rest := []) (lenOf pd_0 rfl) rfl (nb rfl) (hb hby d2_1) rfl e0 (by decide) (by decide) fun T4 v4 L4 X4 hQ4 => ?_
  obtain ⟨rfl, Nq4, e4⟩ := hQ4
  have N4 := Fr.app N0 Nq4
  refine Owe.newarr X4 hx hZ (aty := .byte) (wd hw 16) e4 (hb hby d2_4) rfl (by decide) (cap := 2) (by decide) (by decide) (by decide) (by decide) fun T5 h5 b5 k5 g5 X5 e5 E5 V5 => ?_
  have sz_b5 := Nat.le_trans K0.1 (Nat.le_of_eq g5.symm)
  have ge_b5 := Nat.le_trans Z0 (Nat.le_of_eq g5.symm)
  have K_6 := K0.ext E5
  have Z_7 := Nat.le_trans Z0 E5.1
  have V_b5_5 : Arv Z h5 b5 k5 .byte (2 : Int32) [(.int (0 : Int32)), (.int (0 : Int32))] (.int (0 : Int32)) := V5.pad (pad_rep [] (.int (0 : Int32)) 2)
  refine Owe.retR X5 hx hlk (t := (.array .byte)) hrt rfl rfl rfl (hb hby d2_6) rfl fun fs hE => ?_
  refine hG _ _ ⟨_, _, rfl, ?_, frameMono hE (by decide) (by decide)⟩
  show Qnbf1 Z  h0 n0 _ T5.heap _
  rw [e5]
  exact ⟨b5, k5, rfl, N4, K_6, ge_b5, sz_b5, V_b5_5⟩
theorem d3_0 : decode jdk_52_method_4_code 0 = .ok (.getstatic 44, 3) := by decide +kernel
theorem d3_3 : decode jdk_52_method_4_code 3 = .ok (.ifCond .ne 25, 3) := by decide +kernel
theorem d3_6 : decode jdk_52_method_4_code 6 = .ok (.iload_n 1, 1) := by decide +kernel
theorem d3_7 : decode jdk_52_method_4_code 7 = .ok (.ifCond .lt 11, 3) := by decide +kernel
theorem d3_10 : decode jdk_52_method_4_code 10 = .ok (.iload_n 1, 1) := by decide +kernel
theorem d3_11 : decode jdk_52_method_4_code 11 = .ok (.aload_n 0, 1) := by decide +kernel
theorem d3_12 : decode jdk_52_method_4_code 12 = .ok (.invokestatic 48, 3) := by decide +kernel
theorem d3_15 : decode jdk_52_method_4_code 15 = .ok (.if_icmp .lt 13, 3) := by decide +kernel
theorem d3_18 : decode jdk_52_method_4_code 18 = .ok (.new 52, 3) := by decide +kernel
theorem d3_21 : decode jdk_52_method_4_code 21 = .ok (.dup, 1) := by decide +kernel
theorem d3_22 : decode jdk_52_method_4_code 22 = .ok (.ldc 54, 2) := by decide +kernel
theorem d3_24 : decode jdk_52_method_4_code 24 = .ok (.invokespecial 56, 3) := by decide +kernel
theorem d3_27 : decode jdk_52_method_4_code 27 = .ok (.athrow, 1) := by decide +kernel
theorem d3_28 : decode jdk_52_method_4_code 28 = .ok (.iload_n 1, 1) := by decide +kernel
theorem d3_29 : decode jdk_52_method_4_code 29 = .ok (.iconst 1, 1) := by decide +kernel
theorem d3_30 : decode jdk_52_method_4_code 30 = .ok (.ishl, 1) := by decide +kernel
theorem d3_31 : decode jdk_52_method_4_code 31 = .ok (.istore_n 1, 1) := by decide +kernel
theorem d3_32 : decode jdk_52_method_4_code 32 = .ok (.aload_n 0, 1) := by decide +kernel
theorem d3_33 : decode jdk_52_method_4_code 33 = .ok (.iload_n 1, 1) := by decide +kernel
theorem d3_34 : decode jdk_52_method_4_code 34 = .ok (.iinc 1 1, 3) := by decide +kernel
theorem d3_37 : decode jdk_52_method_4_code 37 = .ok (.iload_n 2, 1) := by decide +kernel
theorem d3_38 : decode jdk_52_method_4_code 38 = .ok (.getstatic 59, 3) := by decide +kernel
theorem d3_41 : decode jdk_52_method_4_code 41 = .ok (.ishr, 1) := by decide +kernel
theorem d3_42 : decode jdk_52_method_4_code 42 = .ok (.i2b, 1) := by decide +kernel
theorem d3_43 : decode jdk_52_method_4_code 43 = .ok (.bastore, 1) := by decide +kernel
theorem d3_44 : decode jdk_52_method_4_code 44 = .ok (.aload_n 0, 1) := by decide +kernel
theorem d3_45 : decode jdk_52_method_4_code 45 = .ok (.iload_n 1, 1) := by decide +kernel
theorem d3_46 : decode jdk_52_method_4_code 46 = .ok (.iload_n 2, 1) := by decide +kernel
theorem d3_47 : decode jdk_52_method_4_code 47 = .ok (.getstatic 63, 3) := by decide +kernel
theorem d3_50 : decode jdk_52_method_4_code 50 = .ok (.ishr, 1) := by decide +kernel
theorem d3_51 : decode jdk_52_method_4_code 51 = .ok (.i2b, 1) := by decide +kernel
theorem d3_52 : decode jdk_52_method_4_code 52 = .ok (.bastore, 1) := by decide +kernel
theorem d3_53 : decode jdk_52_method_4_code 53 = .ok (.return_, 1) := by decide +kernel
abbrev Y3 : MethodName := ⟨"java/lang/StringUTF16", "putChar", "([BII)V"⟩
theorem ef_ptc1_0 (m : MethodId) (x0 : Addr) (x1 : Int32) (x2 : Int32)  : entryFrame m #[(.ref x0), (.int x1), (.int x2)] 3 = mkF m 0 #[.val (.ref x0), .val (.int x1), .val (.int x2)] [] := by first | (simp [entryFrame, mkF, argsToLocals, Value.category]; done) | rfl
def Qptc1_0 (Z : State) (a1 : Addr) (k1 : ClassId) (c1 : Int32) (b0 : Int32) (b1 : Int32) (h0 : Heap) (n0 : Nat) (v : Option Value) (h : Heap) (L : List Loc) : Prop := v = none ∧ Fr n0 L ∧ Keep h0 h [a1] ∧ Arv Z h a1 k1 .byte (2 : Int32) [(.int (lo1 c1)), (.int (hi1 c1))] (.int (0 : Int32))
set_option maxRecDepth 65536 in
set_option maxHeartbeats 40000000 in
theorem rmptc1_0 (l : Launch) (Z : State) (a0 : Array Value) (hw : Hw Z a0) (ws : List Jvm.Cond) (a1 : Addr) (k1 : ClassId) (c1 : Int32) (b0 : Int32) (b1 : Int32) (h0 : Heap) (n0 : Nat) (Z0 : n0 ≤ h0.size) (V_a1 : Arv Z h0 a1 k1 .byte (2 : Int32) [(.int b0), (.int b1)] (.int (0 : Int32))) (ge_a1 : n0 ≤ a1) (Ol : Old Z n0 h0) (S__assertionsDisabled : Sta Z Z.heap "java/lang/StringUTF16" "$assertionsDisabled" "Z" (.int (1 : Int32))) (S_HI_BYTE_SHIFT : Sta Z Z.heap "java/lang/StringUTF16" "HI_BYTE_SHIFT" "I" (.int (0 : Int32))) (S_LO_BYTE_SHIFT : Sta Z Z.heap "java/lang/StringUTF16" "LO_BYTE_SHIFT" "I" (.int (8 : Int32))) :
    MF l Z Y3 jdk_52_method_4_code 3 none ws ({ frames := 0, cells := 0, slots := 0, locals := 0 } : Room) #[(.ref a1), (.int (0 : Int32)), (.int c1)] h0 (Qptc1_0 Z a1 k1 c1 b0 b1 h0 n0) := by
  refine MF.of pn_0 (fun m => ef_ptc1_0 m a1 (0 : Int32) c1) ?_
  intro p e s m below meth c s₁ G X0 e0 hx hby hml hown hnm hlk hrt hZ hnd hG
  have N0 := Fr.nil n0
  have K0 := Keep.refl h0 [a1]
  refine Owe.gets X0 hx hZ hown (wd hw 92) Via.refl e0 (S__assertionsDisabled.ext Ol.2) (hb hby d3_0) fun T8 X8 e8 => ?_
  refine Owe.ifYes X8.here hx (hb hby d3_3) rfl ((if0 _ _).trans (feq (by decide)).2) (pc' := 28) (by decide) (by decide) ?_
  refine Owe.iloadN X8.here hx (hb hby d3_28) rfl ?_
  refine Owe.iconst X8.here hx (hb hby d3_29) (w := (1 : Int32)) rfl ?_
  refine Owe.ishl X8.here hx (hb hby d3_30) rfl ?_
  refine Owe.istoreN X8.here hx (hb hby d3_31) rfl (l' := #[.val (.ref a1), .val (.int (0 : Int32)), .val (.int c1)]) rfl ?_
  refine Owe.aloadN X8.here hx (hb hby d3_32) rfl rfl ?_
  refine Owe.iloadN X8.here hx (hb hby d3_33) rfl ?_
  refine Owe.iinc X8.here hx (hb hby d3_34) rfl (l' := #[.val (.ref a1), .val (.int (1 : Int32)), .val (.int c1)]) rfl ?_
  refine Owe.iloadN X8.here hx (hb hby d3_37) rfl ?_
  refine Owe.gets X8 hx hZ hown (wd hw 93) Via.refl e8 (S_HI_BYTE_SHIFT.ext Ol.2) (hb hby d3_38) fun T9 X9 e9 => ?_
  refine Owe.ishr X9.here hx (hb hby d3_41) rfl ?_
  refine Owe.i2b X9.here hx (hb hby d3_42) rfl ?_
  refine Owe.bastore X9 hx hZ e9 V_a1 (x := ((c1 >>> ((0 : Int32) &&& 31)).toInt8.toInt32)) 0 rfl (nb rfl) (by decide) (hb hby d3_43) rfl fun T10 h10 X10 e10 W10 (V10 : Arv Z h10 a1 k1 .byte (2 : Int32) [(.int (((c1 >>> ((0 : Int32) &&& 31)).toInt8.toInt32).toInt8.toInt32)), (.int b1)] (.int (0 : Int32))) => ?_
  have K_11 := K0.wr W10 (Or.inl (List.mem_of_getElem? (i := 0) rfl))
  have Ol_12 := Ol.wr W10 ge_a1
  have Z_13 := Nat.le_trans Z0 (Keep.of_wr W10).1
  have N10 := Fr.snoc X10 N0 ge_a1
  refine Owe.aloadN X10.here hx (hb hby d3_44) rfl rfl ?_
  refine Owe.iloadN X10.here hx (hb hby d3_45) rfl ?_
  refine Owe.iloadN X10.here hx (hb hby d3_46) rfl ?_
  refine Owe.gets X10 hx hZ hown (wd hw 94) Via.refl e10 (S_LO_BYTE_SHIFT.ext Ol_12.2) (hb hby d3_47) fun T14 X14 e14 => ?_
  refine Owe.ishr X14.here hx (hb hby d3_50) rfl ?_
  refine Owe.i2b X14.here hx (hb hby d3_51) rfl ?_
  refine Owe.bastore X14 hx hZ e14 V10 (x := ((c1 >>> ((8 : Int32) &&& 31)).toInt8.toInt32)) 1 rfl (nb rfl) (by decide) (hb hby d3_52) rfl fun T15 h15 X15 e15 W15 (V15 : Arv Z h15 a1 k1 .byte (2 : Int32) [(.int (((c1 >>> ((0 : Int32) &&& 31)).toInt8.toInt32).toInt8.toInt32)), (.int (((c1 >>> ((8 : Int32) &&& 31)).toInt8.toInt32).toInt8.toInt32))] (.int (0 : Int32))) => ?_
  have K_16 := K_11.wr W15 (Or.inl (List.mem_of_getElem? (i := 0) rfl))
  have Ol_17 := Ol_12.wr W15 ge_a1
  have Z_18 := Nat.le_trans Z_13 (Keep.of_wr W15).1
  have N15 := Fr.snoc X15 N10 ge_a1
  refine Owe.ret0 X15 hx hlk hrt (hb hby d3_53) rfl fun fs hE => ?_
  refine hG _ _ ⟨_, _, rfl, ?_, frameMono hE (by decide) (by decide)⟩
  show Qptc1_0 Z a1 k1 c1 b0 b1 h0 n0 _ T15.heap _
  rw [e15]
  exact ⟨rfl, N15, K_16, V15⟩
theorem d4_0 : decode jdk_52_method_14_code 0 = .ok (.iload_n 2, 1) := by decide +kernel
theorem d4_1 : decode jdk_52_method_14_code 1 = .ok (.invokestatic 107, 3) := by decide +kernel
theorem d4_4 : decode jdk_52_method_14_code 4 = .ok (.astore_n 3, 1) := by decide +kernel
theorem d4_5 : decode jdk_52_method_14_code 5 = .ok (.iconst 0, 1) := by decide +kernel
theorem d4_6 : decode jdk_52_method_14_code 6 = .ok (.istore 4, 2) := by decide +kernel
theorem d4_8 : decode jdk_52_method_14_code 8 = .ok (.iload 4, 2) := by decide +kernel
theorem d4_10 : decode jdk_52_method_14_code 10 = .ok (.iload_n 2, 1) := by decide +kernel
theorem d4_11 : decode jdk_52_method_14_code 11 = .ok (.if_icmp .ge 21, 3) := by decide +kernel
theorem d4_14 : decode jdk_52_method_14_code 14 = .ok (.aload_n 3, 1) := by decide +kernel
theorem d4_15 : decode jdk_52_method_14_code 15 = .ok (.iload 4, 2) := by decide +kernel
theorem d4_17 : decode jdk_52_method_14_code 17 = .ok (.aload_n 0, 1) := by decide +kernel
theorem d4_18 : decode jdk_52_method_14_code 18 = .ok (.iload_n 1, 1) := by decide +kernel
theorem d4_19 : decode jdk_52_method_14_code 19 = .ok (.caload, 1) := by decide +kernel
theorem d4_20 : decode jdk_52_method_14_code 20 = .ok (.invokestatic 111, 3) := by decide +kernel
theorem d4_23 : decode jdk_52_method_14_code 23 = .ok (.iinc 1 1, 3) := by decide +kernel
theorem d4_26 : decode jdk_52_method_14_code 26 = .ok (.iinc 4 1, 3) := by decide +kernel
theorem d4_29 : decode jdk_52_method_14_code 29 = .ok (.goto (-21), 3) := by decide +kernel
theorem d4_32 : decode jdk_52_method_14_code 32 = .ok (.aload_n 3, 1) := by decide +kernel
theorem d4_33 : decode jdk_52_method_14_code 33 = .ok (.areturn, 1) := by decide +kernel
abbrev Y4 : MethodName := ⟨"java/lang/StringUTF16", "toBytes", "([CII)[B"⟩
theorem ef_tob1 (m : MethodId) (x0 : Addr) (x1 : Int32) (x2 : Int32)  : entryFrame m #[(.ref x0), (.int x1), (.int x2)] 5 = mkF m 0 #[.val (.ref x0), .val (.int x1), .val (.int x2), .unset, .unset] [] := by first | (simp [entryFrame, mkF, argsToLocals, Value.category]; done) | rfl
def Qtob1 (Z : State) (a1 : Addr) (k1 : ClassId) (v0 : Int32) (h0 : Heap) (n0 : Nat) (v : Option Value) (h : Heap) (L : List Loc) : Prop := ∃ (x1 : Addr), ∃ (kb1 : ClassId), v = some (.ref x1) ∧ Fr n0 L ∧ Keep h0 h [] ∧ n0 ≤ x1 ∧ h0.size ≤ x1 ∧ Arv Z h x1 kb1 .byte (2 : Int32) [(.int (lo1 v0)), (.int (hi1 v0))] (.int (0 : Int32))
set_option maxRecDepth 65536 in
set_option maxHeartbeats 40000000 in
theorem rmtob1 (l : Launch) (Z : State) (a0 : Array Value) (hw : Hw Z a0) (ws : List Jvm.Cond) (a1 : Addr) (k1 : ClassId) (v0 : Int32) (h0 : Heap) (n0 : Nat) (Z0 : n0 ≤ h0.size) (V_a1 : Arv Z h0 a1 k1 .char (1 : Int32) [(.int v0)] (.int (0 : Int32))) (Ol : Old Z n0 h0) (S__assertionsDisabled : Sta Z Z.heap "java/lang/StringUTF16" "$assertionsDisabled" "Z" (.int (1 : Int32))) (S_HI_BYTE_SHIFT : Sta Z Z.heap "java/lang/StringUTF16" "HI_BYTE_SHIFT" "I" (.int (0 : Int32))) (S_LO_BYTE_SHIFT : Sta Z Z.heap "java/lang/StringUTF16" "LO_BYTE_SHIFT" "I" (.int (8 : Int32))) :
    MF l Z Y4 jdk_52_method_14_code 5 (some (.array .byte)) ws ({ frames := 2, cells := 1, slots := 2, locals := 24 } : Room) #[(.ref a1), (.int (0 : Int32)), (.int (1 : Int32))] h0 (Qtob1 Z a1 k1 v0 h0 n0) := by
  refine MF.of pn_0 (fun m => ef_tob1 m a1 (0 : Int32) (1 : Int32)) ?_
  intro p e s m below meth c s₁ G X0 e0 hx hby hml hown hnm hlk hrt hZ hnd hG
  have N0 := Fr.nil n0
  have K0 := Keep.refl h0 []
  refine Owe.iloadN X0.here hx (hb hby d4_0) rfl ?_
  refine Owe.stat X0 hx (y := Y2) hown (mvT hZ (wd hw 82)) (mvT hZ (wd hw 83)) (mvT hZ (wd hw 35)) (mvT hZ (wd hw 84)) (by decide) (backOf (W := 0) (rmnbf1 l Z a0 hw []  h0 n0 Z0 ) hZ (wd hw 84) (wd hw 35) (by decide) (by decide)) (by rw [hml]; rfl) (argsL := [(.int (1 : Int32))]) (rest := []) (lenOf pd_1 rfl) rfl (nb rfl) (hb hby d4_1) rfl e0 (by decide) (by decide) fun T19 v19 L19 X19 hQ19 => ?_
  obtain ⟨x1_19, kb1_19, rfl, Nq19, K19, ge_x1_19, fresh_x1_19, V_x1_19⟩ := hQ19
  have N19 := Fr.app N0 Nq19
  have K_20 := K0.trans K19 all0
  have V_a1_21 := V_a1.keep K19 nin0
  have Ol_22 := Ol.keep K19 all0
  have Z_23 := Nat.le_trans Z0 K19.1
  have ne_a1_x1_19 : a1 ≠ x1_19 := Nat.ne_of_lt (Nat.lt_of_lt_of_le V_a1.lt fresh_x1_19)
  have sz_x1_19 := Nat.le_trans K0.1 fresh_x1_19
  refine Owe.astoreN X19.here hx (hb hby d4_4) rfl rfl (l' := #[.val (.ref a1), .val (.int (0 : Int32)), .val (.int (1 : Int32)), .val (.ref x1_19), .unset]) rfl ?_
  refine Owe.iconst X19.here hx (hb hby d4_5) (w := (0 : Int32)) rfl ?_
  refine Owe.istore X19.here hx (hb hby d4_6) rfl (l' := #[.val (.ref a1), .val (.int (0 : Int32)), .val (.int (1 : Int32)), .val (.ref x1_19), .val (.int (0 : Int32))]) rfl ?_
  refine Owe.iload X19.here hx (hb hby d4_8) rfl ?_
  refine Owe.iloadN X19.here hx (hb hby d4_10) rfl ?_
  refine Owe.icmpNo X19.here hx (hb hby d4_11) rfl (tlt (by decide)).2.1 ?_
  refine Owe.aloadN X19.here hx (hb hby d4_14) rfl rfl ?_
  refine Owe.iload X19.here hx (hb hby d4_15) rfl ?_
  refine Owe.aloadN X19.here hx (hb hby d4_17) rfl rfl ?_
  refine Owe.iloadN X19.here hx (hb hby d4_18) rfl ?_
  refine Owe.caload X19 hx hZ rfl V_a1_21 (v := (.int v0)) (by decide) rfl (hb hby d4_19) rfl ?_
  refine Owe.stat X19 hx (y := Y3) hown (mvT hZ (wd hw 89)) (mvT hZ (wd hw 90)) (mvT hZ (wd hw 35)) (mvT hZ (wd hw 91)) (by decide) (backOf (W := 0) (rmptc1_0 l Z a0 hw [] x1_19 kb1_19 v0 (0 : Int32) (0 : Int32) T19.heap n0 Z_23 V_x1_19 ge_x1_19 Ol_22 S__assertionsDisabled S_HI_BYTE_SHIFT S_LO_BYTE_SHIFT) hZ (wd hw 91) (wd hw 35) (by decide) (by decide)) (by rw [hml]; rfl) (argsL := [(.ref x1_19), (.int (0 : Int32)), (.int v0)]) (rest := []) (lenOf pd_2 rfl) rfl (nb rfl) (hb hby d4_20) rfl rfl (by decide) (by decide) fun T24 v24 L24 X24 hQ24 => ?_
  obtain ⟨rfl, Nq24, K24, V_a1_24⟩ := hQ24
  have N24 := Fr.app N19 Nq24
  have K_25 := K_20.trans K24 (allS (Or.inr sz_x1_19) all0)
  have V_a1_26 := V_a1_21.keep K24 (ninS ne_a1_x1_19 nin0)
  have Ol_27 := Ol_22.keep K24 (allS ge_x1_19 all0)
  have Z_28 := Nat.le_trans Z_23 K24.1
  refine Owe.iinc X24.here hx (hb hby d4_23) rfl (l' := #[.val (.ref a1), .val (.int (1 : Int32)), .val (.int (1 : Int32)), .val (.ref x1_19), .val (.int (0 : Int32))]) rfl ?_
  refine Owe.iinc X24.here hx (hb hby d4_26) rfl (l' := #[.val (.ref a1), .val (.int (1 : Int32)), .val (.int (1 : Int32)), .val (.ref x1_19), .val (.int (1 : Int32))]) rfl ?_
  refine Owe.goto X24.here hx (hb hby d4_29) (pc' := 8) (by decide) (by decide) ?_
  refine Owe.iload X24.here hx (hb hby d4_8) rfl ?_
  refine Owe.iloadN X24.here hx (hb hby d4_10) rfl ?_
  refine Owe.icmpYes X24.here hx (hb hby d4_11) rfl (flt (by decide)).2.1 (pc' := 32) (by decide) (by decide) ?_
  refine Owe.aloadN X24.here hx (hb hby d4_32) rfl rfl ?_
  refine Owe.retR X24 hx hlk (t := (.array .byte)) hrt rfl rfl rfl (hb hby d4_33) rfl fun fs hE => ?_
  refine hG _ _ ⟨_, _, rfl, ?_, frameMono hE (by decide) (by decide)⟩
  show Qtob1 Z a1 k1 v0 h0 n0 _ T24.heap _
  exact ⟨x1_19, kb1_19, rfl, N24, K_25, ge_x1_19, sz_x1_19, V_a1_24⟩
theorem d5_0 : decode jdk_52_method_21_code 0 = .ok (.iconst 0, 1) := by decide +kernel
theorem d5_1 : decode jdk_52_method_21_code 1 = .ok (.istore 5, 2) := by decide +kernel
theorem d5_3 : decode jdk_52_method_21_code 3 = .ok (.iload 5, 2) := by decide +kernel
theorem d5_5 : decode jdk_52_method_21_code 5 = .ok (.iload 4, 2) := by decide +kernel
theorem d5_7 : decode jdk_52_method_21_code 7 = .ok (.if_icmp .ge 37, 3) := by decide +kernel
theorem d5_10 : decode jdk_52_method_21_code 10 = .ok (.aload_n 0, 1) := by decide +kernel
theorem d5_11 : decode jdk_52_method_21_code 11 = .ok (.iload_n 1, 1) := by decide +kernel
theorem d5_12 : decode jdk_52_method_21_code 12 = .ok (.caload, 1) := by decide +kernel
theorem d5_13 : decode jdk_52_method_21_code 13 = .ok (.istore 6, 2) := by decide +kernel
theorem d5_15 : decode jdk_52_method_21_code 15 = .ok (.iload 6, 2) := by decide +kernel
theorem d5_17 : decode jdk_52_method_21_code 17 = .ok (.sipush 255, 3) := by decide +kernel
theorem d5_20 : decode jdk_52_method_21_code 20 = .ok (.if_icmp .le 6, 3) := by decide +kernel
theorem d5_23 : decode jdk_52_method_21_code 23 = .ok (.iload 5, 2) := by decide +kernel
theorem d5_25 : decode jdk_52_method_21_code 25 = .ok (.ireturn, 1) := by decide +kernel
theorem d5_26 : decode jdk_52_method_21_code 26 = .ok (.aload_n 2, 1) := by decide +kernel
theorem d5_27 : decode jdk_52_method_21_code 27 = .ok (.iload_n 3, 1) := by decide +kernel
theorem d5_28 : decode jdk_52_method_21_code 28 = .ok (.iload 6, 2) := by decide +kernel
theorem d5_30 : decode jdk_52_method_21_code 30 = .ok (.i2b, 1) := by decide +kernel
theorem d5_31 : decode jdk_52_method_21_code 31 = .ok (.bastore, 1) := by decide +kernel
theorem d5_32 : decode jdk_52_method_21_code 32 = .ok (.iinc 1 1, 3) := by decide +kernel
theorem d5_35 : decode jdk_52_method_21_code 35 = .ok (.iinc 3 1, 3) := by decide +kernel
theorem d5_38 : decode jdk_52_method_21_code 38 = .ok (.iinc 5 1, 3) := by decide +kernel
theorem d5_41 : decode jdk_52_method_21_code 41 = .ok (.goto (-38), 3) := by decide +kernel
theorem d5_44 : decode jdk_52_method_21_code 44 = .ok (.iload 4, 2) := by decide +kernel
theorem d5_46 : decode jdk_52_method_21_code 46 = .ok (.ireturn, 1) := by decide +kernel
abbrev Y5 : MethodName := ⟨"java/lang/StringUTF16", "compress", "([CI[BII)I"⟩
theorem ef_cmi1_0 (m : MethodId) (x0 : Addr) (x1 : Int32) (x2 : Addr) (x3 : Int32) (x4 : Int32)  : entryFrame m #[(.ref x0), (.int x1), (.ref x2), (.int x3), (.int x4)] 7 = mkF m 0 #[.val (.ref x0), .val (.int x1), .val (.ref x2), .val (.int x3), .val (.int x4), .unset, .unset] [] := by first | (simp [entryFrame, mkF, argsToLocals, Value.category]; done) | rfl
def Qcmi1_0 (Z : State) (a1 : Addr) (k1 : ClassId) (a2 : Addr) (k2 : ClassId) (v0 : Int32) (h0 : Heap) (n0 : Nat) (v : Option Value) (h : Heap) (L : List Loc) : Prop := v = some (.int (0 : Int32)) ∧ Fr n0 L ∧ Keep h0 h [a2]
set_option maxRecDepth 65536 in
set_option maxHeartbeats 40000000 in
theorem rmcmi1_0 (l : Launch) (Z : State) (a0 : Array Value) (hw : Hw Z a0) (ws : List Jvm.Cond) (a1 : Addr) (k1 : ClassId) (a2 : Addr) (k2 : ClassId) (v0 : Int32) (h0 : Heap) (n0 : Nat) (Z0 : n0 ≤ h0.size) (V_a1 : Arv Z h0 a1 k1 .char (1 : Int32) [(.int v0)] (.int (0 : Int32))) (V_a2 : Arv Z h0 a2 k2 .byte (1 : Int32) [(.int (0 : Int32))] (.int (0 : Int32))) (ge_a2 : n0 ≤ a2) (ne_a1_a2 : a1 ≠ a2) (hg : (255 : Int32) < v0) :
    MF l Z Y5 jdk_52_method_21_code 7 (some .int) ws ({ frames := 0, cells := 0, slots := 0, locals := 0 } : Room) #[(.ref a1), (.int (0 : Int32)), (.ref a2), (.int (0 : Int32)), (.int (1 : Int32))] h0 (Qcmi1_0 Z a1 k1 a2 k2 v0 h0 n0) := by
  refine MF.of pn_0 (fun m => ef_cmi1_0 m a1 (0 : Int32) a2 (0 : Int32) (1 : Int32)) ?_
  intro p e s m below meth c s₁ G X0 e0 hx hby hml hown hnm hlk hrt hZ hnd hG
  have N0 := Fr.nil n0
  have K0 := Keep.refl h0 [a2]
  refine Owe.iconst X0.here hx (hb hby d5_0) (w := (0 : Int32)) rfl ?_
  refine Owe.istore X0.here hx (hb hby d5_1) rfl (l' := #[.val (.ref a1), .val (.int (0 : Int32)), .val (.ref a2), .val (.int (0 : Int32)), .val (.int (1 : Int32)), .val (.int (0 : Int32)), .unset]) rfl ?_
  refine Owe.iload X0.here hx (hb hby d5_3) rfl ?_
  refine Owe.iload X0.here hx (hb hby d5_5) rfl ?_
  refine Owe.icmpNo X0.here hx (hb hby d5_7) rfl (tlt (by decide)).2.1 ?_
  refine Owe.aloadN X0.here hx (hb hby d5_10) rfl rfl ?_
  refine Owe.iloadN X0.here hx (hb hby d5_11) rfl ?_
  refine Owe.caload X0 hx hZ e0 V_a1 (v := (.int v0)) (by decide) rfl (hb hby d5_12) rfl ?_
  refine Owe.istore X0.here hx (hb hby d5_13) rfl (l' := #[.val (.ref a1), .val (.int (0 : Int32)), .val (.ref a2), .val (.int (0 : Int32)), .val (.int (1 : Int32)), .val (.int (0 : Int32)), .val (.int v0)]) rfl ?_
  refine Owe.iload X0.here hx (hb hby d5_15) rfl ?_
  refine Owe.sipush X0.here hx (hb hby d5_17) (w := (255 : Int32)) rfl ?_
  refine Owe.icmpNo X0.here hx (hb hby d5_20) rfl (tlt hg).2.2.2 ?_
  refine Owe.iload X0.here hx (hb hby d5_23) rfl ?_
  refine Owe.retI X0 hx hlk hrt (hb hby d5_25) rfl fun fs hE => ?_
  refine hG _ _ ⟨_, _, rfl, ?_, frameMono hE (by decide) (by decide)⟩
  show Qcmi1_0 Z a1 k1 a2 k2 v0 h0 n0 _ s₁.heap _
  rw [e0]
  exact ⟨rfl, N0, K0⟩
theorem ef_cmi1_1 (m : MethodId) (x0 : Addr) (x1 : Int32) (x2 : Addr) (x3 : Int32) (x4 : Int32)  : entryFrame m #[(.ref x0), (.int x1), (.ref x2), (.int x3), (.int x4)] 7 = mkF m 0 #[.val (.ref x0), .val (.int x1), .val (.ref x2), .val (.int x3), .val (.int x4), .unset, .unset] [] := by first | (simp [entryFrame, mkF, argsToLocals, Value.category]; done) | rfl
def Qcmi1_1 (Z : State) (a1 : Addr) (k1 : ClassId) (a2 : Addr) (k2 : ClassId) (v0 : Int32) (h0 : Heap) (n0 : Nat) (v : Option Value) (h : Heap) (L : List Loc) : Prop := v = some (.int (1 : Int32)) ∧ Fr n0 L ∧ Keep h0 h [a2] ∧ Arv Z h a2 k2 .byte (1 : Int32) [(.int (la1 v0))] (.int (0 : Int32))
set_option maxRecDepth 65536 in
set_option maxHeartbeats 40000000 in
theorem rmcmi1_1 (l : Launch) (Z : State) (a0 : Array Value) (hw : Hw Z a0) (ws : List Jvm.Cond) (a1 : Addr) (k1 : ClassId) (a2 : Addr) (k2 : ClassId) (v0 : Int32) (h0 : Heap) (n0 : Nat) (Z0 : n0 ≤ h0.size) (V_a1 : Arv Z h0 a1 k1 .char (1 : Int32) [(.int v0)] (.int (0 : Int32))) (V_a2 : Arv Z h0 a2 k2 .byte (1 : Int32) [(.int (0 : Int32))] (.int (0 : Int32))) (ge_a2 : n0 ≤ a2) (ne_a1_a2 : a1 ≠ a2) (hl0 : ¬ (255 : Int32) < v0) :
    MF l Z Y5 jdk_52_method_21_code 7 (some .int) ws ({ frames := 0, cells := 0, slots := 0, locals := 0 } : Room) #[(.ref a1), (.int (0 : Int32)), (.ref a2), (.int (0 : Int32)), (.int (1 : Int32))] h0 (Qcmi1_1 Z a1 k1 a2 k2 v0 h0 n0) := by
  refine MF.of pn_0 (fun m => ef_cmi1_1 m a1 (0 : Int32) a2 (0 : Int32) (1 : Int32)) ?_
  intro p e s m below meth c s₁ G X0 e0 hx hby hml hown hnm hlk hrt hZ hnd hG
  have N0 := Fr.nil n0
  have K0 := Keep.refl h0 [a2]
  refine Owe.iconst X0.here hx (hb hby d5_0) (w := (0 : Int32)) rfl ?_
  refine Owe.istore X0.here hx (hb hby d5_1) rfl (l' := #[.val (.ref a1), .val (.int (0 : Int32)), .val (.ref a2), .val (.int (0 : Int32)), .val (.int (1 : Int32)), .val (.int (0 : Int32)), .unset]) rfl ?_
  refine Owe.iload X0.here hx (hb hby d5_3) rfl ?_
  refine Owe.iload X0.here hx (hb hby d5_5) rfl ?_
  refine Owe.icmpNo X0.here hx (hb hby d5_7) rfl (tlt (by decide)).2.1 ?_
  refine Owe.aloadN X0.here hx (hb hby d5_10) rfl rfl ?_
  refine Owe.iloadN X0.here hx (hb hby d5_11) rfl ?_
  refine Owe.caload X0 hx hZ e0 V_a1 (v := (.int v0)) (by decide) rfl (hb hby d5_12) rfl ?_
  refine Owe.istore X0.here hx (hb hby d5_13) rfl (l' := #[.val (.ref a1), .val (.int (0 : Int32)), .val (.ref a2), .val (.int (0 : Int32)), .val (.int (1 : Int32)), .val (.int (0 : Int32)), .val (.int v0)]) rfl ?_
  refine Owe.iload X0.here hx (hb hby d5_15) rfl ?_
  refine Owe.sipush X0.here hx (hb hby d5_17) (w := (255 : Int32)) rfl ?_
  refine Owe.icmpYes X0.here hx (hb hby d5_20) rfl (flt hl0).2.2.2 (pc' := 26) (by decide) (by decide) ?_
  refine Owe.aloadN X0.here hx (hb hby d5_26) rfl rfl ?_
  refine Owe.iloadN X0.here hx (hb hby d5_27) rfl ?_
  refine Owe.iload X0.here hx (hb hby d5_28) rfl ?_
  refine Owe.i2b X0.here hx (hb hby d5_30) rfl ?_
  refine Owe.bastore X0 hx hZ e0 V_a2 (x := (v0.toInt8.toInt32)) 0 rfl (nb rfl) (by decide) (hb hby d5_31) rfl fun T29 h29 X29 e29 W29 (V29 : Arv Z h29 a2 k2 .byte (1 : Int32) [(.int ((v0.toInt8.toInt32).toInt8.toInt32))] (.int (0 : Int32))) => ?_
  have K_30 := K0.wr W29 (Or.inl (List.mem_of_getElem? (i := 0) rfl))
  have V_a1_31 := V_a1.other W29 ne_a1_a2
  have Z_32 := Nat.le_trans Z0 (Keep.of_wr W29).1
  have N29 := Fr.snoc X29 N0 ge_a2
  refine Owe.iinc X29.here hx (hb hby d5_32) rfl (l' := #[.val (.ref a1), .val (.int (1 : Int32)), .val (.ref a2), .val (.int (0 : Int32)), .val (.int (1 : Int32)), .val (.int (0 : Int32)), .val (.int v0)]) rfl ?_
  refine Owe.iinc X29.here hx (hb hby d5_35) rfl (l' := #[.val (.ref a1), .val (.int (1 : Int32)), .val (.ref a2), .val (.int (1 : Int32)), .val (.int (1 : Int32)), .val (.int (0 : Int32)), .val (.int v0)]) rfl ?_
  refine Owe.iinc X29.here hx (hb hby d5_38) rfl (l' := #[.val (.ref a1), .val (.int (1 : Int32)), .val (.ref a2), .val (.int (1 : Int32)), .val (.int (1 : Int32)), .val (.int (1 : Int32)), .val (.int v0)]) rfl ?_
  refine Owe.goto X29.here hx (hb hby d5_41) (pc' := 3) (by decide) (by decide) ?_
  refine Owe.iload X29.here hx (hb hby d5_3) rfl ?_
  refine Owe.iload X29.here hx (hb hby d5_5) rfl ?_
  refine Owe.icmpYes X29.here hx (hb hby d5_7) rfl (flt (by decide)).2.1 (pc' := 44) (by decide) (by decide) ?_
  refine Owe.iload X29.here hx (hb hby d5_44) rfl ?_
  refine Owe.retI X29 hx hlk hrt (hb hby d5_46) rfl fun fs hE => ?_
  refine hG _ _ ⟨_, _, rfl, ?_, frameMono hE (by decide) (by decide)⟩
  show Qcmi1_1 Z a1 k1 a2 k2 v0 h0 n0 _ T29.heap _
  rw [e29]
  exact ⟨rfl, N29, K_30, V29⟩
theorem d6_0 : decode jdk_52_method_15_code 0 = .ok (.iload_n 1, 1) := by decide +kernel
theorem d6_1 : decode jdk_52_method_15_code 1 = .ok (.aload_n 0, 1) := by decide +kernel
theorem d6_2 : decode jdk_52_method_15_code 2 = .ok (.arraylength, 1) := by decide +kernel
theorem d6_3 : decode jdk_52_method_15_code 3 = .ok (.isub, 1) := by decide +kernel
theorem d6_4 : decode jdk_52_method_15_code 4 = .ok (.bipush 31, 2) := by decide +kernel
theorem d6_6 : decode jdk_52_method_15_code 6 = .ok (.iushr, 1) := by decide +kernel
theorem d6_7 : decode jdk_52_method_15_code 7 = .ok (.i2b, 1) := by decide +kernel
theorem d6_8 : decode jdk_52_method_15_code 8 = .ok (.ireturn, 1) := by decide +kernel
abbrev Y6 : MethodName := ⟨"java/lang/StringUTF16", "coderFromArrayLen", "([BI)B"⟩
theorem ef_cfa1_0 (m : MethodId) (x0 : Addr) (x1 : Int32)  : entryFrame m #[(.ref x0), (.int x1)] 2 = mkF m 0 #[.val (.ref x0), .val (.int x1)] [] := by first | (simp [entryFrame, mkF, argsToLocals, Value.category]; done) | rfl
def Qcfa1_0 (Z : State) (a1 : Addr) (k1 : ClassId) (vs : List Value) (h0 : Heap) (n0 : Nat) (v : Option Value) (h : Heap) (L : List Loc) : Prop := v = some (.int (0 : Int32)) ∧ Fr n0 L ∧ h = h0
set_option maxRecDepth 65536 in
set_option maxHeartbeats 40000000 in
theorem rmcfa1_0 (l : Launch) (Z : State) (a0 : Array Value) (hw : Hw Z a0) (ws : List Jvm.Cond) (a1 : Addr) (k1 : ClassId) (vs : List Value) (h0 : Heap) (n0 : Nat) (Z0 : n0 ≤ h0.size) (V_a1 : Arv Z h0 a1 k1 .byte (1 : Int32) vs (.int (0 : Int32))) :
    MF l Z Y6 jdk_52_method_15_code 2 (some .byte) ws ({ frames := 0, cells := 0, slots := 0, locals := 0 } : Room) #[(.ref a1), (.int (1 : Int32))] h0 (Qcfa1_0 Z a1 k1 vs h0 n0) := by
  refine MF.of pn_0 (fun m => ef_cfa1_0 m a1 (1 : Int32)) ?_
  intro p e s m below meth c s₁ G X0 e0 hx hby hml hown hnm hlk hrt hZ hnd hG
  have N0 := Fr.nil n0
  refine Owe.iloadN X0.here hx (hb hby d6_0) rfl ?_
  refine Owe.aloadN X0.here hx (hb hby d6_1) rfl rfl ?_
  refine Owe.arrlen X0 hx hZ e0 V_a1 (hb hby d6_2) rfl ?_
  refine Owe.isub X0.here hx (hb hby d6_3) rfl ?_
  refine Owe.bipush X0.here hx (hb hby d6_4) (w := (31 : Int32)) rfl ?_
  refine Owe.iushr X0.here hx (hb hby d6_6) rfl ?_
  refine Owe.i2b X0.here hx (hb hby d6_7) rfl ?_
  refine Owe.retN X0 hx hlk (t := .byte) hrt (by simp) (hb hby d6_8) rfl fun fs hE => ?_
  refine hG _ _ ⟨_, _, rfl, ?_, frameMono hE (by decide) (by decide)⟩
  show Qcfa1_0 Z a1 k1 vs h0 n0 _ s₁.heap _
  rw [e0]
  exact ⟨(congrArg (fun z => some (Value.int z)) (by decide)), N0, rfl⟩
theorem d7_0 : decode jdk_52_method_16_code 0 = .ok (.iload_n 2, 1) := by decide +kernel
theorem d7_1 : decode jdk_52_method_16_code 1 = .ok (.newarray .byte, 2) := by decide +kernel
theorem d7_3 : decode jdk_52_method_16_code 3 = .ok (.astore_n 3, 1) := by decide +kernel
theorem d7_4 : decode jdk_52_method_16_code 4 = .ok (.aload_n 0, 1) := by decide +kernel
theorem d7_5 : decode jdk_52_method_16_code 5 = .ok (.iload_n 1, 1) := by decide +kernel
theorem d7_6 : decode jdk_52_method_16_code 6 = .ok (.aload_n 3, 1) := by decide +kernel
theorem d7_7 : decode jdk_52_method_16_code 7 = .ok (.iconst 0, 1) := by decide +kernel
theorem d7_8 : decode jdk_52_method_16_code 8 = .ok (.iload_n 2, 1) := by decide +kernel
theorem d7_9 : decode jdk_52_method_16_code 9 = .ok (.invokestatic 115, 3) := by decide +kernel
theorem d7_12 : decode jdk_52_method_16_code 12 = .ok (.istore 4, 2) := by decide +kernel
theorem d7_14 : decode jdk_52_method_16_code 14 = .ok (.iload 4, 2) := by decide +kernel
theorem d7_16 : decode jdk_52_method_16_code 16 = .ok (.iload_n 2, 1) := by decide +kernel
theorem d7_17 : decode jdk_52_method_16_code 17 = .ok (.if_icmp .eq 40, 3) := by decide +kernel
theorem d7_20 : decode jdk_52_method_16_code 20 = .ok (.aload_n 0, 1) := by decide +kernel
theorem d7_21 : decode jdk_52_method_16_code 21 = .ok (.iload_n 1, 1) := by decide +kernel
theorem d7_22 : decode jdk_52_method_16_code 22 = .ok (.iload_n 2, 1) := by decide +kernel
theorem d7_23 : decode jdk_52_method_16_code 23 = .ok (.invokestatic 119, 3) := by decide +kernel
theorem d7_26 : decode jdk_52_method_16_code 26 = .ok (.astore 5, 2) := by decide +kernel
theorem d7_28 : decode jdk_52_method_16_code 28 = .ok (.aload 5, 2) := by decide +kernel
theorem d7_30 : decode jdk_52_method_16_code 30 = .ok (.iload 4, 2) := by decide +kernel
theorem d7_32 : decode jdk_52_method_16_code 32 = .ok (.invokestatic 71, 3) := by decide +kernel
theorem d7_35 : decode jdk_52_method_16_code 35 = .ok (.sipush 255, 3) := by decide +kernel
theorem d7_38 : decode jdk_52_method_16_code 38 = .ok (.if_icmp .gt 16, 3) := by decide +kernel
theorem d7_41 : decode jdk_52_method_16_code 41 = .ok (.aload 5, 2) := by decide +kernel
theorem d7_43 : decode jdk_52_method_16_code 43 = .ok (.iconst 0, 1) := by decide +kernel
theorem d7_44 : decode jdk_52_method_16_code 44 = .ok (.aload_n 3, 1) := by decide +kernel
theorem d7_45 : decode jdk_52_method_16_code 45 = .ok (.iconst 0, 1) := by decide +kernel
theorem d7_46 : decode jdk_52_method_16_code 46 = .ok (.iload_n 2, 1) := by decide +kernel
theorem d7_47 : decode jdk_52_method_16_code 47 = .ok (.invokestatic 123, 3) := by decide +kernel
theorem d7_50 : decode jdk_52_method_16_code 50 = .ok (.iload_n 2, 1) := by decide +kernel
theorem d7_51 : decode jdk_52_method_16_code 51 = .ok (.if_icmp .eq 6, 3) := by decide +kernel
theorem d7_54 : decode jdk_52_method_16_code 54 = .ok (.aload 5, 2) := by decide +kernel
theorem d7_56 : decode jdk_52_method_16_code 56 = .ok (.areturn, 1) := by decide +kernel
theorem d7_57 : decode jdk_52_method_16_code 57 = .ok (.aload_n 3, 1) := by decide +kernel
theorem d7_58 : decode jdk_52_method_16_code 58 = .ok (.areturn, 1) := by decide +kernel
abbrev Y7 : MethodName := ⟨"java/lang/StringUTF16", "compress", "([CII)[B"⟩
theorem ef_cma1_0 (m : MethodId) (x0 : Addr) (x1 : Int32) (x2 : Int32)  : entryFrame m #[(.ref x0), (.int x1), (.int x2)] 6 = mkF m 0 #[.val (.ref x0), .val (.int x1), .val (.int x2), .unset, .unset, .unset] [] := by first | (simp [entryFrame, mkF, argsToLocals, Value.category]; done) | rfl
def Qcma1_0 (Z : State) (a1 : Addr) (k1 : ClassId) (v0 : Int32) (h0 : Heap) (n0 : Nat) (v : Option Value) (h : Heap) (L : List Loc) : Prop := ∃ (x1 : Addr), ∃ (kb1 : ClassId), v = some (.ref x1) ∧ Fr n0 L ∧ Keep h0 h [] ∧ n0 ≤ x1 ∧ h0.size ≤ x1 ∧ Arv Z h x1 kb1 .byte (1 : Int32) [(.int (la1 v0))] (.int (0 : Int32))
set_option maxRecDepth 65536 in
set_option maxHeartbeats 40000000 in
theorem rmcma1_0 (l : Launch) (Z : State) (a0 : Array Value) (hw : Hw Z a0) (ws : List Jvm.Cond) (a1 : Addr) (k1 : ClassId) (v0 : Int32) (h0 : Heap) (n0 : Nat) (Z0 : n0 ≤ h0.size) (V_a1 : Arv Z h0 a1 k1 .char (1 : Int32) [(.int v0)] (.int (0 : Int32))) (hl0 : ¬ (255 : Int32) < v0) (Ol : Old Z n0 h0) (S__assertionsDisabled : Sta Z Z.heap "java/lang/StringUTF16" "$assertionsDisabled" "Z" (.int (1 : Int32))) (S_HI_BYTE_SHIFT : Sta Z Z.heap "java/lang/StringUTF16" "HI_BYTE_SHIFT" "I" (.int (0 : Int32))) (S_LO_BYTE_SHIFT : Sta Z Z.heap "java/lang/StringUTF16" "LO_BYTE_SHIFT" "I" (.int (8 : Int32))) :
    MF l Z Y7 jdk_52_method_16_code 6 (some (.array .byte)) ws ({ frames := 3, cells := 2, slots := 3, locals := 40 } : Room) #[(.ref a1), (.int (0 : Int32)), (.int (1 : Int32))] h0 (Qcma1_0 Z a1 k1 v0 h0 n0) := by
  refine MF.of pn_0 (fun m => ef_cma1_0 m a1 (0 : Int32) (1 : Int32)) ?_
  intro p e s m below meth c s₁ G X0 e0 hx hby hml hown hnm hlk hrt hZ hnd hG
  have N0 := Fr.nil n0
  have K0 := Keep.refl h0 []
  refine Owe.iloadN X0.here hx (hb hby d7_0) rfl ?_
  refine Owe.newarr X0 hx hZ (aty := .byte) (wd hw 16) e0 (hb hby d7_1) rfl (by decide) (cap := 1) (by decide) (by decide) (by decide) (by decide) fun T33 h33 b33 k33 g33 X33 e33 E33 V33 => ?_
  have ne_a1_b33 : a1 ≠ b33 := Nat.ne_of_lt (Nat.lt_of_lt_of_le V_a1.lt (Nat.le_of_eq g33.symm))
  have sz_b33 := Nat.le_trans K0.1 (Nat.le_of_eq g33.symm)
  have ge_b33 := Nat.le_trans Z0 (Nat.le_of_eq g33.symm)
  have K_34 := K0.ext E33
  have V_a1_35 := V_a1.ext E33
  have Ol_36 := Ol.ext E33
  have Z_37 := Nat.le_trans Z0 E33.1
  have V_b33_33 : Arv Z h33 b33 k33 .byte (1 : Int32) [(.int (0 : Int32))] (.int (0 : Int32)) := V33.pad (pad_rep [] (.int (0 : Int32)) 1)
  refine Owe.astoreN X33.here hx (hb hby d7_3) rfl rfl (l' := #[.val (.ref a1), .val (.int (0 : Int32)), .val (.int (1 : Int32)), .val (.ref b33), .unset, .unset]) rfl ?_
  refine Owe.aloadN X33.here hx (hb hby d7_4) rfl rfl ?_
  refine Owe.iloadN X33.here hx (hb hby d7_5) rfl ?_
  refine Owe.aloadN X33.here hx (hb hby d7_6) rfl rfl ?_
  refine Owe.iconst X33.here hx (hb hby d7_7) (w := (0 : Int32)) rfl ?_
  refine Owe.iloadN X33.here hx (hb hby d7_8) rfl ?_
  refine Owe.stat X33 hx (y := Y5) hown (mvT hZ (wd hw 37)) (mvT hZ (wd hw 38)) (mvT hZ (wd hw 35)) (mvT hZ (wd hw 39)) (by decide) (backOf (W := 0) (rmcmi1_1 l Z a0 hw [] a1 k1 b33 k33 v0 h33 n0 Z_37 V_a1_35 V_b33_33 ge_b33 ne_a1_b33 hl0) hZ (wd hw 39) (wd hw 35) (by decide) (by decide)) (by rw [hml]; rfl) (argsL := [(.ref a1), (.int (0 : Int32)), (.ref b33), (.int (0 : Int32)), (.int (1 : Int32))]) (rest := []) (lenOf pd_3 rfl) rfl (nb rfl) (hb hby d7_9) rfl e33 (by decide) (by decide) fun T38 v38 L38 X38 hQ38 => ?_
  obtain ⟨rfl, Nq38, K38, V_a2_38⟩ := hQ38
  have N38 := Fr.app N0 Nq38
  have K_39 := K_34.trans K38 (allS (Or.inr sz_b33) all0)
  have V_a1_40 := V_a1_35.keep K38 (ninS ne_a1_b33 nin0)
  have Ol_41 := Ol_36.keep K38 (allS ge_b33 all0)
  have Z_42 := Nat.le_trans Z_37 K38.1
  refine Owe.istore X38.here hx (hb hby d7_12) rfl (l' := #[.val (.ref a1), .val (.int (0 : Int32)), .val (.int (1 : Int32)), .val (.ref b33), .val (.int (1 : Int32)), .unset]) rfl ?_
  refine Owe.iload X38.here hx (hb hby d7_14) rfl ?_
  refine Owe.iloadN X38.here hx (hb hby d7_16) rfl ?_
  refine Owe.icmpYes X38.here hx (hb hby d7_17) rfl (teq (by decide)).1 (pc' := 57) (by decide) (by decide) ?_
  refine Owe.aloadN X38.here hx (hb hby d7_57) rfl rfl ?_
  refine Owe.retR X38 hx hlk (t := (.array .byte)) hrt rfl rfl rfl (hb hby d7_58) rfl fun fs hE => ?_
  refine hG _ _ ⟨_, _, rfl, ?_, frameMono hE (by decide) (by decide)⟩
  show Qcma1_0 Z a1 k1 v0 h0 n0 _ T38.heap _
  exact ⟨b33, k33, rfl, N38, K_39, ge_b33, sz_b33, V_a2_38⟩
theorem d8_0 : decode jdk_42_method_149_code 0 = .ok (.aload_n 0, 1) := by decide +kernel
theorem d8_1 : decode jdk_42_method_149_code 1 = .ok (.invokespecial 1, 3) := by decide +kernel
theorem d8_4 : decode jdk_42_method_149_code 4 = .ok (.iload_n 3, 1) := by decide +kernel
theorem d8_5 : decode jdk_42_method_149_code 5 = .ok (.ifCond .ne 22, 3) := by decide +kernel
theorem d8_8 : decode jdk_42_method_149_code 8 = .ok (.aload_n 0, 1) := by decide +kernel
theorem d8_9 : decode jdk_42_method_149_code 9 = .ok (.ldc 7, 2) := by decide +kernel
theorem d8_11 : decode jdk_42_method_149_code 11 = .ok (.getfield 9, 3) := by decide +kernel
theorem d8_14 : decode jdk_42_method_149_code 14 = .ok (.putfield 9, 3) := by decide +kernel
theorem d8_17 : decode jdk_42_method_149_code 17 = .ok (.aload_n 0, 1) := by decide +kernel
theorem d8_18 : decode jdk_42_method_149_code 18 = .ok (.ldc 7, 2) := by decide +kernel
theorem d8_20 : decode jdk_42_method_149_code 20 = .ok (.getfield 15, 3) := by decide +kernel
theorem d8_23 : decode jdk_42_method_149_code 23 = .ok (.putfield 15, 3) := by decide +kernel
theorem d8_26 : decode jdk_42_method_149_code 26 = .ok (.return_, 1) := by decide +kernel
theorem d8_27 : decode jdk_42_method_149_code 27 = .ok (.getstatic 38, 3) := by decide +kernel
theorem d8_30 : decode jdk_42_method_149_code 30 = .ok (.ifCond .eq 28, 3) := by decide +kernel
theorem d8_33 : decode jdk_42_method_149_code 33 = .ok (.aload_n 1, 1) := by decide +kernel
theorem d8_34 : decode jdk_42_method_149_code 34 = .ok (.iload_n 2, 1) := by decide +kernel
theorem d8_35 : decode jdk_42_method_149_code 35 = .ok (.iload_n 3, 1) := by decide +kernel
theorem d8_36 : decode jdk_42_method_149_code 36 = .ok (.invokestatic 177, 3) := by decide +kernel
theorem d8_39 : decode jdk_42_method_149_code 39 = .ok (.astore 5, 2) := by decide +kernel
theorem d8_41 : decode jdk_42_method_149_code 41 = .ok (.aload_n 0, 1) := by decide +kernel
theorem d8_42 : decode jdk_42_method_149_code 42 = .ok (.aload 5, 2) := by decide +kernel
theorem d8_44 : decode jdk_42_method_149_code 44 = .ok (.iload_n 3, 1) := by decide +kernel
theorem d8_45 : decode jdk_42_method_149_code 45 = .ok (.invokestatic 47, 3) := by decide +kernel
theorem d8_48 : decode jdk_42_method_149_code 48 = .ok (.putfield 15, 3) := by decide +kernel
theorem d8_51 : decode jdk_42_method_149_code 51 = .ok (.aload_n 0, 1) := by decide +kernel
theorem d8_52 : decode jdk_42_method_149_code 52 = .ok (.aload 5, 2) := by decide +kernel
theorem d8_54 : decode jdk_42_method_149_code 54 = .ok (.putfield 9, 3) := by decide +kernel
theorem d8_57 : decode jdk_42_method_149_code 57 = .ok (.return_, 1) := by decide +kernel
theorem d8_58 : decode jdk_42_method_149_code 58 = .ok (.aload_n 0, 1) := by decide +kernel
theorem d8_59 : decode jdk_42_method_149_code 59 = .ok (.iconst 1, 1) := by decide +kernel
theorem d8_60 : decode jdk_42_method_149_code 60 = .ok (.putfield 15, 3) := by decide +kernel
theorem d8_63 : decode jdk_42_method_149_code 63 = .ok (.aload_n 0, 1) := by decide +kernel
theorem d8_64 : decode jdk_42_method_149_code 64 = .ok (.aload_n 1, 1) := by decide +kernel
theorem d8_65 : decode jdk_42_method_149_code 65 = .ok (.iload_n 2, 1) := by decide +kernel
theorem d8_66 : decode jdk_42_method_149_code 66 = .ok (.iload_n 3, 1) := by decide +kernel
theorem d8_67 : decode jdk_42_method_149_code 67 = .ok (.invokestatic 180, 3) := by decide +kernel
theorem d8_70 : decode jdk_42_method_149_code 70 = .ok (.putfield 9, 3) := by decide +kernel
theorem d8_73 : decode jdk_42_method_149_code 73 = .ok (.return_, 1) := by decide +kernel
abbrev Y8 : MethodName := ⟨"java/lang/String", "<init>", "([CIILjava/lang/Void;)V"⟩
theorem pn_1 : plainName "java/lang/String" = true := by first | (simp [plainName, overriddenIn]; done) | decide +kernel
theorem ef_siv1_0 (m : MethodId) (x0 : Addr) (x1 : Addr) (x2 : Int32) (x3 : Int32)  : entryFrame m #[(.ref x0), (.ref x1), (.int x2), (.int x3), .null] 6 = mkF m 0 #[.val (.ref x0), .val (.ref x1), .val (.int x2), .val (.int x3), .val .null, .unset] [] := by first | (simp [entryFrame, mkF, argsToLocals, Value.category]; done) | rfl
def Qsiv1_0 (Z : State) (a0_ : Addr) (a1 : Addr) (k1 : ClassId) (v0 : Int32) (G1 : Int32) (h0 : Heap) (n0 : Nat) (v : Option Value) (h : Heap) (L : List Loc) : Prop := ∃ (b_ : Addr), ∃ (kb1 : ClassId), v = none ∧ Fr n0 L ∧ Keep h0 h [a0_] ∧ Exa Z h a0_ "java/lang/String" ∧ Fld Z h a0_ "java/lang/String" "value" "[B" (.ref b_) ∧ Fld Z h a0_ "java/lang/String" "coder" "B" (.int (0 : Int32)) ∧ Arv Z h b_ kb1 .byte (1 : Int32) [(.int (la1 v0))] (.int (0 : Int32))
set_option maxRecDepth 65536 in
set_option maxHeartbeats 40000000 in
theorem rmsiv1_0 (l : Launch) (Z : State) (a0 : Array Value) (hw : Hw Z a0) (ws : List Jvm.Cond) (a0_ : Addr) (a1 : Addr) (k1 : ClassId) (v0 : Int32) (G1 : Int32) (h0 : Heap) (n0 : Nat) (Z0 : n0 ≤ h0.size) (E_a0_ : Exa Z h0 a0_ "java/lang/String") (Fvalue_a0_ : Fld Z h0 a0_ "java/lang/String" "value" "[B" .null) (Fcoder_a0_ : Fld Z h0 a0_ "java/lang/String" "coder" "B" (.int (0 : Int32))) (ge_a0_ : n0 ≤ a0_) (V_a1 : Arv Z h0 a1 k1 .char (1 : Int32) [(.int v0)] (.int (0 : Int32))) (ne_a1_a0_ : a1 ≠ a0_) (hl0 : ¬ (255 : Int32) < v0) (S_COMPACT_STRINGS : Sta Z Z.heap "java/lang/String" "COMPACT_STRINGS" "Z" (.int G1)) (cs0 : ¬ (G1 = (0 : Int32))) (Ol : Old Z n0 h0) (S__assertionsDisabled : Sta Z Z.heap "java/lang/StringUTF16" "$assertionsDisabled" "Z" (.int (1 : Int32))) (S_HI_BYTE_SHIFT : Sta Z Z.heap "java/lang/StringUTF16" "HI_BYTE_SHIFT" "I" (.int (0 : Int32))) (S_LO_BYTE_SHIFT : Sta Z Z.heap "java/lang/StringUTF16" "LO_BYTE_SHIFT" "I" (.int (8 : Int32))) :
    MF l Z Y8 jdk_42_method_149_code 6 none ws ({ frames := 4, cells := 2, slots := 3, locals := 58 } : Room) #[(.ref a0_), (.ref a1), (.int (0 : Int32)), (.int (1 : Int32)), .null] h0 (Qsiv1_0 Z a0_ a1 k1 v0 G1 h0 n0) := by
  refine MF.of pn_1 (fun m => ef_siv1_0 m a0_ a1 (0 : Int32) (1 : Int32)) ?_
  intro p e s m below meth c s₁ G X0 e0 hx hby hml hown hnm hlk hrt hZ hnd hG
  have N0 := Fr.nil n0
  have K0 := Keep.refl h0 [a0_]
  refine Owe.aloadN X0.here hx (hb hby d8_0) rfl rfl ?_
  refine Owe.objinit X0 hx hZ hown (wd hw 12) (wd hw 13) (wd hw 14) e0 (by rw [hml]; rfl) rfl (hb hby d8_1) (by decide) (W := 0) (nb rfl) (by decide) fun T43 X43 e43 => ?_
  refine Owe.iloadN X43.here hx (hb hby d8_4) rfl ?_
  refine Owe.ifYes X43.here hx (hb hby d8_5) rfl ((if0 _ _).trans (feq (by decide)).2) (pc' := 27) (by decide) (by decide) ?_
  refine Owe.gets X43 hx hZ hown (wd hw 32) Via.refl e43 (S_COMPACT_STRINGS.ext Ol.2) (hb hby d8_27) fun T44 X44 e44 => ?_
  refine Owe.ifNo X44.here hx (hb hby d8_30) rfl ((if0 _ _).trans (feq cs0).1) ?_
  refine Owe.aloadN X44.here hx (hb hby d8_33) rfl rfl ?_
  refine Owe.iloadN X44.here hx (hb hby d8_34) rfl ?_
  refine Owe.iloadN X44.here hx (hb hby d8_35) rfl ?_
  refine Owe.stat X44 hx (y := Y7) hown (mvT hZ (wd hw 33)) (mvT hZ (wd hw 34)) (mvT hZ (wd hw 35)) (mvT hZ (wd hw 36)) (by decide) (backOf (W := 0) (rmcma1_0 l Z a0 hw [] a1 k1 v0 h0 n0 Z0 V_a1 hl0 Ol S__assertionsDisabled S_HI_BYTE_SHIFT S_LO_BYTE_SHIFT) hZ (wd hw 36) (wd hw 35) (by decide) (by decide)) (by rw [hml]; rfl) (argsL := [(.ref a1), (.int (0 : Int32)), (.int (1 : Int32))]) (rest := []) (lenOf pd_4 rfl) rfl (nb rfl) (hb hby d8_36) rfl e44 (by decide) (by decide) fun T45 v45 L45 X45 hQ45 => ?_
  obtain ⟨x1_45, kb1_45, rfl, Nq45, K45, ge_x1_45, fresh_x1_45, V_x1_45⟩ := hQ45
  have N45 := Fr.app N0 Nq45
  have K_46 := K0.trans K45 all0
  have E_a0__47 := E_a0_.keep K45
  have Fvalue_a0__48 := Fvalue_a0_.keep K45 nin0
  have Fcoder_a0__49 := Fcoder_a0_.keep K45 nin0
  have V_a1_50 := V_a1.keep K45 nin0
  have Ol_51 := Ol.keep K45 all0
  have Z_52 := Nat.le_trans Z0 K45.1
  have ne_a0__x1_45 : a0_ ≠ x1_45 := Nat.ne_of_lt (Nat.lt_of_lt_of_le E_a0_.lt fresh_x1_45)
  have ne_a1_x1_45 : a1 ≠ x1_45 := Nat.ne_of_lt (Nat.lt_of_lt_of_le V_a1.lt fresh_x1_45)
  have sz_x1_45 := Nat.le_trans K0.1 fresh_x1_45
  refine Owe.astore X45.here hx (hb hby d8_39) rfl rfl (l' := #[.val (.ref a0_), .val (.ref a1), .val (.int (0 : Int32)), .val (.int (1 : Int32)), .val .null, .val (.ref x1_45)]) rfl ?_
  refine Owe.aloadN X45.here hx (hb hby d8_41) rfl rfl ?_
  refine Owe.aload X45.here hx (hb hby d8_42) rfl rfl ?_
  refine Owe.iloadN X45.here hx (hb hby d8_44) rfl ?_
  refine Owe.stat X45 hx (y := Y6) hown (mvT hZ (wd hw 40)) (mvT hZ (wd hw 41)) (mvT hZ (wd hw 35)) (mvT hZ (wd hw 42)) (by decide) (backOf (W := 1) (rmcfa1_0 l Z a0 hw [] x1_45 kb1_45 ([(.int (la1 v0))]) T45.heap n0 Z_52 V_x1_45) hZ (wd hw 42) (wd hw 35) (by decide) (by decide)) (by rw [hml]; rfl) (argsL := [(.ref x1_45), (.int (1 : Int32))]) (rest := [(.ref a0_)]) (lenOf pd_5 rfl) rfl (nb rfl) (hb hby d8_45) rfl rfl (by decide) (by decide) fun T53 v53 L53 X53 hQ53 => ?_
  obtain ⟨rfl, Nq53, e53⟩ := hQ53
  have N53 := Fr.app N45 Nq53
  refine Owe.putf X53 hx hZ (host := "") hown (Or.inl (wd hw 22)) Via.refl e53 Fcoder_a0__49 E_a0__47 (Or.inr ⟨(wd hw 18), rfl, hnm⟩) (wd hw 3) (ty := .byte) (by decide) rfl rfl (hb hby d8_48) rfl fun T54 h54 X54 e54 W54 => ?_
  have K_55 := K_46.wr W54 (Or.inl (List.mem_of_getElem? (i := 0) rfl))
  have E_a0__56 := E_a0__47.wr W54
  have Fvalue_a0__57 := Fvalue_a0__48.other W54 (Or.inr (slot_ne (Or.inr (wd hw 17)) (Or.inr (wd hw 18)) (by decide) (t := (.array .byte)) (t' := .byte) (by decide) (by decide)))
  have Fcoder_a0__58 := Fcoder_a0__49.same W54
  have V_a1_59 := V_a1_50.other W54 ne_a1_a0_
  have Ol_60 := Ol_51.wr W54 ge_a0_
  have V_x1_61 := V_x1_45.other W54 (Ne.symm ne_a0__x1_45)
  have Z_62 := Nat.le_trans Z_52 (Keep.of_wr W54).1
  have N54 := Fr.snoc X54 N53 ge_a0_
  refine Owe.aloadN X54.here hx (hb hby d8_51) rfl rfl ?_
  refine Owe.aload X54.here hx (hb hby d8_52) rfl rfl ?_
  refine Owe.putf X54 hx hZ (host := "") hown (Or.inl (wd hw 21)) Via.refl e54 Fvalue_a0__57 E_a0__56 (Or.inr ⟨(wd hw 17), rfl, hnm⟩) (wd hw 3) (ty := (.array .byte)) (by decide) rfl rfl (hb hby d8_54) rfl fun T63 h63 X63 e63 W63 => ?_
  have K_64 := K_55.wr W63 (Or.inl (List.mem_of_getElem? (i := 0) rfl))
  have E_a0__65 := E_a0__56.wr W63
  have Fvalue_a0__66 := Fvalue_a0__57.same W63
  have Fcoder_a0__67 := Fcoder_a0__58.other W63 (Or.inr (slot_ne (Or.inr (wd hw 18)) (Or.inr (wd hw 17)) (by decide) (t := .byte) (t' := (.array .byte)) (by decide) (by decide)))
  have V_a1_68 := V_a1_59.other W63 ne_a1_a0_
  have Ol_69 := Ol_60.wr W63 ge_a0_
  have V_x1_70 := V_x1_61.other W63 (Ne.symm ne_a0__x1_45)
  have Z_71 := Nat.le_trans Z_62 (Keep.of_wr W63).1
  have N63 := Fr.snoc X63 N54 ge_a0_
  refine Owe.ret0 X63 hx hlk hrt (hb hby d8_57) rfl fun fs hE => ?_
  refine hG _ _ ⟨_, _, rfl, ?_, frameMono hE (by decide) (by decide)⟩
  show Qsiv1_0 Z a0_ a1 k1 v0 G1 h0 n0 _ T63.heap _
  rw [e63]
  exact ⟨x1_45, kb1_45, rfl, N63, K_64, E_a0__65, Fvalue_a0__66, Fcoder_a0__67, V_x1_70⟩
theorem d9_0 : decode jdk_42_method_3_code 0 = .ok (.aload_n 0, 1) := by decide +kernel
theorem d9_1 : decode jdk_42_method_3_code 1 = .ok (.aload_n 1, 1) := by decide +kernel
theorem d9_2 : decode jdk_42_method_3_code 2 = .ok (.iconst 0, 1) := by decide +kernel
theorem d9_3 : decode jdk_42_method_3_code 3 = .ok (.aload_n 1, 1) := by decide +kernel
theorem d9_4 : decode jdk_42_method_3_code 4 = .ok (.arraylength, 1) := by decide +kernel
theorem d9_5 : decode jdk_42_method_3_code 5 = .ok (.aconst_null, 1) := by decide +kernel
theorem d9_6 : decode jdk_42_method_3_code 6 = .ok (.invokespecial 27, 3) := by decide +kernel
theorem d9_9 : decode jdk_42_method_3_code 9 = .ok (.return_, 1) := by decide +kernel
abbrev Y9 : MethodName := ⟨"java/lang/String", "<init>", "([C)V"⟩
theorem ef_si1_0 (m : MethodId) (x0 : Addr) (x1 : Addr)  : entryFrame m #[(.ref x0), (.ref x1)] 2 = mkF m 0 #[.val (.ref x0), .val (.ref x1)] [] := by first | (simp [entryFrame, mkF, argsToLocals, Value.category]; done) | rfl
def Qsi1_0 (Z : State) (a0_ : Addr) (a1 : Addr) (k1 : ClassId) (v0 : Int32) (G1 : Int32) (h0 : Heap) (n0 : Nat) (v : Option Value) (h : Heap) (L : List Loc) : Prop := ∃ (b_ : Addr), ∃ (kb1 : ClassId), v = none ∧ Fr n0 L ∧ Keep h0 h [a0_] ∧ Exa Z h a0_ "java/lang/String" ∧ Fld Z h a0_ "java/lang/String" "value" "[B" (.ref b_) ∧ Fld Z h a0_ "java/lang/String" "coder" "B" (.int (0 : Int32)) ∧ Arv Z h b_ kb1 .byte (1 : Int32) [(.int (la1 v0))] (.int (0 : Int32))
set_option maxRecDepth 65536 in
set_option maxHeartbeats 40000000 in
theorem rmsi1_0 (l : Launch) (Z : State) (a0 : Array Value) (hw : Hw Z a0) (ws : List Jvm.Cond) (a0_ : Addr) (a1 : Addr) (k1 : ClassId) (v0 : Int32) (G1 : Int32) (h0 : Heap) (n0 : Nat) (Z0 : n0 ≤ h0.size) (E_a0_ : Exa Z h0 a0_ "java/lang/String") (Fvalue_a0_ : Fld Z h0 a0_ "java/lang/String" "value" "[B" .null) (Fcoder_a0_ : Fld Z h0 a0_ "java/lang/String" "coder" "B" (.int (0 : Int32))) (ge_a0_ : n0 ≤ a0_) (V_a1 : Arv Z h0 a1 k1 .char (1 : Int32) [(.int v0)] (.int (0 : Int32))) (ne_a1_a0_ : a1 ≠ a0_) (hl0 : ¬ (255 : Int32) < v0) (S_COMPACT_STRINGS : Sta Z Z.heap "java/lang/String" "COMPACT_STRINGS" "Z" (.int G1)) (cs0 : ¬ (G1 = (0 : Int32))) (Ol : Old Z n0 h0) (S__assertionsDisabled : Sta Z Z.heap "java/lang/StringUTF16" "$assertionsDisabled" "Z" (.int (1 : Int32))) (S_HI_BYTE_SHIFT : Sta Z Z.heap "java/lang/StringUTF16" "HI_BYTE_SHIFT" "I" (.int (0 : Int32))) (S_LO_BYTE_SHIFT : Sta Z Z.heap "java/lang/StringUTF16" "LO_BYTE_SHIFT" "I" (.int (8 : Int32))) :
    MF l Z Y9 jdk_42_method_3_code 2 none ws ({ frames := 5, cells := 2, slots := 3, locals := 76 } : Room) #[(.ref a0_), (.ref a1)] h0 (Qsi1_0 Z a0_ a1 k1 v0 G1 h0 n0) := by
  refine MF.of pn_1 (fun m => ef_si1_0 m a0_ a1) ?_
  intro p e s m below meth c s₁ G X0 e0 hx hby hml hown hnm hlk hrt hZ hnd hG
  have N0 := Fr.nil n0
  have K0 := Keep.refl h0 [a0_]
  refine Owe.aloadN X0.here hx (hb hby d9_0) rfl rfl ?_
  refine Owe.aloadN X0.here hx (hb hby d9_1) rfl rfl ?_
  refine Owe.iconst X0.here hx (hb hby d9_2) (w := (0 : Int32)) rfl ?_
  refine Owe.aloadN X0.here hx (hb hby d9_3) rfl rfl ?_
  refine Owe.arrlen X0 hx hZ e0 V_a1 (hb hby d9_4) rfl ?_
  refine Owe.aconstNull X0.here hx (hb hby d9_5)  ?_
  refine Owe.special X0 hx (y := Y8) rfl hown (mvT hZ (wd hw 8)) (mvT hZ (wd hw 9)) (mvT hZ (wd hw 11)) (by decide) (backOf (W := 0) (rmsiv1_0 l Z a0 hw [] a0_ a1 k1 v0 G1 h0 n0 Z0 E_a0_ Fvalue_a0_ Fcoder_a0_ ge_a0_ V_a1 ne_a1_a0_ hl0 S_COMPACT_STRINGS cs0 Ol S__assertionsDisabled S_HI_BYTE_SHIFT S_LO_BYTE_SHIFT) hZ (wd hw 11) (wd hw 4) (by decide) (by decide)) (by rw [hml]; rfl) (a := a0_) (argsL := [(.ref a1), (.int (0 : Int32)), (.int (1 : Int32)), .null]) (rest := []) (lenOf pd_6 rfl) rfl (nb rfl) (hb hby d9_6) rfl e0 (by decide) (by decide) fun T72 v72 L72 X72 hQ72 => ?_
  obtain ⟨b__72, kb1_72, rfl, Nq72, K72, E_a0__72, Fvalue_a0__72, Fcoder_a0__72, V_b__72⟩ := hQ72
  have N72 := Fr.app N0 Nq72
  have K_73 := K0.trans K72 (allS (Or.inl (List.mem_of_getElem? (i := 0) rfl)) all0)
  have E_a0__74 := E_a0_.keep K72
  have V_a1_75 := V_a1.keep K72 (ninS ne_a1_a0_ nin0)
  have Ol_76 := Ol.keep K72 (allS ge_a0_ all0)
  have Z_77 := Nat.le_trans Z0 K72.1
  refine Owe.ret0 X72 hx hlk hrt (hb hby d9_9) rfl fun fs hE => ?_
  refine hG _ _ ⟨_, _, rfl, ?_, frameMono hE (by decide) (by decide)⟩
  show Qsi1_0 Z a0_ a1 k1 v0 G1 h0 n0 _ T72.heap _
  exact ⟨b__72, kb1_72, rfl, N72, K_73, E_a0__72, Fvalue_a0__72, Fcoder_a0__72, V_b__72⟩
theorem ef_cfa1_1 (m : MethodId) (x0 : Addr) (x1 : Int32)  : entryFrame m #[(.ref x0), (.int x1)] 2 = mkF m 0 #[.val (.ref x0), .val (.int x1)] [] := by first | (simp [entryFrame, mkF, argsToLocals, Value.category]; done) | rfl
def Qcfa1_1 (Z : State) (a1 : Addr) (k1 : ClassId) (vs : List Value) (h0 : Heap) (n0 : Nat) (v : Option Value) (h : Heap) (L : List Loc) : Prop := v = some (.int (1 : Int32)) ∧ Fr n0 L ∧ h = h0
set_option maxRecDepth 65536 in
set_option maxHeartbeats 40000000 in
theorem rmcfa1_1 (l : Launch) (Z : State) (a0 : Array Value) (hw : Hw Z a0) (ws : List Jvm.Cond) (a1 : Addr) (k1 : ClassId) (vs : List Value) (h0 : Heap) (n0 : Nat) (Z0 : n0 ≤ h0.size) (V_a1 : Arv Z h0 a1 k1 .byte (2 : Int32) vs (.int (0 : Int32))) :
    MF l Z Y6 jdk_52_method_15_code 2 (some .byte) ws ({ frames := 0, cells := 0, slots := 0, locals := 0 } : Room) #[(.ref a1), (.int (1 : Int32))] h0 (Qcfa1_1 Z a1 k1 vs h0 n0) := by
  refine MF.of pn_0 (fun m => ef_cfa1_1 m a1 (1 : Int32)) ?_
  intro p e s m below meth c s₁ G X0 e0 hx hby hml hown hnm hlk hrt hZ hnd hG
  have N0 := Fr.nil n0
  refine Owe.iloadN X0.here hx (hb hby d6_0) rfl ?_
  refine Owe.aloadN X0.here hx (hb hby d6_1) rfl rfl ?_
  refine Owe.arrlen X0 hx hZ e0 V_a1 (hb hby d6_2) rfl ?_
  refine Owe.isub X0.here hx (hb hby d6_3) rfl ?_
  refine Owe.bipush X0.here hx (hb hby d6_4) (w := (31 : Int32)) rfl ?_
  refine Owe.iushr X0.here hx (hb hby d6_6) rfl ?_
  refine Owe.i2b X0.here hx (hb hby d6_7) rfl ?_
  refine Owe.retN X0 hx hlk (t := .byte) hrt (by simp) (hb hby d6_8) rfl fun fs hE => ?_
  refine hG _ _ ⟨_, _, rfl, ?_, frameMono hE (by decide) (by decide)⟩
  show Qcfa1_1 Z a1 k1 vs h0 n0 _ s₁.heap _
  rw [e0]
  exact ⟨(congrArg (fun z => some (Value.int z)) (by decide)), N0, rfl⟩
theorem ef_cma1_1 (m : MethodId) (x0 : Addr) (x1 : Int32) (x2 : Int32)  : entryFrame m #[(.ref x0), (.int x1), (.int x2)] 6 = mkF m 0 #[.val (.ref x0), .val (.int x1), .val (.int x2), .unset, .unset, .unset] [] := by first | (simp [entryFrame, mkF, argsToLocals, Value.category]; done) | rfl
def Qcma1_1 (Z : State) (a1 : Addr) (k1 : ClassId) (v0 : Int32) (h0 : Heap) (n0 : Nat) (v : Option Value) (h : Heap) (L : List Loc) : Prop := ∃ (x1 : Addr), ∃ (kb1 : ClassId), v = some (.ref x1) ∧ Fr n0 L ∧ Keep h0 h [] ∧ n0 ≤ x1 ∧ h0.size ≤ x1 ∧ Arv Z h x1 kb1 .byte (2 : Int32) [(.int (lo1 v0)), (.int (hi1 v0))] (.int (0 : Int32))
set_option maxRecDepth 65536 in
set_option maxHeartbeats 40000000 in
theorem rmcma1_1 (l : Launch) (Z : State) (a0 : Array Value) (hw : Hw Z a0) (ws : List Jvm.Cond) (a1 : Addr) (k1 : ClassId) (v0 : Int32) (h0 : Heap) (n0 : Nat) (Z0 : n0 ≤ h0.size) (V_a1 : Arv Z h0 a1 k1 .char (1 : Int32) [(.int v0)] (.int (0 : Int32))) (hW : (255 : Int32) < v0) (hr0 : ¬ v0 < 0 ∧ ¬ (65535 : Int32) < v0) (Ol : Old Z n0 h0) (S__assertionsDisabled : Sta Z Z.heap "java/lang/StringUTF16" "$assertionsDisabled" "Z" (.int (1 : Int32))) (S_HI_BYTE_SHIFT : Sta Z Z.heap "java/lang/StringUTF16" "HI_BYTE_SHIFT" "I" (.int (0 : Int32))) (S_LO_BYTE_SHIFT : Sta Z Z.heap "java/lang/StringUTF16" "LO_BYTE_SHIFT" "I" (.int (8 : Int32))) :
    MF l Z Y7 jdk_52_method_16_code 6 (some (.array .byte)) ws ({ frames := 3, cells := 2, slots := 3, locals := 40 } : Room) #[(.ref a1), (.int (0 : Int32)), (.int (1 : Int32))] h0 (Qcma1_1 Z a1 k1 v0 h0 n0) := by
  refine MF.of pn_0 (fun m => ef_cma1_1 m a1 (0 : Int32) (1 : Int32)) ?_
  intro p e s m below meth c s₁ G X0 e0 hx hby hml hown hnm hlk hrt hZ hnd hG
  have N0 := Fr.nil n0
  have K0 := Keep.refl h0 []
  refine Owe.iloadN X0.here hx (hb hby d7_0) rfl ?_
  refine Owe.newarr X0 hx hZ (aty := .byte) (wd hw 16) e0 (hb hby d7_1) rfl (by decide) (cap := 1) (by decide) (by decide) (by decide) (by decide) fun T78 h78 b78 k78 g78 X78 e78 E78 V78 => ?_
  have ne_a1_b78 : a1 ≠ b78 := Nat.ne_of_lt (Nat.lt_of_lt_of_le V_a1.lt (Nat.le_of_eq g78.symm))
  have sz_b78 := Nat.le_trans K0.1 (Nat.le_of_eq g78.symm)
  have ge_b78 := Nat.le_trans Z0 (Nat.le_of_eq g78.symm)
  have K_79 := K0.ext E78
  have V_a1_80 := V_a1.ext E78
  have Ol_81 := Ol.ext E78
  have Z_82 := Nat.le_trans Z0 E78.1
  have V_b78_78 : Arv Z h78 b78 k78 .byte (1 : Int32) [(.int (0 : Int32))] (.int (0 : Int32)) := V78.pad (pad_rep [] (.int (0 : Int32)) 1)
  refine Owe.astoreN X78.here hx (hb hby d7_3) rfl rfl (l' := #[.val (.ref a1), .val (.int (0 : Int32)), .val (.int (1 : Int32)), .val (.ref b78), .unset, .unset]) rfl ?_
  refine Owe.aloadN X78.here hx (hb hby d7_4) rfl rfl ?_
  refine Owe.iloadN X78.here hx (hb hby d7_5) rfl ?_
  refine Owe.aloadN X78.here hx (hb hby d7_6) rfl rfl ?_
  refine Owe.iconst X78.here hx (hb hby d7_7) (w := (0 : Int32)) rfl ?_
  refine Owe.iloadN X78.here hx (hb hby d7_8) rfl ?_
  by_cases hl0_83 : (255 : Int32) < v0
  · skip
    refine Owe.stat X78 hx (y := Y5) hown (mvT hZ (wd hw 37)) (mvT hZ (wd hw 38)) (mvT hZ (wd hw 35)) (mvT hZ (wd hw 39)) (by decide) (backOf (W := 0) (rmcmi1_0 l Z a0 hw [] a1 k1 b78 k78 v0 h78 n0 Z_82 V_a1_80 V_b78_78 ge_b78 ne_a1_b78 hl0_83) hZ (wd hw 39) (wd hw 35) (by decide) (by decide)) (by rw [hml]; rfl) (argsL := [(.ref a1), (.int (0 : Int32)), (.ref b78), (.int (0 : Int32)), (.int (1 : Int32))]) (rest := []) (lenOf pd_3 rfl) rfl (nb rfl) (hb hby d7_9) rfl e78 (by decide) (by decide) fun T84 v84 L84 X84 hQ84 => ?_
    obtain ⟨rfl, Nq84, K84⟩ := hQ84
    have N84 := Fr.app N0 Nq84
    have K_85 := K_79.trans K84 (allS (Or.inr sz_b78) all0)
    have V_a1_86 := V_a1_80.keep K84 (ninS ne_a1_b78 nin0)
    have Ol_87 := Ol_81.keep K84 (allS ge_b78 all0)
    have Z_88 := Nat.le_trans Z_82 K84.1
    refine Owe.istore X84.here hx (hb hby d7_12) rfl (l' := #[.val (.ref a1), .val (.int (0 : Int32)), .val (.int (1 : Int32)), .val (.ref b78), .val (.int (0 : Int32)), .unset]) rfl ?_
    refine Owe.iload X84.here hx (hb hby d7_14) rfl ?_
    refine Owe.iloadN X84.here hx (hb hby d7_16) rfl ?_
    refine Owe.icmpNo X84.here hx (hb hby d7_17) rfl (feq (by decide)).1 ?_
    refine Owe.aloadN X84.here hx (hb hby d7_20) rfl rfl ?_
    refine Owe.iloadN X84.here hx (hb hby d7_21) rfl ?_
    refine Owe.iloadN X84.here hx (hb hby d7_22) rfl ?_
    refine Owe.stat X84 hx (y := Y4) hown (mvT hZ (wd hw 79)) (mvT hZ (wd hw 80)) (mvT hZ (wd hw 35)) (mvT hZ (wd hw 81)) (by decide) (backOf (W := 0) (rmtob1 l Z a0 hw [] a1 k1 v0 T84.heap n0 Z_88 V_a1_86 Ol_87 S__assertionsDisabled S_HI_BYTE_SHIFT S_LO_BYTE_SHIFT) hZ (wd hw 81) (wd hw 35) (by decide) (by decide)) (by rw [hml]; rfl) (argsL := [(.ref a1), (.int (0 : Int32)), (.int (1 : Int32))]) (rest := []) (lenOf pd_4 rfl) rfl (nb rfl) (hb hby d7_23) rfl rfl (by decide) (by decide) fun T89 v89 L89 X89 hQ89 => ?_
    obtain ⟨x1_89, kb1_89, rfl, Nq89, K89, ge_x1_89, fresh_x1_89, V_x1_89⟩ := hQ89
    have N89 := Fr.app N84 Nq89
    have K_90 := K_85.trans K89 all0
    have V_a1_91 := V_a1_86.keep K89 nin0
    have Ol_92 := Ol_87.keep K89 all0
    have Z_93 := Nat.le_trans Z_88 K89.1
    have ne_a1_x1_89 : a1 ≠ x1_89 := Nat.ne_of_lt (Nat.lt_of_lt_of_le V_a1_86.lt fresh_x1_89)
    have sz_x1_89 := Nat.le_trans K_85.1 fresh_x1_89
    refine Owe.astore X89.here hx (hb hby d7_26) rfl rfl (l' := #[.val (.ref a1), .val (.int (0 : Int32)), .val (.int (1 : Int32)), .val (.ref b78), .val (.int (0 : Int32)), .val (.ref x1_89)]) rfl ?_
    refine Owe.aload X89.here hx (hb hby d7_28) rfl rfl ?_
    refine Owe.iload X89.here hx (hb hby d7_30) rfl ?_
    refine Owe.stat X89 hx (y := Y0) hown (mvT hZ (wd hw 95)) (mvT hZ (wd hw 96)) (mvT hZ (wd hw 35)) (mvT hZ (wd hw 97)) (by decide) (backOf (W := 0) (rmgch l Z a0 hw [] x1_89 kb1_89 v0 (0 : Int32) (lo1 v0) (hi1 v0) (2 : Int32) ([(.int (lo1 v0)), (.int (hi1 v0))]) T89.heap n0 Z_93 V_x1_89 (by decide) rfl (by decide) rfl (own_gp _ hr0) (own_narV hr0) Ol_92 S__assertionsDisabled S_HI_BYTE_SHIFT S_LO_BYTE_SHIFT) hZ (wd hw 97) (wd hw 35) (by decide) (by decide)) (by rw [hml]; rfl) (argsL := [(.ref x1_89), (.int (0 : Int32))]) (rest := []) (lenOf pd_7 rfl) rfl (nb rfl) (hb hby d7_32) rfl rfl (by decide) (by decide) fun T94 v94 L94 X94 hQ94 => ?_
    obtain ⟨rfl, Nq94, e94⟩ := hQ94
    have N94 := Fr.app N89 Nq94
    refine Owe.sipush X94.here hx (hb hby d7_35) (w := (255 : Int32)) rfl ?_
    refine Owe.icmpYes X94.here hx (hb hby d7_38) rfl (tlt hl0_83).2.2.1 (pc' := 54) (by decide) (by decide) ?_
    refine Owe.aload X94.here hx (hb hby d7_54) rfl rfl ?_
    refine Owe.retR X94 hx hlk (t := (.array .byte)) hrt rfl rfl rfl (hb hby d7_56) rfl fun fs hE => ?_
    refine hG _ _ ⟨_, _, rfl, ?_, frameMono hE (by decide) (by decide)⟩
    show Qcma1_1 Z a1 k1 v0 h0 n0 _ T94.heap _
    rw [e94]
    exact ⟨x1_89, kb1_89, rfl, N94, K_90, ge_x1_89, sz_x1_89, V_x1_89⟩
  · skip
    exact absurd hW (by simp [hl0_83])
theorem ef_siv1_1 (m : MethodId) (x0 : Addr) (x1 : Addr) (x2 : Int32) (x3 : Int32)  : entryFrame m #[(.ref x0), (.ref x1), (.int x2), (.int x3), .null] 6 = mkF m 0 #[.val (.ref x0), .val (.ref x1), .val (.int x2), .val (.int x3), .val .null, .unset] [] := by first | (simp [entryFrame, mkF, argsToLocals, Value.category]; done) | rfl
def Qsiv1_1 (Z : State) (a0_ : Addr) (a1 : Addr) (k1 : ClassId) (v0 : Int32) (G1 : Int32) (h0 : Heap) (n0 : Nat) (v : Option Value) (h : Heap) (L : List Loc) : Prop := ∃ (b_ : Addr), ∃ (kb1 : ClassId), v = none ∧ Fr n0 L ∧ Keep h0 h [a0_] ∧ Exa Z h a0_ "java/lang/String" ∧ Fld Z h a0_ "java/lang/String" "value" "[B" (.ref b_) ∧ Fld Z h a0_ "java/lang/String" "coder" "B" (.int (1 : Int32)) ∧ Arv Z h b_ kb1 .byte (2 : Int32) [(.int (lo1 v0)), (.int (hi1 v0))] (.int (0 : Int32))
set_option maxRecDepth 65536 in
set_option maxHeartbeats 40000000 in
theorem rmsiv1_1 (l : Launch) (Z : State) (a0 : Array Value) (hw : Hw Z a0) (ws : List Jvm.Cond) (a0_ : Addr) (a1 : Addr) (k1 : ClassId) (v0 : Int32) (G1 : Int32) (h0 : Heap) (n0 : Nat) (Z0 : n0 ≤ h0.size) (E_a0_ : Exa Z h0 a0_ "java/lang/String") (Fvalue_a0_ : Fld Z h0 a0_ "java/lang/String" "value" "[B" .null) (Fcoder_a0_ : Fld Z h0 a0_ "java/lang/String" "coder" "B" (.int (0 : Int32))) (ge_a0_ : n0 ≤ a0_) (V_a1 : Arv Z h0 a1 k1 .char (1 : Int32) [(.int v0)] (.int (0 : Int32))) (ne_a1_a0_ : a1 ≠ a0_) (hW : (255 : Int32) < v0) (hr0 : ¬ v0 < 0 ∧ ¬ (65535 : Int32) < v0) (S_COMPACT_STRINGS : Sta Z Z.heap "java/lang/String" "COMPACT_STRINGS" "Z" (.int G1)) (cs0 : ¬ (G1 = (0 : Int32))) (Ol : Old Z n0 h0) (S__assertionsDisabled : Sta Z Z.heap "java/lang/StringUTF16" "$assertionsDisabled" "Z" (.int (1 : Int32))) (S_HI_BYTE_SHIFT : Sta Z Z.heap "java/lang/StringUTF16" "HI_BYTE_SHIFT" "I" (.int (0 : Int32))) (S_LO_BYTE_SHIFT : Sta Z Z.heap "java/lang/StringUTF16" "LO_BYTE_SHIFT" "I" (.int (8 : Int32))) :
    MF l Z Y8 jdk_42_method_149_code 6 none ws ({ frames := 4, cells := 2, slots := 3, locals := 58 } : Room) #[(.ref a0_), (.ref a1), (.int (0 : Int32)), (.int (1 : Int32)), .null] h0 (Qsiv1_1 Z a0_ a1 k1 v0 G1 h0 n0) := by
  refine MF.of pn_1 (fun m => ef_siv1_1 m a0_ a1 (0 : Int32) (1 : Int32)) ?_
  intro p e s m below meth c s₁ G X0 e0 hx hby hml hown hnm hlk hrt hZ hnd hG
  have N0 := Fr.nil n0
  have K0 := Keep.refl h0 [a0_]
  refine Owe.aloadN X0.here hx (hb hby d8_0) rfl rfl ?_
  refine Owe.objinit X0 hx hZ hown (wd hw 12) (wd hw 13) (wd hw 14) e0 (by rw [hml]; rfl) rfl (hb hby d8_1) (by decide) (W := 0) (nb rfl) (by decide) fun T95 X95 e95 => ?_
  refine Owe.iloadN X95.here hx (hb hby d8_4) rfl ?_
  refine Owe.ifYes X95.here hx (hb hby d8_5) rfl ((if0 _ _).trans (feq (by decide)).2) (pc' := 27) (by decide) (by decide) ?_
  refine Owe.gets X95 hx hZ hown (wd hw 32) Via.refl e95 (S_COMPACT_STRINGS.ext Ol.2) (hb hby d8_27) fun T96 X96 e96 => ?_
  refine Owe.ifNo X96.here hx (hb hby d8_30) rfl ((if0 _ _).trans (feq cs0).1) ?_
  refine Owe.aloadN X96.here hx (hb hby d8_33) rfl rfl ?_
  refine Owe.iloadN X96.here hx (hb hby d8_34) rfl ?_
  refine Owe.iloadN X96.here hx (hb hby d8_35) rfl ?_
  refine Owe.stat X96 hx (y := Y7) hown (mvT hZ (wd hw 33)) (mvT hZ (wd hw 34)) (mvT hZ (wd hw 35)) (mvT hZ (wd hw 36)) (by decide) (backOf (W := 0) (rmcma1_1 l Z a0 hw [] a1 k1 v0 h0 n0 Z0 V_a1 hW hr0 Ol S__assertionsDisabled S_HI_BYTE_SHIFT S_LO_BYTE_SHIFT) hZ (wd hw 36) (wd hw 35) (by decide) (by decide)) (by rw [hml]; rfl) (argsL := [(.ref a1), (.int (0 : Int32)), (.int (1 : Int32))]) (rest := []) (lenOf pd_4 rfl) rfl (nb rfl) (hb hby d8_36) rfl e96 (by decide) (by decide) fun T97 v97 L97 X97 hQ97 => ?_
  obtain ⟨x1_97, kb1_97, rfl, Nq97, K97, ge_x1_97, fresh_x1_97, V_x1_97⟩ := hQ97
  have N97 := Fr.app N0 Nq97
  have K_98 := K0.trans K97 all0
  have E_a0__99 := E_a0_.keep K97
  have Fvalue_a0__100 := Fvalue_a0_.keep K97 nin0
  have Fcoder_a0__101 := Fcoder_a0_.keep K97 nin0
  have V_a1_102 := V_a1.keep K97 nin0
  have Ol_103 := Ol.keep K97 all0
  have Z_104 := Nat.le_trans Z0 K97.1
  have ne_a0__x1_97 : a0_ ≠ x1_97 := Nat.ne_of_lt (Nat.lt_of_lt_of_le E_a0_.lt fresh_x1_97)
  have ne_a1_x1_97 : a1 ≠ x1_97 := Nat.ne_of_lt (Nat.lt_of_lt_of_le V_a1.lt fresh_x1_97)
  have sz_x1_97 := Nat.le_trans K0.1 fresh_x1_97
  refine Owe.astore X97.here hx (hb hby d8_39) rfl rfl (l' := #[.val (.ref a0_), .val (.ref a1), .val (.int (0 : Int32)), .val (.int (1 : Int32)), .val .null, .val (.ref x1_97)]) rfl ?_
  refine Owe.aloadN X97.here hx (hb hby d8_41) rfl rfl ?_
  refine Owe.aload X97.here hx (hb hby d8_42) rfl rfl ?_
  refine Owe.iloadN X97.here hx (hb hby d8_44) rfl ?_
  refine Owe.stat X97 hx (y := Y6) hown (mvT hZ (wd hw 40)) (mvT hZ (wd hw 41)) (mvT hZ (wd hw 35)) (mvT hZ (wd hw 42)) (by decide) (backOf (W := 1) (rmcfa1_1 l Z a0 hw [] x1_97 kb1_97 ([(.int (lo1 v0)), (.int (hi1 v0))]) T97.heap n0 Z_104 V_x1_97) hZ (wd hw 42) (wd hw 35) (by decide) (by decide)) (by rw [hml]; rfl) (argsL := [(.ref x1_97), (.int (1 : Int32))]) (rest := [(.ref a0_)]) (lenOf pd_5 rfl) rfl (nb rfl) (hb hby d8_45) rfl rfl (by decide) (by decide) fun T105 v105 L105 X105 hQ105 => ?_
  obtain ⟨rfl, Nq105, e105⟩ := hQ105
  have N105 := Fr.app N97 Nq105
  refine Owe.putf X105 hx hZ (host := "") hown (Or.inl (wd hw 22)) Via.refl e105 Fcoder_a0__101 E_a0__99 (Or.inr ⟨(wd hw 18), rfl, hnm⟩) (wd hw 3) (ty := .byte) (by decide) rfl rfl (hb hby d8_48) rfl fun T106 h106 X106 e106 W106 => ?_
  have K_107 := K_98.wr W106 (Or.inl (List.mem_of_getElem? (i := 0) rfl))
  have E_a0__108 := E_a0__99.wr W106
  have Fvalue_a0__109 := Fvalue_a0__100.other W106 (Or.inr (slot_ne (Or.inr (wd hw 17)) (Or.inr (wd hw 18)) (by decide) (t := (.array .byte)) (t' := .byte) (by decide) (by decide)))
  have Fcoder_a0__110 := Fcoder_a0__101.same W106
  have V_a1_111 := V_a1_102.other W106 ne_a1_a0_
  have Ol_112 := Ol_103.wr W106 ge_a0_
  have V_x1_113 := V_x1_97.other W106 (Ne.symm ne_a0__x1_97)
  have Z_114 := Nat.le_trans Z_104 (Keep.of_wr W106).1
  have N106 := Fr.snoc X106 N105 ge_a0_
  refine Owe.aloadN X106.here hx (hb hby d8_51) rfl rfl ?_
  refine Owe.aload X106.here hx (hb hby d8_52) rfl rfl ?_
  refine Owe.putf X106 hx hZ (host := "") hown (Or.inl (wd hw 21)) Via.refl e106 Fvalue_a0__109 E_a0__108 (Or.inr ⟨(wd hw 17), rfl, hnm⟩) (wd hw 3) (ty := (.array .byte)) (by decide) rfl rfl (hb hby d8_54) rfl fun T115 h115 X115 e115 W115 => ?_
  have K_116 := K_107.wr W115 (Or.inl (List.mem_of_getElem? (i := 0) rfl))
  have E_a0__117 := E_a0__108.wr W115
  have Fvalue_a0__118 := Fvalue_a0__109.same W115
  have Fcoder_a0__119 := Fcoder_a0__110.other W115 (Or.inr (slot_ne (Or.inr (wd hw 18)) (Or.inr (wd hw 17)) (by decide) (t := .byte) (t' := (.array .byte)) (by decide) (by decide)))
  have V_a1_120 := V_a1_111.other W115 ne_a1_a0_
  have Ol_121 := Ol_112.wr W115 ge_a0_
  have V_x1_122 := V_x1_113.other W115 (Ne.symm ne_a0__x1_97)
  have Z_123 := Nat.le_trans Z_114 (Keep.of_wr W115).1
  have N115 := Fr.snoc X115 N106 ge_a0_
  refine Owe.ret0 X115 hx hlk hrt (hb hby d8_57) rfl fun fs hE => ?_
  refine hG _ _ ⟨_, _, rfl, ?_, frameMono hE (by decide) (by decide)⟩
  show Qsiv1_1 Z a0_ a1 k1 v0 G1 h0 n0 _ T115.heap _
  rw [e115]
  exact ⟨x1_97, kb1_97, rfl, N115, K_116, E_a0__117, Fvalue_a0__118, Fcoder_a0__119, V_x1_122⟩
theorem ef_si1_1 (m : MethodId) (x0 : Addr) (x1 : Addr)  : entryFrame m #[(.ref x0), (.ref x1)] 2 = mkF m 0 #[.val (.ref x0), .val (.ref x1)] [] := by first | (simp [entryFrame, mkF, argsToLocals, Value.category]; done) | rfl
def Qsi1_1 (Z : State) (a0_ : Addr) (a1 : Addr) (k1 : ClassId) (v0 : Int32) (G1 : Int32) (h0 : Heap) (n0 : Nat) (v : Option Value) (h : Heap) (L : List Loc) : Prop := ∃ (b_ : Addr), ∃ (kb1 : ClassId), v = none ∧ Fr n0 L ∧ Keep h0 h [a0_] ∧ Exa Z h a0_ "java/lang/String" ∧ Fld Z h a0_ "java/lang/String" "value" "[B" (.ref b_) ∧ Fld Z h a0_ "java/lang/String" "coder" "B" (.int (1 : Int32)) ∧ Arv Z h b_ kb1 .byte (2 : Int32) [(.int (lo1 v0)), (.int (hi1 v0))] (.int (0 : Int32))
set_option maxRecDepth 65536 in
set_option maxHeartbeats 40000000 in
theorem rmsi1_1 (l : Launch) (Z : State) (a0 : Array Value) (hw : Hw Z a0) (ws : List Jvm.Cond) (a0_ : Addr) (a1 : Addr) (k1 : ClassId) (v0 : Int32) (G1 : Int32) (h0 : Heap) (n0 : Nat) (Z0 : n0 ≤ h0.size) (E_a0_ : Exa Z h0 a0_ "java/lang/String") (Fvalue_a0_ : Fld Z h0 a0_ "java/lang/String" "value" "[B" .null) (Fcoder_a0_ : Fld Z h0 a0_ "java/lang/String" "coder" "B" (.int (0 : Int32))) (ge_a0_ : n0 ≤ a0_) (V_a1 : Arv Z h0 a1 k1 .char (1 : Int32) [(.int v0)] (.int (0 : Int32))) (ne_a1_a0_ : a1 ≠ a0_) (hW : (255 : Int32) < v0) (hr0 : ¬ v0 < 0 ∧ ¬ (65535 : Int32) < v0) (S_COMPACT_STRINGS : Sta Z Z.heap "java/lang/String" "COMPACT_STRINGS" "Z" (.int G1)) (cs0 : ¬ (G1 = (0 : Int32))) (Ol : Old Z n0 h0) (S__assertionsDisabled : Sta Z Z.heap "java/lang/StringUTF16" "$assertionsDisabled" "Z" (.int (1 : Int32))) (S_HI_BYTE_SHIFT : Sta Z Z.heap "java/lang/StringUTF16" "HI_BYTE_SHIFT" "I" (.int (0 : Int32))) (S_LO_BYTE_SHIFT : Sta Z Z.heap "java/lang/StringUTF16" "LO_BYTE_SHIFT" "I" (.int (8 : Int32))) :
    MF l Z Y9 jdk_42_method_3_code 2 none ws ({ frames := 5, cells := 2, slots := 3, locals := 76 } : Room) #[(.ref a0_), (.ref a1)] h0 (Qsi1_1 Z a0_ a1 k1 v0 G1 h0 n0) := by
  refine MF.of pn_1 (fun m => ef_si1_1 m a0_ a1) ?_
  intro p e s m below meth c s₁ G X0 e0 hx hby hml hown hnm hlk hrt hZ hnd hG
  have N0 := Fr.nil n0
  have K0 := Keep.refl h0 [a0_]
  refine Owe.aloadN X0.here hx (hb hby d9_0) rfl rfl ?_
  refine Owe.aloadN X0.here hx (hb hby d9_1) rfl rfl ?_
  refine Owe.iconst X0.here hx (hb hby d9_2) (w := (0 : Int32)) rfl ?_
  refine Owe.aloadN X0.here hx (hb hby d9_3) rfl rfl ?_
  refine Owe.arrlen X0 hx hZ e0 V_a1 (hb hby d9_4) rfl ?_
  refine Owe.aconstNull X0.here hx (hb hby d9_5)  ?_
  refine Owe.special X0 hx (y := Y8) rfl hown (mvT hZ (wd hw 8)) (mvT hZ (wd hw 9)) (mvT hZ (wd hw 11)) (by decide) (backOf (W := 0) (rmsiv1_1 l Z a0 hw [] a0_ a1 k1 v0 G1 h0 n0 Z0 E_a0_ Fvalue_a0_ Fcoder_a0_ ge_a0_ V_a1 ne_a1_a0_ hW hr0 S_COMPACT_STRINGS cs0 Ol S__assertionsDisabled S_HI_BYTE_SHIFT S_LO_BYTE_SHIFT) hZ (wd hw 11) (wd hw 4) (by decide) (by decide)) (by rw [hml]; rfl) (a := a0_) (argsL := [(.ref a1), (.int (0 : Int32)), (.int (1 : Int32)), .null]) (rest := []) (lenOf pd_6 rfl) rfl (nb rfl) (hb hby d9_6) rfl e0 (by decide) (by decide) fun T124 v124 L124 X124 hQ124 => ?_
  obtain ⟨b__124, kb1_124, rfl, Nq124, K124, E_a0__124, Fvalue_a0__124, Fcoder_a0__124, V_b__124⟩ := hQ124
  have N124 := Fr.app N0 Nq124
  have K_125 := K0.trans K124 (allS (Or.inl (List.mem_of_getElem? (i := 0) rfl)) all0)
  have E_a0__126 := E_a0_.keep K124
  have V_a1_127 := V_a1.keep K124 (ninS ne_a1_a0_ nin0)
  have Ol_128 := Ol.keep K124 (allS ge_a0_ all0)
  have Z_129 := Nat.le_trans Z0 K124.1
  refine Owe.ret0 X124 hx hlk hrt (hb hby d9_9) rfl fun fs hE => ?_
  refine hG _ _ ⟨_, _, rfl, ?_, frameMono hE (by decide) (by decide)⟩
  show Qsi1_1 Z a0_ a1 k1 v0 G1 h0 n0 _ T124.heap _
  exact ⟨b__124, kb1_124, rfl, N124, K_125, E_a0__124, Fvalue_a0__124, Fcoder_a0__124, V_b__124⟩
theorem ef_nbl2 (m : MethodId) (x0 : Int32)  : entryFrame m #[(.int x0)] 1 = mkF m 0 #[.val (.int x0)] [] := by first | (simp [entryFrame, mkF, argsToLocals, Value.category]; done) | rfl
def Qnbl2 (Z : State)  (h0 : Heap) (n0 : Nat) (v : Option Value) (h : Heap) (L : List Loc) : Prop := v = some (.int (4 : Int32)) ∧ Fr n0 L ∧ h = h0
set_option maxRecDepth 65536 in
set_option maxHeartbeats 40000000 in
theorem rmnbl2 (l : Launch) (Z : State) (a0 : Array Value) (hw : Hw Z a0) (ws : List Jvm.Cond)  (h0 : Heap) (n0 : Nat) (Z0 : n0 ≤ h0.size)  :
    MF l Z Y1 jdk_52_method_3_code 1 (some .int) ws ({ frames := 0, cells := 0, slots := 0, locals := 0 } : Room) #[(.int (2 : Int32))] h0 (Qnbl2 Z  h0 n0) := by
  refine MF.of pn_0 (fun m => ef_nbl2 m (2 : Int32)) ?_
  intro p e s m below meth c s₁ G X0 e0 hx hby hml hown hnm hlk hrt hZ hnd hG
  have N0 := Fr.nil n0
  refine Owe.iloadN X0.here hx (hb hby d1_0) rfl ?_
  refine Owe.ifYes X0.here hx (hb hby d1_1) rfl ((if0 _ _).trans (flt (by decide)).2.1) (pc' := 12) (by decide) (by decide) ?_
  refine Owe.iloadN X0.here hx (hb hby d1_12) rfl ?_
  refine Owe.ldcI X0 hx (v := (1073741823 : Int32)) hown (mvT hZ (wd hw 88)) (hb hby d1_13) ?_
  refine Owe.icmpYes X0.here hx (hb hby d1_15) rfl (tlt (by decide)).1 (pc' := 55) (by decide) (by decide) ?_
  refine Owe.iloadN X0.here hx (hb hby d1_55) rfl ?_
  refine Owe.iconst X0.here hx (hb hby d1_56) (w := (1 : Int32)) rfl ?_
  refine Owe.ishl X0.here hx (hb hby d1_57) rfl ?_
  refine Owe.retI X0 hx hlk hrt (hb hby d1_58) rfl fun fs hE => ?_
  refine hG _ _ ⟨_, _, rfl, ?_, frameMono hE (by decide) (by decide)⟩
  show Qnbl2 Z  h0 n0 _ s₁.heap _
  rw [e0]
  exact ⟨(congrArg (fun z => some (Value.int z)) (by decide)), N0, rfl⟩
theorem ef_nbf2 (m : MethodId) (x0 : Int32)  : entryFrame m #[(.int x0)] 1 = mkF m 0 #[.val (.int x0)] [] := by first | (simp [entryFrame, mkF, argsToLocals, Value.category]; done) | rfl
def Qnbf2 (Z : State)  (h0 : Heap) (n0 : Nat) (v : Option Value) (h : Heap) (L : List Loc) : Prop := ∃ (x1 : Addr), ∃ (kb1 : ClassId), v = some (.ref x1) ∧ Fr n0 L ∧ Keep h0 h [] ∧ n0 ≤ x1 ∧ h0.size ≤ x1 ∧ Arv Z h x1 kb1 .byte (4 : Int32) [(.int (0 : Int32)), (.int (0 : Int32)), (.int (0 : Int32)), (.int (0 : Int32))] (.int (0 : Int32))
set_option maxRecDepth 65536 in
set_option maxHeartbeats 40000000 in
theorem rmnbf2 (l : Launch) (Z : State) (a0 : Array Value) (hw : Hw Z a0) (ws : List Jvm.Cond)  (h0 : Heap) (n0 : Nat) (Z0 : n0 ≤ h0.size)  :
    MF l Z Y2 jdk_52_method_2_code 1 (some (.array .byte)) ws ({ frames := 1, cells := 1, slots := 4, locals := 12 } : Room) #[(.int (2 : Int32))] h0 (Qnbf2 Z  h0 n0) := by
  refine MF.of pn_0 (fun m => ef_nbf2 m (2 : Int32)) ?_
  intro p e s m below meth c s₁ G X0 e0 hx hby hml hown hnm hlk hrt hZ hnd hG
  have N0 := Fr.nil n0
  have K0 := Keep.refl h0 []
  refine Owe.iloadN X0.here hx (hb hby d2_0) rfl ?_
  refine Owe.stat X0 hx (y := Y1) hown (mvT hZ (wd hw 85)) (mvT hZ (wd hw 86)) (mvT hZ (wd hw 35)) (mvT hZ (wd hw 87)) (by decide) (backOf (W := 0) (rmnbl2 l Z a0 hw []  h0 n0 Z0 ) hZ (wd hw 87) (wd hw 35) (by decide) (by decide)) (by rw [hml]; rfl) (argsL := [(.int (2 : Int32))]) (rest := []) (lenOf pd_0 rfl) rfl (nb rfl) (hb hby d2_1) rfl e0 (by decide) (by decide) fun T130 v130 L130 X130 hQ130 => ?_
  obtain ⟨rfl, Nq130, e130⟩ := hQ130
  have N130 := Fr.app N0 Nq130
  refine Owe.newarr X130 hx hZ (aty := .byte) (wd hw 16) e130 (hb hby d2_4) rfl (by decide) (cap := 4) (by decide) (by decide) (by decide) (by decide) fun T131 h131 b131 k131 g131 X131 e131 E131 V131 => ?_
  have sz_b131 := Nat.le_trans K0.1 (Nat.le_of_eq g131.symm)
  have ge_b131 := Nat.le_trans Z0 (Nat.le_of_eq g131.symm)
  have K_132 := K0.ext E131
  have Z_133 := Nat.le_trans Z0 E131.1
  have V_b131_131 : Arv Z h131 b131 k131 .byte (4 : Int32) [(.int (0 : Int32)), (.int (0 : Int32)), (.int (0 : Int32)), (.int (0 : Int32))] (.int (0 : Int32)) := V131.pad (pad_rep [] (.int (0 : Int32)) 4)
  refine Owe.retR X131 hx hlk (t := (.array .byte)) hrt rfl rfl rfl (hb hby d2_6) rfl fun fs hE => ?_
  refine hG _ _ ⟨_, _, rfl, ?_, frameMono hE (by decide) (by decide)⟩
  show Qnbf2 Z  h0 n0 _ T131.heap _
  rw [e131]
  exact ⟨b131, k131, rfl, N130, K_132, ge_b131, sz_b131, V_b131_131⟩
theorem ef_ptc2_0 (m : MethodId) (x0 : Addr) (x1 : Int32) (x2 : Int32)  : entryFrame m #[(.ref x0), (.int x1), (.int x2)] 3 = mkF m 0 #[.val (.ref x0), .val (.int x1), .val (.int x2)] [] := by first | (simp [entryFrame, mkF, argsToLocals, Value.category]; done) | rfl
def Qptc2_0 (Z : State) (a1 : Addr) (k1 : ClassId) (c1 : Int32) (b0 : Int32) (b1 : Int32) (b2 : Int32) (b3 : Int32) (h0 : Heap) (n0 : Nat) (v : Option Value) (h : Heap) (L : List Loc) : Prop := v = none ∧ Fr n0 L ∧ Keep h0 h [a1] ∧ Arv Z h a1 k1 .byte (4 : Int32) [(.int (lo1 c1)), (.int (hi1 c1)), (.int b2), (.int b3)] (.int (0 : Int32))
set_option maxRecDepth 65536 in
set_option maxHeartbeats 40000000 in
theorem rmptc2_0 (l : Launch) (Z : State) (a0 : Array Value) (hw : Hw Z a0) (ws : List Jvm.Cond) (a1 : Addr) (k1 : ClassId) (c1 : Int32) (b0 : Int32) (b1 : Int32) (b2 : Int32) (b3 : Int32) (h0 : Heap) (n0 : Nat) (Z0 : n0 ≤ h0.size) (V_a1 : Arv Z h0 a1 k1 .byte (4 : Int32) [(.int b0), (.int b1), (.int b2), (.int b3)] (.int (0 : Int32))) (ge_a1 : n0 ≤ a1) (Ol : Old Z n0 h0) (S__assertionsDisabled : Sta Z Z.heap "java/lang/StringUTF16" "$assertionsDisabled" "Z" (.int (1 : Int32))) (S_HI_BYTE_SHIFT : Sta Z Z.heap "java/lang/StringUTF16" "HI_BYTE_SHIFT" "I" (.int (0 : Int32))) (S_LO_BYTE_SHIFT : Sta Z Z.heap "java/lang/StringUTF16" "LO_BYTE_SHIFT" "I" (.int (8 : Int32))) :
    MF l Z Y3 jdk_52_method_4_code 3 none ws ({ frames := 0, cells := 0, slots := 0, locals := 0 } : Room) #[(.ref a1), (.int (0 : Int32)), (.int c1)] h0 (Qptc2_0 Z a1 k1 c1 b0 b1 b2 b3 h0 n0) := by
  refine MF.of pn_0 (fun m => ef_ptc2_0 m a1 (0 : Int32) c1) ?_
  intro p e s m below meth c s₁ G X0 e0 hx hby hml hown hnm hlk hrt hZ hnd hG
  have N0 := Fr.nil n0
  have K0 := Keep.refl h0 [a1]
  refine Owe.gets X0 hx hZ hown (wd hw 92) Via.refl e0 (S__assertionsDisabled.ext Ol.2) (hb hby d3_0) fun T134 X134 e134 => ?_
  refine Owe.ifYes X134.here hx (hb hby d3_3) rfl ((if0 _ _).trans (feq (by decide)).2) (pc' := 28) (by decide) (by decide) ?_
  refine Owe.iloadN X134.here hx (hb hby d3_28) rfl ?_
  refine Owe.iconst X134.here hx (hb hby d3_29) (w := (1 : Int32)) rfl ?_
  refine Owe.ishl X134.here hx (hb hby d3_30) rfl ?_
  refine Owe.istoreN X134.here hx (hb hby d3_31) rfl (l' := #[.val (.ref a1), .val (.int (0 : Int32)), .val (.int c1)]) rfl ?_
  refine Owe.aloadN X134.here hx (hb hby d3_32) rfl rfl ?_
  refine Owe.iloadN X134.here hx (hb hby d3_33) rfl ?_
  refine Owe.iinc X134.here hx (hb hby d3_34) rfl (l' := #[.val (.ref a1), .val (.int (1 : Int32)), .val (.int c1)]) rfl ?_
  refine Owe.iloadN X134.here hx (hb hby d3_37) rfl ?_
  refine Owe.gets X134 hx hZ hown (wd hw 93) Via.refl e134 (S_HI_BYTE_SHIFT.ext Ol.2) (hb hby d3_38) fun T135 X135 e135 => ?_
  refine Owe.ishr X135.here hx (hb hby d3_41) rfl ?_
  refine Owe.i2b X135.here hx (hb hby d3_42) rfl ?_
  refine Owe.bastore X135 hx hZ e135 V_a1 (x := ((c1 >>> ((0 : Int32) &&& 31)).toInt8.toInt32)) 0 rfl (nb rfl) (by decide) (hb hby d3_43) rfl fun T136 h136 X136 e136 W136 (V136 : Arv Z h136 a1 k1 .byte (4 : Int32) [(.int (((c1 >>> ((0 : Int32) &&& 31)).toInt8.toInt32).toInt8.toInt32)), (.int b1), (.int b2), (.int b3)] (.int (0 : Int32))) => ?_
  have K_137 := K0.wr W136 (Or.inl (List.mem_of_getElem? (i := 0) rfl))
  have Ol_138 := Ol.wr W136 ge_a1
  have Z_139 := Nat.le_trans Z0 (Keep.of_wr W136).1
  have N136 := Fr.snoc X136 N0 ge_a1
  refine Owe.aloadN X136.here hx (hb hby d3_44) rfl rfl ?_
  refine Owe.iloadN X136.here hx (hb hby d3_45) rfl ?_
  refine Owe.iloadN X136.here hx (hb hby d3_46) rfl ?_
  refine Owe.gets X136 hx hZ hown (wd hw 94) Via.refl e136 (S_LO_BYTE_SHIFT.ext Ol_138.2) (hb hby d3_47) fun T140 X140 e140 => ?_
  refine Owe.ishr X140.here hx (hb hby d3_50) rfl ?_
  refine Owe.i2b X140.here hx (hb hby d3_51) rfl ?_
  refine Owe.bastore X140 hx hZ e140 V136 (x := ((c1 >>> ((8 : Int32) &&& 31)).toInt8.toInt32)) 1 rfl (nb rfl) (by decide) (hb hby d3_52) rfl fun T141 h141 X141 e141 W141 (V141 : Arv Z h141 a1 k1 .byte (4 : Int32) [(.int (((c1 >>> ((0 : Int32) &&& 31)).toInt8.toInt32).toInt8.toInt32)), (.int (((c1 >>> ((8 : Int32) &&& 31)).toInt8.toInt32).toInt8.toInt32)), (.int b2), (.int b3)] (.int (0 : Int32))) => ?_
  have K_142 := K_137.wr W141 (Or.inl (List.mem_of_getElem? (i := 0) rfl))
  have Ol_143 := Ol_138.wr W141 ge_a1
  have Z_144 := Nat.le_trans Z_139 (Keep.of_wr W141).1
  have N141 := Fr.snoc X141 N136 ge_a1
  refine Owe.ret0 X141 hx hlk hrt (hb hby d3_53) rfl fun fs hE => ?_
  refine hG _ _ ⟨_, _, rfl, ?_, frameMono hE (by decide) (by decide)⟩
  show Qptc2_0 Z a1 k1 c1 b0 b1 b2 b3 h0 n0 _ T141.heap _
  rw [e141]
  exact ⟨rfl, N141, K_142, V141⟩
theorem ef_ptc2_1 (m : MethodId) (x0 : Addr) (x1 : Int32) (x2 : Int32)  : entryFrame m #[(.ref x0), (.int x1), (.int x2)] 3 = mkF m 0 #[.val (.ref x0), .val (.int x1), .val (.int x2)] [] := by first | (simp [entryFrame, mkF, argsToLocals, Value.category]; done) | rfl
def Qptc2_1 (Z : State) (a1 : Addr) (k1 : ClassId) (c1 : Int32) (b0 : Int32) (b1 : Int32) (b2 : Int32) (b3 : Int32) (h0 : Heap) (n0 : Nat) (v : Option Value) (h : Heap) (L : List Loc) : Prop := v = none ∧ Fr n0 L ∧ Keep h0 h [a1] ∧ Arv Z h a1 k1 .byte (4 : Int32) [(.int b0), (.int b1), (.int (lo1 c1)), (.int (hi1 c1))] (.int (0 : Int32))
set_option maxRecDepth 65536 in
set_option maxHeartbeats 40000000 in
theorem rmptc2_1 (l : Launch) (Z : State) (a0 : Array Value) (hw : Hw Z a0) (ws : List Jvm.Cond) (a1 : Addr) (k1 : ClassId) (c1 : Int32) (b0 : Int32) (b1 : Int32) (b2 : Int32) (b3 : Int32) (h0 : Heap) (n0 : Nat) (Z0 : n0 ≤ h0.size) (V_a1 : Arv Z h0 a1 k1 .byte (4 : Int32) [(.int b0), (.int b1), (.int b2), (.int b3)] (.int (0 : Int32))) (ge_a1 : n0 ≤ a1) (Ol : Old Z n0 h0) (S__assertionsDisabled : Sta Z Z.heap "java/lang/StringUTF16" "$assertionsDisabled" "Z" (.int (1 : Int32))) (S_HI_BYTE_SHIFT : Sta Z Z.heap "java/lang/StringUTF16" "HI_BYTE_SHIFT" "I" (.int (0 : Int32))) (S_LO_BYTE_SHIFT : Sta Z Z.heap "java/lang/StringUTF16" "LO_BYTE_SHIFT" "I" (.int (8 : Int32))) :
    MF l Z Y3 jdk_52_method_4_code 3 none ws ({ frames := 0, cells := 0, slots := 0, locals := 0 } : Room) #[(.ref a1), (.int (1 : Int32)), (.int c1)] h0 (Qptc2_1 Z a1 k1 c1 b0 b1 b2 b3 h0 n0) := by
  refine MF.of pn_0 (fun m => ef_ptc2_1 m a1 (1 : Int32) c1) ?_
  intro p e s m below meth c s₁ G X0 e0 hx hby hml hown hnm hlk hrt hZ hnd hG
  have N0 := Fr.nil n0
  have K0 := Keep.refl h0 [a1]
  refine Owe.gets X0 hx hZ hown (wd hw 92) Via.refl e0 (S__assertionsDisabled.ext Ol.2) (hb hby d3_0) fun T145 X145 e145 => ?_
  refine Owe.ifYes X145.here hx (hb hby d3_3) rfl ((if0 _ _).trans (feq (by decide)).2) (pc' := 28) (by decide) (by decide) ?_
  refine Owe.iloadN X145.here hx (hb hby d3_28) rfl ?_
  refine Owe.iconst X145.here hx (hb hby d3_29) (w := (1 : Int32)) rfl ?_
  refine Owe.ishl X145.here hx (hb hby d3_30) rfl ?_
  refine Owe.istoreN X145.here hx (hb hby d3_31) rfl (l' := #[.val (.ref a1), .val (.int (2 : Int32)), .val (.int c1)]) rfl ?_
  refine Owe.aloadN X145.here hx (hb hby d3_32) rfl rfl ?_
  refine Owe.iloadN X145.here hx (hb hby d3_33) rfl ?_
  refine Owe.iinc X145.here hx (hb hby d3_34) rfl (l' := #[.val (.ref a1), .val (.int (3 : Int32)), .val (.int c1)]) rfl ?_
  refine Owe.iloadN X145.here hx (hb hby d3_37) rfl ?_
  refine Owe.gets X145 hx hZ hown (wd hw 93) Via.refl e145 (S_HI_BYTE_SHIFT.ext Ol.2) (hb hby d3_38) fun T146 X146 e146 => ?_
  refine Owe.ishr X146.here hx (hb hby d3_41) rfl ?_
  refine Owe.i2b X146.here hx (hb hby d3_42) rfl ?_
  refine Owe.bastore X146 hx hZ e146 V_a1 (x := ((c1 >>> ((0 : Int32) &&& 31)).toInt8.toInt32)) 2 rfl (nb rfl) (by decide) (hb hby d3_43) rfl fun T147 h147 X147 e147 W147 (V147 : Arv Z h147 a1 k1 .byte (4 : Int32) [(.int b0), (.int b1), (.int (((c1 >>> ((0 : Int32) &&& 31)).toInt8.toInt32).toInt8.toInt32)), (.int b3)] (.int (0 : Int32))) => ?_
  have K_148 := K0.wr W147 (Or.inl (List.mem_of_getElem? (i := 0) rfl))
  have Ol_149 := Ol.wr W147 ge_a1
  have Z_150 := Nat.le_trans Z0 (Keep.of_wr W147).1
  have N147 := Fr.snoc X147 N0 ge_a1
  refine Owe.aloadN X147.here hx (hb hby d3_44) rfl rfl ?_
  refine Owe.iloadN X147.here hx (hb hby d3_45) rfl ?_
  refine Owe.iloadN X147.here hx (hb hby d3_46) rfl ?_
  refine Owe.gets X147 hx hZ hown (wd hw 94) Via.refl e147 (S_LO_BYTE_SHIFT.ext Ol_149.2) (hb hby d3_47) fun T151 X151 e151 => ?_
  refine Owe.ishr X151.here hx (hb hby d3_50) rfl ?_
  refine Owe.i2b X151.here hx (hb hby d3_51) rfl ?_
  refine Owe.bastore X151 hx hZ e151 V147 (x := ((c1 >>> ((8 : Int32) &&& 31)).toInt8.toInt32)) 3 rfl (nb rfl) (by decide) (hb hby d3_52) rfl fun T152 h152 X152 e152 W152 (V152 : Arv Z h152 a1 k1 .byte (4 : Int32) [(.int b0), (.int b1), (.int (((c1 >>> ((0 : Int32) &&& 31)).toInt8.toInt32).toInt8.toInt32)), (.int (((c1 >>> ((8 : Int32) &&& 31)).toInt8.toInt32).toInt8.toInt32))] (.int (0 : Int32))) => ?_
  have K_153 := K_148.wr W152 (Or.inl (List.mem_of_getElem? (i := 0) rfl))
  have Ol_154 := Ol_149.wr W152 ge_a1
  have Z_155 := Nat.le_trans Z_150 (Keep.of_wr W152).1
  have N152 := Fr.snoc X152 N147 ge_a1
  refine Owe.ret0 X152 hx hlk hrt (hb hby d3_53) rfl fun fs hE => ?_
  refine hG _ _ ⟨_, _, rfl, ?_, frameMono hE (by decide) (by decide)⟩
  show Qptc2_1 Z a1 k1 c1 b0 b1 b2 b3 h0 n0 _ T152.heap _
  rw [e152]
  exact ⟨rfl, N152, K_153, V152⟩
theorem ef_tob2 (m : MethodId) (x0 : Addr) (x1 : Int32) (x2 : Int32)  : entryFrame m #[(.ref x0), (.int x1), (.int x2)] 5 = mkF m 0 #[.val (.ref x0), .val (.int x1), .val (.int x2), .unset, .unset] [] := by first | (simp [entryFrame, mkF, argsToLocals, Value.category]; done) | rfl
def Qtob2 (Z : State) (a1 : Addr) (k1 : ClassId) (v0 : Int32) (v1 : Int32) (h0 : Heap) (n0 : Nat) (v : Option Value) (h : Heap) (L : List Loc) : Prop := ∃ (x1 : Addr), ∃ (kb1 : ClassId), v = some (.ref x1) ∧ Fr n0 L ∧ Keep h0 h [] ∧ n0 ≤ x1 ∧ h0.size ≤ x1 ∧ Arv Z h x1 kb1 .byte (4 : Int32) [(.int (lo1 v0)), (.int (hi1 v0)), (.int (lo1 v1)), (.int (hi1 v1))] (.int (0 : Int32))
set_option maxRecDepth 65536 in
set_option maxHeartbeats 40000000 in
theorem rmtob2 (l : Launch) (Z : State) (a0 : Array Value) (hw : Hw Z a0) (ws : List Jvm.Cond) (a1 : Addr) (k1 : ClassId) (v0 : Int32) (v1 : Int32) (h0 : Heap) (n0 : Nat) (Z0 : n0 ≤ h0.size) (V_a1 : Arv Z h0 a1 k1 .char (2 : Int32) [(.int v0), (.int v1)] (.int (0 : Int32))) (Ol : Old Z n0 h0) (S__assertionsDisabled : Sta Z Z.heap "java/lang/StringUTF16" "$assertionsDisabled" "Z" (.int (1 : Int32))) (S_HI_BYTE_SHIFT : Sta Z Z.heap "java/lang/StringUTF16" "HI_BYTE_SHIFT" "I" (.int (0 : Int32))) (S_LO_BYTE_SHIFT : Sta Z Z.heap "java/lang/StringUTF16" "LO_BYTE_SHIFT" "I" (.int (8 : Int32))) :
    MF l Z Y4 jdk_52_method_14_code 5 (some (.array .byte)) ws ({ frames := 2, cells := 1, slots := 4, locals := 24 } : Room) #[(.ref a1), (.int (0 : Int32)), (.int (2 : Int32))] h0 (Qtob2 Z a1 k1 v0 v1 h0 n0) := by
  refine MF.of pn_0 (fun m => ef_tob2 m a1 (0 : Int32) (2 : Int32)) ?_
  intro p e s m below meth c s₁ G X0 e0 hx hby hml hown hnm hlk hrt hZ hnd hG
  have N0 := Fr.nil n0
  have K0 := Keep.refl h0 []
  refine Owe.iloadN X0.here hx (hb hby d4_0) rfl ?_
  refine Owe.stat X0 hx (y := Y2) hown (mvT hZ (wd hw 82)) (mvT hZ (wd hw 83)) (mvT hZ (wd hw 35)) (mvT hZ (wd hw 84)) (by decide) (backOf (W := 0) (rmnbf2 l Z a0 hw []  h0 n0 Z0 ) hZ (wd hw 84) (wd hw 35) (by decide) (by decide)) (by rw [hml]; rfl) (argsL := [(.int (2 : Int32))]) (rest := []) (lenOf pd_1 rfl) rfl (nb rfl) (hb hby d4_1) rfl e0 (by decide) (by decide) fun T156 v156 L156 X156 hQ156 => ?_
  obtain ⟨x1_156, kb1_156, rfl, Nq156, K156, ge_x1_156, fresh_x1_156, V_x1_156⟩ := hQ156
  have N156 := Fr.app N0 Nq156
  have K_157 := K0.trans K156 all0
  have V_a1_158 := V_a1.keep K156 nin0
  have Ol_159 := Ol.keep K156 all0
  have Z_160 := Nat.le_trans Z0 K156.1
  have ne_a1_x1_156 : a1 ≠ x1_156 := Nat.ne_of_lt (Nat.lt_of_lt_of_le V_a1.lt fresh_x1_156)
  have sz_x1_156 := Nat.le_trans K0.1 fresh_x1_156
  refine Owe.astoreN X156.here hx (hb hby d4_4) rfl rfl (l' := #[.val (.ref a1), .val (.int (0 : Int32)), .val (.int (2 : Int32)), .val (.ref x1_156), .unset]) rfl ?_
  refine Owe.iconst X156.here hx (hb hby d4_5) (w := (0 : Int32)) rfl ?_
  refine Owe.istore X156.here hx (hb hby d4_6) rfl (l' := #[.val (.ref a1), .val (.int (0 : Int32)), .val (.int (2 : Int32)), .val (.ref x1_156), .val (.int (0 : Int32))]) rfl ?_
  refine Owe.iload X156.here hx (hb hby d4_8) rfl ?_
  refine Owe.iloadN X156.here hx (hb hby d4_10) rfl ?_
  refine Owe.icmpNo X156.here hx (hb hby d4_11) rfl (tlt (by decide)).2.1 ?_
  refine Owe.aloadN X156.here hx (hb hby d4_14) rfl rfl ?_
  refine Owe.iload X156.here hx (hb hby d4_15) rfl ?_
  refine Owe.aloadN X156.here hx (hb hby d4_17) rfl rfl ?_
  refine Owe.iloadN X156.here hx (hb hby d4_18) rfl ?_
  refine Owe.caload X156 hx hZ rfl V_a1_158 (v := (.int v0)) (by decide) rfl (hb hby d4_19) rfl ?_
  refine Owe.stat X156 hx (y := Y3) hown (mvT hZ (wd hw 89)) (mvT hZ (wd hw 90)) (mvT hZ (wd hw 35)) (mvT hZ (wd hw 91)) (by decide) (backOf (W := 0) (rmptc2_0 l Z a0 hw [] x1_156 kb1_156 v0 (0 : Int32) (0 : Int32) (0 : Int32) (0 : Int32) T156.heap n0 Z_160 V_x1_156 ge_x1_156 Ol_159 S__assertionsDisabled S_HI_BYTE_SHIFT S_LO_BYTE_SHIFT) hZ (wd hw 91) (wd hw 35) (by decide) (by decide)) (by rw [hml]; rfl) (argsL := [(.ref x1_156), (.int (0 : Int32)), (.int v0)]) (rest := []) (lenOf pd_2 rfl) rfl (nb rfl) (hb hby d4_20) rfl rfl (by decide) (by decide) fun T161 v161 L161 X161 hQ161 => ?_
  obtain ⟨rfl, Nq161, K161, V_a1_161⟩ := hQ161
  have N161 := Fr.app N156 Nq161
  have K_162 := K_157.trans K161 (allS (Or.inr sz_x1_156) all0)
  have V_a1_163 := V_a1_158.keep K161 (ninS ne_a1_x1_156 nin0)
  have Ol_164 := Ol_159.keep K161 (allS ge_x1_156 all0)
  have Z_165 := Nat.le_trans Z_160 K161.1
  refine Owe.iinc X161.here hx (hb hby d4_23) rfl (l' := #[.val (.ref a1), .val (.int (1 : Int32)), .val (.int (2 : Int32)), .val (.ref x1_156), .val (.int (0 : Int32))]) rfl ?_
  refine Owe.iinc X161.here hx (hb hby d4_26) rfl (l' := #[.val (.ref a1), .val (.int (1 : Int32)), .val (.int (2 : Int32)), .val (.ref x1_156), .val (.int (1 : Int32))]) rfl ?_
  refine Owe.goto X161.here hx (hb hby d4_29) (pc' := 8) (by decide) (by decide) ?_
  refine Owe.iload X161.here hx (hb hby d4_8) rfl ?_
  refine Owe.iloadN X161.here hx (hb hby d4_10) rfl ?_
  refine Owe.icmpNo X161.here hx (hb hby d4_11) rfl (tlt (by decide)).2.1 ?_
  refine Owe.aloadN X161.here hx (hb hby d4_14) rfl rfl ?_
  refine Owe.iload X161.here hx (hb hby d4_15) rfl ?_
  refine Owe.aloadN X161.here hx (hb hby d4_17) rfl rfl ?_
  refine Owe.iloadN X161.here hx (hb hby d4_18) rfl ?_
  refine Owe.caload X161 hx hZ rfl V_a1_163 (v := (.int v1)) (by decide) rfl (hb hby d4_19) rfl ?_
  refine Owe.stat X161 hx (y := Y3) hown (mvT hZ (wd hw 89)) (mvT hZ (wd hw 90)) (mvT hZ (wd hw 35)) (mvT hZ (wd hw 91)) (by decide) (backOf (W := 0) (rmptc2_1 l Z a0 hw [] x1_156 kb1_156 v1 (lo1 v0) (hi1 v0) (0 : Int32) (0 : Int32) T161.heap n0 Z_165 V_a1_161 ge_x1_156 Ol_164 S__assertionsDisabled S_HI_BYTE_SHIFT S_LO_BYTE_SHIFT) hZ (wd hw 91) (wd hw 35) (by decide) (by decide)) (by rw [hml]; rfl) (argsL := [(.ref x1_156), (.int (1 : Int32)), (.int v1)]) (rest := []) (lenOf pd_2 rfl) rfl (nb rfl) (hb hby d4_20) rfl rfl (by decide) (by decide) fun T166 v166 L166 X166 hQ166 => ?_
  obtain ⟨rfl, Nq166, K166, V_a1_166⟩ := hQ166
  have N166 := Fr.app N161 Nq166
  have K_167 := K_162.trans K166 (allS (Or.inr sz_x1_156) all0)
  have V_a1_168 := V_a1_163.keep K166 (ninS ne_a1_x1_156 nin0)
  have Ol_169 := Ol_164.keep K166 (allS ge_x1_156 all0)
  have Z_170 := Nat.le_trans Z_165 K166.1
  refine Owe.iinc X166.here hx (hb hby d4_23) rfl (l' := #[.val (.ref a1), .val (.int (2 : Int32)), .val (.int (2 : Int32)), .val (.ref x1_156), .val (.int (1 : Int32))]) rfl ?_
  refine Owe.iinc X166.here hx (hb hby d4_26) rfl (l' := #[.val (.ref a1), .val (.int (2 : Int32)), .val (.int (2 : Int32)), .val (.ref x1_156), .val (.int (2 : Int32))]) rfl ?_
  refine Owe.goto X166.here hx (hb hby d4_29) (pc' := 8) (by decide) (by decide) ?_
  refine Owe.iload X166.here hx (hb hby d4_8) rfl ?_
  refine Owe.iloadN X166.here hx (hb hby d4_10) rfl ?_
  refine Owe.icmpYes X166.here hx (hb hby d4_11) rfl (flt (by decide)).2.1 (pc' := 32) (by decide) (by decide) ?_
  refine Owe.aloadN X166.here hx (hb hby d4_32) rfl rfl ?_
  refine Owe.retR X166 hx hlk (t := (.array .byte)) hrt rfl rfl rfl (hb hby d4_33) rfl fun fs hE => ?_
  refine hG _ _ ⟨_, _, rfl, ?_, frameMono hE (by decide) (by decide)⟩
  show Qtob2 Z a1 k1 v0 v1 h0 n0 _ T166.heap _
  exact ⟨x1_156, kb1_156, rfl, N166, K_167, ge_x1_156, sz_x1_156, V_a1_166⟩
theorem ef_cmi2_0 (m : MethodId) (x0 : Addr) (x1 : Int32) (x2 : Addr) (x3 : Int32) (x4 : Int32)  : entryFrame m #[(.ref x0), (.int x1), (.ref x2), (.int x3), (.int x4)] 7 = mkF m 0 #[.val (.ref x0), .val (.int x1), .val (.ref x2), .val (.int x3), .val (.int x4), .unset, .unset] [] := by first | (simp [entryFrame, mkF, argsToLocals, Value.category]; done) | rfl
def Qcmi2_0 (Z : State) (a1 : Addr) (k1 : ClassId) (a2 : Addr) (k2 : ClassId) (v0 : Int32) (v1 : Int32) (h0 : Heap) (n0 : Nat) (v : Option Value) (h : Heap) (L : List Loc) : Prop := v = some (.int (0 : Int32)) ∧ Fr n0 L ∧ Keep h0 h [a2]
set_option maxRecDepth 65536 in
set_option maxHeartbeats 40000000 in
theorem rmcmi2_0 (l : Launch) (Z : State) (a0 : Array Value) (hw : Hw Z a0) (ws : List Jvm.Cond) (a1 : Addr) (k1 : ClassId) (a2 : Addr) (k2 : ClassId) (v0 : Int32) (v1 : Int32) (h0 : Heap) (n0 : Nat) (Z0 : n0 ≤ h0.size) (V_a1 : Arv Z h0 a1 k1 .char (2 : Int32) [(.int v0), (.int v1)] (.int (0 : Int32))) (V_a2 : Arv Z h0 a2 k2 .byte (2 : Int32) [(.int (0 : Int32)), (.int (0 : Int32))] (.int (0 : Int32))) (ge_a2 : n0 ≤ a2) (ne_a1_a2 : a1 ≠ a2) (hg : (255 : Int32) < v0) :
    MF l Z Y5 jdk_52_method_21_code 7 (some .int) ws ({ frames := 0, cells := 0, slots := 0, locals := 0 } : Room) #[(.ref a1), (.int (0 : Int32)), (.ref a2), (.int (0 : Int32)), (.int (2 : Int32))] h0 (Qcmi2_0 Z a1 k1 a2 k2 v0 v1 h0 n0) := by
  refine MF.of pn_0 (fun m => ef_cmi2_0 m a1 (0 : Int32) a2 (0 : Int32) (2 : Int32)) ?_
  intro p e s m below meth c s₁ G X0 e0 hx hby hml hown hnm hlk hrt hZ hnd hG
  have N0 := Fr.nil n0
  have K0 := Keep.refl h0 [a2]
  refine Owe.iconst X0.here hx (hb hby d5_0) (w := (0 : Int32)) rfl ?_
  refine Owe.istore X0.here hx (hb hby d5_1) rfl (l' := #[.val (.ref a1), .val (.int (0 : Int32)), .val (.ref a2), .val (.int (0 : Int32)), .val (.int (2 : Int32)), .val (.int (0 : Int32)), .unset]) rfl ?_
  refine Owe.iload X0.here hx (hb hby d5_3) rfl ?_
  refine Owe.iload X0.here hx (hb hby d5_5) rfl ?_
  refine Owe.icmpNo X0.here hx (hb hby d5_7) rfl (tlt (by decide)).2.1 ?_
  refine Owe.aloadN X0.here hx (hb hby d5_10) rfl rfl ?_
  refine Owe.iloadN X0.here hx (hb hby d5_11) rfl ?_
  refine Owe.caload X0 hx hZ e0 V_a1 (v := (.int v0)) (by decide) rfl (hb hby d5_12) rfl ?_
  refine Owe.istore X0.here hx (hb hby d5_13) rfl (l' := #[.val (.ref a1), .val (.int (0 : Int32)), .val (.ref a2), .val (.int (0 : Int32)), .val (.int (2 : Int32)), .val (.int (0 : Int32)), .val (.int v0)]) rfl ?_
  refine Owe.iload X0.here hx (hb hby d5_15) rfl ?_
  refine Owe.sipush X0.here hx (hb hby d5_17) (w := (255 : Int32)) rfl ?_
  refine Owe.icmpNo X0.here hx (hb hby d5_20) rfl (tlt hg).2.2.2 ?_
  refine Owe.iload X0.here hx (hb hby d5_23) rfl ?_
  refine Owe.retI X0 hx hlk hrt (hb hby d5_25) rfl fun fs hE => ?_
  refine hG _ _ ⟨_, _, rfl, ?_, frameMono hE (by decide) (by decide)⟩
  show Qcmi2_0 Z a1 k1 a2 k2 v0 v1 h0 n0 _ s₁.heap _
  rw [e0]
  exact ⟨rfl, N0, K0⟩
theorem ef_cmi2_1 (m : MethodId) (x0 : Addr) (x1 : Int32) (x2 : Addr) (x3 : Int32) (x4 : Int32)  : entryFrame m #[(.ref x0), (.int x1), (.ref x2), (.int x3), (.int x4)] 7 = mkF m 0 #[.val (.ref x0), .val (.int x1), .val (.ref x2), .val (.int x3), .val (.int x4), .unset, .unset] [] := by first | (simp [entryFrame, mkF, argsToLocals, Value.category]; done) | rfl
def Qcmi2_1 (Z : State) (a1 : Addr) (k1 : ClassId) (a2 : Addr) (k2 : ClassId) (v0 : Int32) (v1 : Int32) (h0 : Heap) (n0 : Nat) (v : Option Value) (h : Heap) (L : List Loc) : Prop := v = some (.int (1 : Int32)) ∧ Fr n0 L ∧ Keep h0 h [a2]
set_option maxRecDepth 65536 in
set_option maxHeartbeats 40000000 in
theorem rmcmi2_1 (l : Launch) (Z : State) (a0 : Array Value) (hw : Hw Z a0) (ws : List Jvm.Cond) (a1 : Addr) (k1 : ClassId) (a2 : Addr) (k2 : ClassId) (v0 : Int32) (v1 : Int32) (h0 : Heap) (n0 : Nat) (Z0 : n0 ≤ h0.size) (V_a1 : Arv Z h0 a1 k1 .char (2 : Int32) [(.int v0), (.int v1)] (.int (0 : Int32))) (V_a2 : Arv Z h0 a2 k2 .byte (2 : Int32) [(.int (0 : Int32)), (.int (0 : Int32))] (.int (0 : Int32))) (ge_a2 : n0 ≤ a2) (ne_a1_a2 : a1 ≠ a2) (hl0 : ¬ (255 : Int32) < v0) (hg : (255 : Int32) < v1) :
    MF l Z Y5 jdk_52_method_21_code 7 (some .int) ws ({ frames := 0, cells := 0, slots := 0, locals := 0 } : Room) #[(.ref a1), (.int (0 : Int32)), (.ref a2), (.int (0 : Int32)), (.int (2 : Int32))] h0 (Qcmi2_1 Z a1 k1 a2 k2 v0 v1 h0 n0) := by
  refine MF.of pn_0 (fun m => ef_cmi2_1 m a1 (0 : Int32) a2 (0 : Int32) (2 : Int32)) ?_
  intro p e s m below meth c s₁ G X0 e0 hx hby hml hown hnm hlk hrt hZ hnd hG
  have N0 := Fr.nil n0
  have K0 := Keep.refl h0 [a2]
  refine Owe.iconst X0.here hx (hb hby d5_0) (w := (0 : Int32)) rfl ?_
  refine Owe.istore X0.here hx (hb hby d5_1) rfl (l' := #[.val (.ref a1), .val (.int (0 : Int32)), .val (.ref a2), .val (.int (0 : Int32)), .val (.int (2 : Int32)), .val (.int (0 : Int32)), .unset]) rfl ?_
  refine Owe.iload X0.here hx (hb hby d5_3) rfl ?_
  refine Owe.iload X0.here hx (hb hby d5_5) rfl ?_
  refine Owe.icmpNo X0.here hx (hb hby d5_7) rfl (tlt (by decide)).2.1 ?_
  refine Owe.aloadN X0.here hx (hb hby d5_10) rfl rfl ?_
  refine Owe.iloadN X0.here hx (hb hby d5_11) rfl ?_
  refine Owe.caload X0 hx hZ e0 V_a1 (v := (.int v0)) (by decide) rfl (hb hby d5_12) rfl ?_
  refine Owe.istore X0.here hx (hb hby d5_13) rfl (l' := #[.val (.ref a1), .val (.int (0 : Int32)), .val (.ref a2), .val (.int (0 : Int32)), .val (.int (2 : Int32)), .val (.int (0 : Int32)), .val (.int v0)]) rfl ?_
  refine Owe.iload X0.here hx (hb hby d5_15) rfl ?_
  refine Owe.sipush X0.here hx (hb hby d5_17) (w := (255 : Int32)) rfl ?_
  refine Owe.icmpYes X0.here hx (hb hby d5_20) rfl (flt hl0).2.2.2 (pc' := 26) (by decide) (by decide) ?_
  refine Owe.aloadN X0.here hx (hb hby d5_26) rfl rfl ?_
  refine Owe.iloadN X0.here hx (hb hby d5_27) rfl ?_
  refine Owe.iload X0.here hx (hb hby d5_28) rfl ?_
  refine Owe.i2b X0.here hx (hb hby d5_30) rfl ?_
  refine Owe.bastore X0 hx hZ e0 V_a2 (x := (v0.toInt8.toInt32)) 0 rfl (nb rfl) (by decide) (hb hby d5_31) rfl fun T171 h171 X171 e171 W171 (V171 : Arv Z h171 a2 k2 .byte (2 : Int32) [(.int ((v0.toInt8.toInt32).toInt8.toInt32)), (.int (0 : Int32))] (.int (0 : Int32))) => ?_
  have K_172 := K0.wr W171 (Or.inl (List.mem_of_getElem? (i := 0) rfl))
  have V_a1_173 := V_a1.other W171 ne_a1_a2
  have Z_174 := Nat.le_trans Z0 (Keep.of_wr W171).1
  have N171 := Fr.snoc X171 N0 ge_a2
  refine Owe.iinc X171.here hx (hb hby d5_32) rfl (l' := #[.val (.ref a1), .val (.int (1 : Int32)), .val (.ref a2), .val (.int (0 : Int32)), .val (.int (2 : Int32)), .val (.int (0 : Int32)), .val (.int v0)]) rfl ?_
  refine Owe.iinc X171.here hx (hb hby d5_35) rfl (l' := #[.val (.ref a1), .val (.int (1 : Int32)), .val (.ref a2), .val (.int (1 : Int32)), .val (.int (2 : Int32)), .val (.int (0 : Int32)), .val (.int v0)]) rfl ?_
  refine Owe.iinc X171.here hx (hb hby d5_38) rfl (l' := #[.val (.ref a1), .val (.int (1 : Int32)), .val (.ref a2), .val (.int (1 : Int32)), .val (.int (2 : Int32)), .val (.int (1 : Int32)), .val (.int v0)]) rfl ?_
  refine Owe.goto X171.here hx (hb hby d5_41) (pc' := 3) (by decide) (by decide) ?_
  refine Owe.iload X171.here hx (hb hby d5_3) rfl ?_
  refine Owe.iload X171.here hx (hb hby d5_5) rfl ?_
  refine Owe.icmpNo X171.here hx (hb hby d5_7) rfl (tlt (by decide)).2.1 ?_
  refine Owe.aloadN X171.here hx (hb hby d5_10) rfl rfl ?_
  refine Owe.iloadN X171.here hx (hb hby d5_11) rfl ?_
  refine Owe.caload X171 hx hZ e171 V_a1_173 (v := (.int v1)) (by decide) rfl (hb hby d5_12) rfl ?_
  refine Owe.istore X171.here hx (hb hby d5_13) rfl (l' := #[.val (.ref a1), .val (.int (1 : Int32)), .val (.ref a2), .val (.int (1 : Int32)), .val (.int (2 : Int32)), .val (.int (1 : Int32)), .val (.int v1)]) rfl ?_
  refine Owe.iload X171.here hx (hb hby d5_15) rfl ?_
  refine Owe.sipush X171.here hx (hb hby d5_17) (w := (255 : Int32)) rfl ?_
  refine Owe.icmpNo X171.here hx (hb hby d5_20) rfl (tlt hg).2.2.2 ?_
  refine Owe.iload X171.here hx (hb hby d5_23) rfl ?_
  refine Owe.retI X171 hx hlk hrt (hb hby d5_25) rfl fun fs hE => ?_
  refine hG _ _ ⟨_, _, rfl, ?_, frameMono hE (by decide) (by decide)⟩
  show Qcmi2_1 Z a1 k1 a2 k2 v0 v1 h0 n0 _ T171.heap _
  rw [e171]
  exact ⟨rfl, N171, K_172⟩
theorem ef_cmi2_2 (m : MethodId) (x0 : Addr) (x1 : Int32) (x2 : Addr) (x3 : Int32) (x4 : Int32)  : entryFrame m #[(.ref x0), (.int x1), (.ref x2), (.int x3), (.int x4)] 7 = mkF m 0 #[.val (.ref x0), .val (.int x1), .val (.ref x2), .val (.int x3), .val (.int x4), .unset, .unset] [] := by first | (simp [entryFrame, mkF, argsToLocals, Value.category]; done) | rfl
def Qcmi2_2 (Z : State) (a1 : Addr) (k1 : ClassId) (a2 : Addr) (k2 : ClassId) (v0 : Int32) (v1 : Int32) (h0 : Heap) (n0 : Nat) (v : Option Value) (h : Heap) (L : List Loc) : Prop := v = some (.int (2 : Int32)) ∧ Fr n0 L ∧ Keep h0 h [a2] ∧ Arv Z h a2 k2 .byte (2 : Int32) [(.int (la1 v0)), (.int (la1 v1))] (.int (0 : Int32))
set_option maxRecDepth 65536 in
set_option maxHeartbeats 40000000 in
theorem rmcmi2_2 (l : Launch) (Z : State) (a0 : Array Value) (hw : Hw Z a0) (ws : List Jvm.Cond) (a1 : Addr) (k1 : ClassId) (a2 : Addr) (k2 : ClassId) (v0 : Int32) (v1 : Int32) (h0 : Heap) (n0 : Nat) (Z0 : n0 ≤ h0.size) (V_a1 : Arv Z h0 a1 k1 .char (2 : Int32) [(.int v0), (.int v1)] (.int (0 : Int32))) (V_a2 : Arv Z h0 a2 k2 .byte (2 : Int32) [(.int (0 : Int32)), (.int (0 : Int32))] (.int (0 : Int32))) (ge_a2 : n0 ≤ a2) (ne_a1_a2 : a1 ≠ a2) (hl0 : ¬ (255 : Int32) < v0) (hl1 : ¬ (255 : Int32) < v1) :
    MF l Z Y5 jdk_52_method_21_code 7 (some .int) ws ({ frames := 0, cells := 0, slots := 0, locals := 0 } : Room) #[(.ref a1), (.int (0 : Int32)), (.ref a2), (.int (0 : Int32)), (.int (2 : Int32))] h0 (Qcmi2_2 Z a1 k1 a2 k2 v0 v1 h0 n0) := by
  refine MF.of pn_0 (fun m => ef_cmi2_2 m a1 (0 : Int32) a2 (0 : Int32) (2 : Int32)) ?_
  intro p e s m below meth c s₁ G X0 e0 hx hby hml hown hnm hlk hrt hZ hnd hG
  have N0 := Fr.nil n0
  have K0 := Keep.refl h0 [a2]
  refine Owe.iconst X0.here hx (hb hby d5_0) (w := (0 : Int32)) rfl ?_
  refine Owe.istore X0.here hx (hb hby d5_1) rfl (l' := #[.val (.ref a1), .val (.int (0 : Int32)), .val (.ref a2), .val (.int (0 : Int32)), .val (.int (2 : Int32)), .val (.int (0 : Int32)), .unset]) rfl ?_
  refine Owe.iload X0.here hx (hb hby d5_3) rfl ?_
  refine Owe.iload X0.here hx (hb hby d5_5) rfl ?_
  refine Owe.icmpNo X0.here hx (hb hby d5_7) rfl (tlt (by decide)).2.1 ?_
  refine Owe.aloadN X0.here hx (hb hby d5_10) rfl rfl ?_
  refine Owe.iloadN X0.here hx (hb hby d5_11) rfl ?_
  refine Owe.caload X0 hx hZ e0 V_a1 (v := (.int v0)) (by decide) rfl (hb hby d5_12) rfl ?_
  refine Owe.istore X0.here hx (hb hby d5_13) rfl (l' := #[.val (.ref a1), .val (.int (0 : Int32)), .val (.ref a2), .val (.int (0 : Int32)), .val (.int (2 : Int32)), .val (.int (0 : Int32)), .val (.int v0)]) rfl ?_
  refine Owe.iload X0.here hx (hb hby d5_15) rfl ?_
  refine Owe.sipush X0.here hx (hb hby d5_17) (w := (255 : Int32)) rfl ?_
  refine Owe.icmpYes X0.here hx (hb hby d5_20) rfl (flt hl0).2.2.2 (pc' := 26) (by decide) (by decide) ?_
  refine Owe.aloadN X0.here hx (hb hby d5_26) rfl rfl ?_
  refine Owe.iloadN X0.here hx (hb hby d5_27) rfl ?_
  refine Owe.iload X0.here hx (hb hby d5_28) rfl ?_
  refine Owe.i2b X0.here hx (hb hby d5_30) rfl ?_
  refine Owe.bastore X0 hx hZ e0 V_a2 (x := (v0.toInt8.toInt32)) 0 rfl (nb rfl) (by decide) (hb hby d5_31) rfl fun T175 h175 X175 e175 W175 (V175 : Arv Z h175 a2 k2 .byte (2 : Int32) [(.int ((v0.toInt8.toInt32).toInt8.toInt32)), (.int (0 : Int32))] (.int (0 : Int32))) => ?_
  have K_176 := K0.wr W175 (Or.inl (List.mem_of_getElem? (i := 0) rfl))
  have V_a1_177 := V_a1.other W175 ne_a1_a2
  have Z_178 := Nat.le_trans Z0 (Keep.of_wr W175).1
  have N175 := Fr.snoc X175 N0 ge_a2
  refine Owe.iinc X175.here hx (hb hby d5_32) rfl (l' := #[.val (.ref a1), .val (.int (1 : Int32)), .val (.ref a2), .val (.int (0 : Int32)), .val (.int (2 : Int32)), .val (.int (0 : Int32)), .val (.int v0)]) rfl ?_
  refine Owe.iinc X175.here hx (hb hby d5_35) rfl (l' := #[.val (.ref a1), .val (.int (1 : Int32)), .val (.ref a2), .val (.int (1 : Int32)), .val (.int (2 : Int32)), .val (.int (0 : Int32)), .val (.int v0)]) rfl ?_
  refine Owe.iinc X175.here hx (hb hby d5_38) rfl (l' := #[.val (.ref a1), .val (.int (1 : Int32)), .val (.ref a2), .val (.int (1 : Int32)), .val (.int (2 : Int32)), .val (.int (1 : Int32)), .val (.int v0)]) rfl ?_
  refine Owe.goto X175.here hx (hb hby d5_41) (pc' := 3) (by decide) (by decide) ?_
  refine Owe.iload X175.here hx (hb hby d5_3) rfl ?_
  refine Owe.iload X175.here hx (hb hby d5_5) rfl ?_
  refine Owe.icmpNo X175.here hx (hb hby d5_7) rfl (tlt (by decide)).2.1 ?_
  refine Owe.aloadN X175.here hx (hb hby d5_10) rfl rfl ?_
  refine Owe.iloadN X175.here hx (hb hby d5_11) rfl ?_
  refine Owe.caload X175 hx hZ e175 V_a1_177 (v := (.int v1)) (by decide) rfl (hb hby d5_12) rfl ?_
  refine Owe.istore X175.here hx (hb hby d5_13) rfl (l' := #[.val (.ref a1), .val (.int (1 : Int32)), .val (.ref a2), .val (.int (1 : Int32)), .val (.int (2 : Int32)), .val (.int (1 : Int32)), .val (.int v1)]) rfl ?_
  refine Owe.iload X175.here hx (hb hby d5_15) rfl ?_
  refine Owe.sipush X175.here hx (hb hby d5_17) (w := (255 : Int32)) rfl ?_
  refine Owe.icmpYes X175.here hx (hb hby d5_20) rfl (flt hl1).2.2.2 (pc' := 26) (by decide) (by decide) ?_
  refine Owe.aloadN X175.here hx (hb hby d5_26) rfl rfl ?_
  refine Owe.iloadN X175.here hx (hb hby d5_27) rfl ?_
  refine Owe.iload X175.here hx (hb hby d5_28) rfl ?_
  refine Owe.i2b X175.here hx (hb hby d5_30) rfl ?_
  refine Owe.bastore X175 hx hZ e175 V175 (x := (v1.toInt8.toInt32)) 1 rfl (nb rfl) (by decide) (hb hby d5_31) rfl fun T179 h179 X179 e179 W179 (V179 : Arv Z h179 a2 k2 .byte (2 : Int32) [(.int ((v0.toInt8.toInt32).toInt8.toInt32)), (.int ((v1.toInt8.toInt32).toInt8.toInt32))] (.int (0 : Int32))) => ?_
  have K_180 := K_176.wr W179 (Or.inl (List.mem_of_getElem? (i := 0) rfl))
  have V_a1_181 := V_a1_177.other W179 ne_a1_a2
  have Z_182 := Nat.le_trans Z_178 (Keep.of_wr W179).1
  have N179 := Fr.snoc X179 N175 ge_a2
  refine Owe.iinc X179.here hx (hb hby d5_32) rfl (l' := #[.val (.ref a1), .val (.int (2 : Int32)), .val (.ref a2), .val (.int (1 : Int32)), .val (.int (2 : Int32)), .val (.int (1 : Int32)), .val (.int v1)]) rfl ?_
  refine Owe.iinc X179.here hx (hb hby d5_35) rfl (l' := #[.val (.ref a1), .val (.int (2 : Int32)), .val (.ref a2), .val (.int (2 : Int32)), .val (.int (2 : Int32)), .val (.int (1 : Int32)), .val (.int v1)]) rfl ?_
  refine Owe.iinc X179.here hx (hb hby d5_38) rfl (l' := #[.val (.ref a1), .val (.int (2 : Int32)), .val (.ref a2), .val (.int (2 : Int32)), .val (.int (2 : Int32)), .val (.int (2 : Int32)), .val (.int v1)]) rfl ?_
  refine Owe.goto X179.here hx (hb hby d5_41) (pc' := 3) (by decide) (by decide) ?_
  refine Owe.iload X179.here hx (hb hby d5_3) rfl ?_
  refine Owe.iload X179.here hx (hb hby d5_5) rfl ?_
  refine Owe.icmpYes X179.here hx (hb hby d5_7) rfl (flt (by decide)).2.1 (pc' := 44) (by decide) (by decide) ?_
  refine Owe.iload X179.here hx (hb hby d5_44) rfl ?_
  refine Owe.retI X179 hx hlk hrt (hb hby d5_46) rfl fun fs hE => ?_
  refine hG _ _ ⟨_, _, rfl, ?_, frameMono hE (by decide) (by decide)⟩
  show Qcmi2_2 Z a1 k1 a2 k2 v0 v1 h0 n0 _ T179.heap _
  rw [e179]
  exact ⟨rfl, N179, K_180, V179⟩
theorem ef_cfa2_0 (m : MethodId) (x0 : Addr) (x1 : Int32)  : entryFrame m #[(.ref x0), (.int x1)] 2 = mkF m 0 #[.val (.ref x0), .val (.int x1)] [] := by first | (simp [entryFrame, mkF, argsToLocals, Value.category]; done) | rfl
def Qcfa2_0 (Z : State) (a1 : Addr) (k1 : ClassId) (vs : List Value) (h0 : Heap) (n0 : Nat) (v : Option Value) (h : Heap) (L : List Loc) : Prop := v = some (.int (0 : Int32)) ∧ Fr n0 L ∧ h = h0
set_option maxRecDepth 65536 in
set_option maxHeartbeats 40000000 in
theorem rmcfa2_0 (l : Launch) (Z : State) (a0 : Array Value) (hw : Hw Z a0) (ws : List Jvm.Cond) (a1 : Addr) (k1 : ClassId) (vs : List Value) (h0 : Heap) (n0 : Nat) (Z0 : n0 ≤ h0.size) (V_a1 : Arv Z h0 a1 k1 .byte (2 : Int32) vs (.int (0 : Int32))) :
    MF l Z Y6 jdk_52_method_15_code 2 (some .byte) ws ({ frames := 0, cells := 0, slots := 0, locals := 0 } : Room) #[(.ref a1), (.int (2 : Int32))] h0 (Qcfa2_0 Z a1 k1 vs h0 n0) := by
  refine MF.of pn_0 (fun m => ef_cfa2_0 m a1 (2 : Int32)) ?_
  intro p e s m below meth c s₁ G X0 e0 hx hby hml hown hnm hlk hrt hZ hnd hG
  have N0 := Fr.nil n0
  refine Owe.iloadN X0.here hx (hb hby d6_0) rfl ?_
  refine Owe.aloadN X0.here hx (hb hby d6_1) rfl rfl ?_
  refine Owe.arrlen X0 hx hZ e0 V_a1 (hb hby d6_2) rfl ?_
  refine Owe.isub X0.here hx (hb hby d6_3) rfl ?_
  refine Owe.bipush X0.here hx (hb hby d6_4) (w := (31 : Int32)) rfl ?_
  refine Owe.iushr X0.here hx (hb hby d6_6) rfl ?_
  refine Owe.i2b X0.here hx (hb hby d6_7) rfl ?_
  refine Owe.retN X0 hx hlk (t := .byte) hrt (by simp) (hb hby d6_8) rfl fun fs hE => ?_
  refine hG _ _ ⟨_, _, rfl, ?_, frameMono hE (by decide) (by decide)⟩
  show Qcfa2_0 Z a1 k1 vs h0 n0 _ s₁.heap _
  rw [e0]
  exact ⟨(congrArg (fun z => some (Value.int z)) (by decide)), N0, rfl⟩
theorem ef_cma2_0 (m : MethodId) (x0 : Addr) (x1 : Int32) (x2 : Int32)  : entryFrame m #[(.ref x0), (.int x1), (.int x2)] 6 = mkF m 0 #[.val (.ref x0), .val (.int x1), .val (.int x2), .unset, .unset, .unset] [] := by first | (simp [entryFrame, mkF, argsToLocals, Value.category]; done) | rfl
def Qcma2_0 (Z : State) (a1 : Addr) (k1 : ClassId) (v0 : Int32) (v1 : Int32) (h0 : Heap) (n0 : Nat) (v : Option Value) (h : Heap) (L : List Loc) : Prop := ∃ (x1 : Addr), ∃ (kb1 : ClassId), v = some (.ref x1) ∧ Fr n0 L ∧ Keep h0 h [] ∧ n0 ≤ x1 ∧ h0.size ≤ x1 ∧ Arv Z h x1 kb1 .byte (2 : Int32) [(.int (la1 v0)), (.int (la1 v1))] (.int (0 : Int32))
set_option maxRecDepth 65536 in
set_option maxHeartbeats 40000000 in
theorem rmcma2_0 (l : Launch) (Z : State) (a0 : Array Value) (hw : Hw Z a0) (ws : List Jvm.Cond) (a1 : Addr) (k1 : ClassId) (v0 : Int32) (v1 : Int32) (h0 : Heap) (n0 : Nat) (Z0 : n0 ≤ h0.size) (V_a1 : Arv Z h0 a1 k1 .char (2 : Int32) [(.int v0), (.int v1)] (.int (0 : Int32))) (hl0 : ¬ (255 : Int32) < v0) (hl1 : ¬ (255 : Int32) < v1) (Ol : Old Z n0 h0) (S__assertionsDisabled : Sta Z Z.heap "java/lang/StringUTF16" "$assertionsDisabled" "Z" (.int (1 : Int32))) (S_HI_BYTE_SHIFT : Sta Z Z.heap "java/lang/StringUTF16" "HI_BYTE_SHIFT" "I" (.int (0 : Int32))) (S_LO_BYTE_SHIFT : Sta Z Z.heap "java/lang/StringUTF16" "LO_BYTE_SHIFT" "I" (.int (8 : Int32))) :
    MF l Z Y7 jdk_52_method_16_code 6 (some (.array .byte)) ws ({ frames := 3, cells := 2, slots := 6, locals := 40 } : Room) #[(.ref a1), (.int (0 : Int32)), (.int (2 : Int32))] h0 (Qcma2_0 Z a1 k1 v0 v1 h0 n0) := by
  refine MF.of pn_0 (fun m => ef_cma2_0 m a1 (0 : Int32) (2 : Int32)) ?_
  intro p e s m below meth c s₁ G X0 e0 hx hby hml hown hnm hlk hrt hZ hnd hG
  have N0 := Fr.nil n0
  have K0 := Keep.refl h0 []
  refine Owe.iloadN X0.here hx (hb hby d7_0) rfl ?_
  refine Owe.newarr X0 hx hZ (aty := .byte) (wd hw 16) e0 (hb hby d7_1) rfl (by decide) (cap := 2) (by decide) (by decide) (by decide) (by decide) fun T183 h183 b183 k183 g183 X183 e183 E183 V183 => ?_
  have ne_a1_b183 : a1 ≠ b183 := Nat.ne_of_lt (Nat.lt_of_lt_of_le V_a1.lt (Nat.le_of_eq g183.symm))
  have sz_b183 := Nat.le_trans K0.1 (Nat.le_of_eq g183.symm)
  have ge_b183 := Nat.le_trans Z0 (Nat.le_of_eq g183.symm)
  have K_184 := K0.ext E183
  have V_a1_185 := V_a1.ext E183
  have Ol_186 := Ol.ext E183
  have Z_187 := Nat.le_trans Z0 E183.1
  have V_b183_183 : Arv Z h183 b183 k183 .byte (2 : Int32) [(.int (0 : Int32)), (.int (0 : Int32))] (.int (0 : Int32)) := V183.pad (pad_rep [] (.int (0 : Int32)) 2)
  refine Owe.astoreN X183.here hx (hb hby d7_3) rfl rfl (l' := #[.val (.ref a1), .val (.int (0 : Int32)), .val (.int (2 : Int32)), .val (.ref b183), .unset, .unset]) rfl ?_
  refine Owe.aloadN X183.here hx (hb hby d7_4) rfl rfl ?_
  refine Owe.iloadN X183.here hx (hb hby d7_5) rfl ?_
  refine Owe.aloadN X183.here hx (hb hby d7_6) rfl rfl ?_
  refine Owe.iconst X183.here hx (hb hby d7_7) (w := (0 : Int32)) rfl ?_
  refine Owe.iloadN X183.here hx (hb hby d7_8) rfl ?_
  refine Owe.stat X183 hx (y := Y5) hown (mvT hZ (wd hw 37)) (mvT hZ (wd hw 38)) (mvT hZ (wd hw 35)) (mvT hZ (wd hw 39)) (by decide) (backOf (W := 0) (rmcmi2_2 l Z a0 hw [] a1 k1 b183 k183 v0 v1 h183 n0 Z_187 V_a1_185 V_b183_183 ge_b183 ne_a1_b183 hl0 hl1) hZ (wd hw 39) (wd hw 35) (by decide) (by decide)) (by rw [hml]; rfl) (argsL := [(.ref a1), (.int (0 : Int32)), (.ref b183), (.int (0 : Int32)), (.int (2 : Int32))]) (rest := []) (lenOf pd_3 rfl) rfl (nb rfl) (hb hby d7_9) rfl e183 (by decide) (by decide) fun T188 v188 L188 X188 hQ188 => ?_
  obtain ⟨rfl, Nq188, K188, V_a2_188⟩ := hQ188
  have N188 := Fr.app N0 Nq188
  have K_189 := K_184.trans K188 (allS (Or.inr sz_b183) all0)
  have V_a1_190 := V_a1_185.keep K188 (ninS ne_a1_b183 nin0)
  have Ol_191 := Ol_186.keep K188 (allS ge_b183 all0)
  have Z_192 := Nat.le_trans Z_187 K188.1
  refine Owe.istore X188.here hx (hb hby d7_12) rfl (l' := #[.val (.ref a1), .val (.int (0 : Int32)), .val (.int (2 : Int32)), .val (.ref b183), .val (.int (2 : Int32)), .unset]) rfl ?_
  refine Owe.iload X188.here hx (hb hby d7_14) rfl ?_
  refine Owe.iloadN X188.here hx (hb hby d7_16) rfl ?_
  refine Owe.icmpYes X188.here hx (hb hby d7_17) rfl (teq (by decide)).1 (pc' := 57) (by decide) (by decide) ?_
  refine Owe.aloadN X188.here hx (hb hby d7_57) rfl rfl ?_
  refine Owe.retR X188 hx hlk (t := (.array .byte)) hrt rfl rfl rfl (hb hby d7_58) rfl fun fs hE => ?_
  refine hG _ _ ⟨_, _, rfl, ?_, frameMono hE (by decide) (by decide)⟩
  show Qcma2_0 Z a1 k1 v0 v1 h0 n0 _ T188.heap _
  exact ⟨b183, k183, rfl, N188, K_189, ge_b183, sz_b183, V_a2_188⟩
theorem ef_siv2_0 (m : MethodId) (x0 : Addr) (x1 : Addr) (x2 : Int32) (x3 : Int32)  : entryFrame m #[(.ref x0), (.ref x1), (.int x2), (.int x3), .null] 6 = mkF m 0 #[.val (.ref x0), .val (.ref x1), .val (.int x2), .val (.int x3), .val .null, .unset] [] := by first | (simp [entryFrame, mkF, argsToLocals, Value.category]; done) | rfl
def Qsiv2_0 (Z : State) (a0_ : Addr) (a1 : Addr) (k1 : ClassId) (v0 : Int32) (v1 : Int32) (G1 : Int32) (h0 : Heap) (n0 : Nat) (v : Option Value) (h : Heap) (L : List Loc) : Prop := ∃ (b_ : Addr), ∃ (kb1 : ClassId), v = none ∧ Fr n0 L ∧ Keep h0 h [a0_] ∧ Exa Z h a0_ "java/lang/String" ∧ Fld Z h a0_ "java/lang/String" "value" "[B" (.ref b_) ∧ Fld Z h a0_ "java/lang/String" "coder" "B" (.int (0 : Int32)) ∧ Arv Z h b_ kb1 .byte (2 : Int32) [(.int (la1 v0)), (.int (la1 v1))] (.int (0 : Int32))
set_option maxRecDepth 65536 in
set_option maxHeartbeats 40000000 in
theorem rmsiv2_0 (l : Launch) (Z : State) (a0 : Array Value) (hw : Hw Z a0) (ws : List Jvm.Cond) (a0_ : Addr) (a1 : Addr) (k1 : ClassId) (v0 : Int32) (v1 : Int32) (G1 : Int32) (h0 : Heap) (n0 : Nat) (Z0 : n0 ≤ h0.size) (E_a0_ : Exa Z h0 a0_ "java/lang/String") (Fvalue_a0_ : Fld Z h0 a0_ "java/lang/String" "value" "[B" .null) (Fcoder_a0_ : Fld Z h0 a0_ "java/lang/String" "coder" "B" (.int (0 : Int32))) (ge_a0_ : n0 ≤ a0_) (V_a1 : Arv Z h0 a1 k1 .char (2 : Int32) [(.int v0), (.int v1)] (.int (0 : Int32))) (ne_a1_a0_ : a1 ≠ a0_) (hl0 : ¬ (255 : Int32) < v0) (hl1 : ¬ (255 : Int32) < v1) (S_COMPACT_STRINGS : Sta Z Z.heap "java/lang/String" "COMPACT_STRINGS" "Z" (.int G1)) (cs0 : ¬ (G1 = (0 : Int32))) (Ol : Old Z n0 h0) (S__assertionsDisabled : Sta Z Z.heap "java/lang/StringUTF16" "$assertionsDisabled" "Z" (.int (1 : Int32))) (S_HI_BYTE_SHIFT : Sta Z Z.heap "java/lang/StringUTF16" "HI_BYTE_SHIFT" "I" (.int (0 : Int32))) (S_LO_BYTE_SHIFT : Sta Z Z.heap "java/lang/StringUTF16" "LO_BYTE_SHIFT" "I" (.int (8 : Int32))) :
    MF l Z Y8 jdk_42_method_149_code 6 none ws ({ frames := 4, cells := 2, slots := 6, locals := 58 } : Room) #[(.ref a0_), (.ref a1), (.int (0 : Int32)), (.int (2 : Int32)), .null] h0 (Qsiv2_0 Z a0_ a1 k1 v0 v1 G1 h0 n0) := by
  refine MF.of pn_1 (fun m => ef_siv2_0 m a0_ a1 (0 : Int32) (2 : Int32)) ?_
  intro p e s m below meth c s₁ G X0 e0 hx hby hml hown hnm hlk hrt hZ hnd hG
  have N0 := Fr.nil n0
  have K0 := Keep.refl h0 [a0_]
  refine Owe.aloadN X0.here hx (hb hby d8_0) rfl rfl ?_
  refine Owe.objinit X0 hx hZ hown (wd hw 12) (wd hw 13) (wd hw 14) e0 (by rw [hml]; rfl) rfl (hb hby d8_1) (by decide) (W := 0) (nb rfl) (by decide) fun T193 X193 e193 => ?_
  refine Owe.iloadN X193.here hx (hb hby d8_4) rfl ?_
  refine Owe.ifYes X193.here hx (hb hby d8_5) rfl ((if0 _ _).trans (feq (by decide)).2) (pc' := 27) (by decide) (by decide) ?_
  refine Owe.gets X193 hx hZ hown (wd hw 32) Via.refl e193 (S_COMPACT_STRINGS.ext Ol.2) (hb hby d8_27) fun T194 X194 e194 => ?_
  refine Owe.ifNo X194.here hx (hb hby d8_30) rfl ((if0 _ _).trans (feq cs0).1) ?_
  refine Owe.aloadN X194.here hx (hb hby d8_33) rfl rfl ?_
  refine Owe.iloadN X194.here hx (hb hby d8_34) rfl ?_
  refine Owe.iloadN X194.here hx (hb hby d8_35) rfl ?_
  refine Owe.stat X194 hx (y := Y7) hown (mvT hZ (wd hw 33)) (mvT hZ (wd hw 34)) (mvT hZ (wd hw 35)) (mvT hZ (wd hw 36)) (by decide) (backOf (W := 0) (rmcma2_0 l Z a0 hw [] a1 k1 v0 v1 h0 n0 Z0 V_a1 hl0 hl1 Ol S__assertionsDisabled S_HI_BYTE_SHIFT S_LO_BYTE_SHIFT) hZ (wd hw 36) (wd hw 35) (by decide) (by decide)) (by rw [hml]; rfl) (argsL := [(.ref a1), (.int (0 : Int32)), (.int (2 : Int32))]) (rest := []) (lenOf pd_4 rfl) rfl (nb rfl) (hb hby d8_36) rfl e194 (by decide) (by decide) fun T195 v195 L195 X195 hQ195 => ?_
  obtain ⟨x1_195, kb1_195, rfl, Nq195, K195, ge_x1_195, fresh_x1_195, V_x1_195⟩ := hQ195
  have N195 := Fr.app N0 Nq195
  have K_196 := K0.trans K195 all0
  have E_a0__197 := E_a0_.keep K195
  have Fvalue_a0__198 := Fvalue_a0_.keep K195 nin0
  have Fcoder_a0__199 := Fcoder_a0_.keep K195 nin0
  have V_a1_200 := V_a1.keep K195 nin0
  have Ol_201 := Ol.keep K195 all0
  have Z_202 := Nat.le_trans Z0 K195.1
  have ne_a0__x1_195 : a0_ ≠ x1_195 := Nat.ne_of_lt (Nat.lt_of_lt_of_le E_a0_.lt fresh_x1_195)
  have ne_a1_x1_195 : a1 ≠ x1_195 := Nat.ne_of_lt (Nat.lt_of_lt_of_le V_a1.lt fresh_x1_195)
  have sz_x1_195 := Nat.le_trans K0.1 fresh_x1_195
  refine Owe.astore X195.here hx (hb hby d8_39) rfl rfl (l' := #[.val (.ref a0_), .val (.ref a1), .val (.int (0 : Int32)), .val (.int (2 : Int32)), .val .null, .val (.ref x1_195)]) rfl ?_
  refine Owe.aloadN X195.here hx (hb hby d8_41) rfl rfl ?_
  refine Owe.aload X195.here hx (hb hby d8_42) rfl rfl ?_
  refine Owe.iloadN X195.here hx (hb hby d8_44) rfl ?_
  refine Owe.stat X195 hx (y := Y6) hown (mvT hZ (wd hw 40)) (mvT hZ (wd hw 41)) (mvT hZ (wd hw 35)) (mvT hZ (wd hw 42)) (by decide) (backOf (W := 1) (rmcfa2_0 l Z a0 hw [] x1_195 kb1_195 ([(.int (la1 v0)), (.int (la1 v1))]) T195.heap n0 Z_202 V_x1_195) hZ (wd hw 42) (wd hw 35) (by decide) (by decide)) (by rw [hml]; rfl) (argsL := [(.ref x1_195), (.int (2 : Int32))]) (rest := [(.ref a0_)]) (lenOf pd_5 rfl) rfl (nb rfl) (hb hby d8_45) rfl rfl (by decide) (by decide) fun T203 v203 L203 X203 hQ203 => ?_
  obtain ⟨rfl, Nq203, e203⟩ := hQ203
  have N203 := Fr.app N195 Nq203
  refine Owe.putf X203 hx hZ (host := "") hown (Or.inl (wd hw 22)) Via.refl e203 Fcoder_a0__199 E_a0__197 (Or.inr ⟨(wd hw 18), rfl, hnm⟩) (wd hw 3) (ty := .byte) (by decide) rfl rfl (hb hby d8_48) rfl fun T204 h204 X204 e204 W204 => ?_
  have K_205 := K_196.wr W204 (Or.inl (List.mem_of_getElem? (i := 0) rfl))
  have E_a0__206 := E_a0__197.wr W204
  have Fvalue_a0__207 := Fvalue_a0__198.other W204 (Or.inr (slot_ne (Or.inr (wd hw 17)) (Or.inr (wd hw 18)) (by decide) (t := (.array .byte)) (t' := .byte) (by decide) (by decide)))
  have Fcoder_a0__208 := Fcoder_a0__199.same W204
  have V_a1_209 := V_a1_200.other W204 ne_a1_a0_
  have Ol_210 := Ol_201.wr W204 ge_a0_
  have V_x1_211 := V_x1_195.other W204 (Ne.symm ne_a0__x1_195)
  have Z_212 := Nat.le_trans Z_202 (Keep.of_wr W204).1
  have N204 := Fr.snoc X204 N203 ge_a0_
  refine Owe.aloadN X204.here hx (hb hby d8_51) rfl rfl ?_
  refine Owe.aload X204.here hx (hb hby d8_52) rfl rfl ?_
  refine Owe.putf X204 hx hZ (host := "") hown (Or.inl (wd hw 21)) Via.refl e204 Fvalue_a0__207 E_a0__206 (Or.inr ⟨(wd hw 17), rfl, hnm⟩) (wd hw 3) (ty := (.array .byte)) (by decide) rfl rfl (hb hby d8_54) rfl fun T213 h213 X213 e213 W213 => ?_
  have K_214 := K_205.wr W213 (Or.inl (List.mem_of_getElem? (i := 0) rfl))
  have E_a0__215 := E_a0__206.wr W213
  have Fvalue_a0__216 := Fvalue_a0__207.same W213
  have Fcoder_a0__217 := Fcoder_a0__208.other W213 (Or.inr (slot_ne (Or.inr (wd hw 18)) (Or.inr (wd hw 17)) (by decide) (t := .byte) (t' := (.array .byte)) (by decide) (by decide)))
  have V_a1_218 := V_a1_209.other W213 ne_a1_a0_
  have Ol_219 := Ol_210.wr W213 ge_a0_
  have V_x1_220 := V_x1_211.other W213 (Ne.symm ne_a0__x1_195)
  have Z_221 := Nat.le_trans Z_212 (Keep.of_wr W213).1
  have N213 := Fr.snoc X213 N204 ge_a0_
  refine Owe.ret0 X213 hx hlk hrt (hb hby d8_57) rfl fun fs hE => ?_
  refine hG _ _ ⟨_, _, rfl, ?_, frameMono hE (by decide) (by decide)⟩
  show Qsiv2_0 Z a0_ a1 k1 v0 v1 G1 h0 n0 _ T213.heap _
  rw [e213]
  exact ⟨x1_195, kb1_195, rfl, N213, K_214, E_a0__215, Fvalue_a0__216, Fcoder_a0__217, V_x1_220⟩
theorem ef_si2_0 (m : MethodId) (x0 : Addr) (x1 : Addr)  : entryFrame m #[(.ref x0), (.ref x1)] 2 = mkF m 0 #[.val (.ref x0), .val (.ref x1)] [] := by first | (simp [entryFrame, mkF, argsToLocals, Value.category]; done) | rfl
def Qsi2_0 (Z : State) (a0_ : Addr) (a1 : Addr) (k1 : ClassId) (v0 : Int32) (v1 : Int32) (G1 : Int32) (h0 : Heap) (n0 : Nat) (v : Option Value) (h : Heap) (L : List Loc) : Prop := ∃ (b_ : Addr), ∃ (kb1 : ClassId), v = none ∧ Fr n0 L ∧ Keep h0 h [a0_] ∧ Exa Z h a0_ "java/lang/String" ∧ Fld Z h a0_ "java/lang/String" "value" "[B" (.ref b_) ∧ Fld Z h a0_ "java/lang/String" "coder" "B" (.int (0 : Int32)) ∧ Arv Z h b_ kb1 .byte (2 : Int32) [(.int (la1 v0)), (.int (la1 v1))] (.int (0 : Int32))
set_option maxRecDepth 65536 in
set_option maxHeartbeats 40000000 in
theorem rmsi2_0 (l : Launch) (Z : State) (a0 : Array Value) (hw : Hw Z a0) (ws : List Jvm.Cond) (a0_ : Addr) (a1 : Addr) (k1 : ClassId) (v0 : Int32) (v1 : Int32) (G1 : Int32) (h0 : Heap) (n0 : Nat) (Z0 : n0 ≤ h0.size) (E_a0_ : Exa Z h0 a0_ "java/lang/String") (Fvalue_a0_ : Fld Z h0 a0_ "java/lang/String" "value" "[B" .null) (Fcoder_a0_ : Fld Z h0 a0_ "java/lang/String" "coder" "B" (.int (0 : Int32))) (ge_a0_ : n0 ≤ a0_) (V_a1 : Arv Z h0 a1 k1 .char (2 : Int32) [(.int v0), (.int v1)] (.int (0 : Int32))) (ne_a1_a0_ : a1 ≠ a0_) (hl0 : ¬ (255 : Int32) < v0) (hl1 : ¬ (255 : Int32) < v1) (S_COMPACT_STRINGS : Sta Z Z.heap "java/lang/String" "COMPACT_STRINGS" "Z" (.int G1)) (cs0 : ¬ (G1 = (0 : Int32))) (Ol : Old Z n0 h0) (S__assertionsDisabled : Sta Z Z.heap "java/lang/StringUTF16" "$assertionsDisabled" "Z" (.int (1 : Int32))) (S_HI_BYTE_SHIFT : Sta Z Z.heap "java/lang/StringUTF16" "HI_BYTE_SHIFT" "I" (.int (0 : Int32))) (S_LO_BYTE_SHIFT : Sta Z Z.heap "java/lang/StringUTF16" "LO_BYTE_SHIFT" "I" (.int (8 : Int32))) :
    MF l Z Y9 jdk_42_method_3_code 2 none ws ({ frames := 5, cells := 2, slots := 6, locals := 76 } : Room) #[(.ref a0_), (.ref a1)] h0 (Qsi2_0 Z a0_ a1 k1 v0 v1 G1 h0 n0) := by
  refine MF.of pn_1 (fun m => ef_si2_0 m a0_ a1) ?_
  intro p e s m below meth c s₁ G X0 e0 hx hby hml hown hnm hlk hrt hZ hnd hG
  have N0 := Fr.nil n0
  have K0 := Keep.refl h0 [a0_]
  refine Owe.aloadN X0.here hx (hb hby d9_0) rfl rfl ?_
  refine Owe.aloadN X0.here hx (hb hby d9_1) rfl rfl ?_
  refine Owe.iconst X0.here hx (hb hby d9_2) (w := (0 : Int32)) rfl ?_
  refine Owe.aloadN X0.here hx (hb hby d9_3) rfl rfl ?_
  refine Owe.arrlen X0 hx hZ e0 V_a1 (hb hby d9_4) rfl ?_
  refine Owe.aconstNull X0.here hx (hb hby d9_5)  ?_
  refine Owe.special X0 hx (y := Y8) rfl hown (mvT hZ (wd hw 8)) (mvT hZ (wd hw 9)) (mvT hZ (wd hw 11)) (by decide) (backOf (W := 0) (rmsiv2_0 l Z a0 hw [] a0_ a1 k1 v0 v1 G1 h0 n0 Z0 E_a0_ Fvalue_a0_ Fcoder_a0_ ge_a0_ V_a1 ne_a1_a0_ hl0 hl1 S_COMPACT_STRINGS cs0 Ol S__assertionsDisabled S_HI_BYTE_SHIFT S_LO_BYTE_SHIFT) hZ (wd hw 11) (wd hw 4) (by decide) (by decide)) (by rw [hml]; rfl) (a := a0_) (argsL := [(.ref a1), (.int (0 : Int32)), (.int (2 : Int32)), .null]) (rest := []) (lenOf pd_6 rfl) rfl (nb rfl) (hb hby d9_6) rfl e0 (by decide) (by decide) fun T222 v222 L222 X222 hQ222 => ?_
  obtain ⟨b__222, kb1_222, rfl, Nq222, K222, E_a0__222, Fvalue_a0__222, Fcoder_a0__222, V_b__222⟩ := hQ222
  have N222 := Fr.app N0 Nq222
  have K_223 := K0.trans K222 (allS (Or.inl (List.mem_of_getElem? (i := 0) rfl)) all0)
  have E_a0__224 := E_a0_.keep K222
  have V_a1_225 := V_a1.keep K222 (ninS ne_a1_a0_ nin0)
  have Ol_226 := Ol.keep K222 (allS ge_a0_ all0)
  have Z_227 := Nat.le_trans Z0 K222.1
  refine Owe.ret0 X222 hx hlk hrt (hb hby d9_9) rfl fun fs hE => ?_
  refine hG _ _ ⟨_, _, rfl, ?_, frameMono hE (by decide) (by decide)⟩
  show Qsi2_0 Z a0_ a1 k1 v0 v1 G1 h0 n0 _ T222.heap _
  exact ⟨b__222, kb1_222, rfl, N222, K_223, E_a0__222, Fvalue_a0__222, Fcoder_a0__222, V_b__222⟩
theorem ef_cfa2_1 (m : MethodId) (x0 : Addr) (x1 : Int32)  : entryFrame m #[(.ref x0), (.int x1)] 2 = mkF m 0 #[.val (.ref x0), .val (.int x1)] [] := by first | (simp [entryFrame, mkF, argsToLocals, Value.category]; done) | rfl
def Qcfa2_1 (Z : State) (a1 : Addr) (k1 : ClassId) (vs : List Value) (h0 : Heap) (n0 : Nat) (v : Option Value) (h : Heap) (L : List Loc) : Prop := v = some (.int (1 : Int32)) ∧ Fr n0 L ∧ h = h0
set_option maxRecDepth 65536 in
set_option maxHeartbeats 40000000 in
theorem rmcfa2_1 (l : Launch) (Z : State) (a0 : Array Value) (hw : Hw Z a0) (ws : List Jvm.Cond) (a1 : Addr) (k1 : ClassId) (vs : List Value) (h0 : Heap) (n0 : Nat) (Z0 : n0 ≤ h0.size) (V_a1 : Arv Z h0 a1 k1 .byte (4 : Int32) vs (.int (0 : Int32))) :
    MF l Z Y6 jdk_52_method_15_code 2 (some .byte) ws ({ frames := 0, cells := 0, slots := 0, locals := 0 } : Room) #[(.ref a1), (.int (2 : Int32))] h0 (Qcfa2_1 Z a1 k1 vs h0 n0) := by
  refine MF.of pn_0 (fun m => ef_cfa2_1 m a1 (2 : Int32)) ?_
  intro p e s m below meth c s₁ G X0 e0 hx hby hml hown hnm hlk hrt hZ hnd hG
  have N0 := Fr.nil n0
  refine Owe.iloadN X0.here hx (hb hby d6_0) rfl ?_
  refine Owe.aloadN X0.here hx (hb hby d6_1) rfl rfl ?_
  refine Owe.arrlen X0 hx hZ e0 V_a1 (hb hby d6_2) rfl ?_
  refine Owe.isub X0.here hx (hb hby d6_3) rfl ?_
  refine Owe.bipush X0.here hx (hb hby d6_4) (w := (31 : Int32)) rfl ?_
  refine Owe.iushr X0.here hx (hb hby d6_6) rfl ?_
  refine Owe.i2b X0.here hx (hb hby d6_7) rfl ?_
  refine Owe.retN X0 hx hlk (t := .byte) hrt (by simp) (hb hby d6_8) rfl fun fs hE => ?_
  refine hG _ _ ⟨_, _, rfl, ?_, frameMono hE (by decide) (by decide)⟩
  show Qcfa2_1 Z a1 k1 vs h0 n0 _ s₁.heap _
  rw [e0]
  exact ⟨(congrArg (fun z => some (Value.int z)) (by decide)), N0, rfl⟩
theorem ef_cma2_1 (m : MethodId) (x0 : Addr) (x1 : Int32) (x2 : Int32)  : entryFrame m #[(.ref x0), (.int x1), (.int x2)] 6 = mkF m 0 #[.val (.ref x0), .val (.int x1), .val (.int x2), .unset, .unset, .unset] [] := by first | (simp [entryFrame, mkF, argsToLocals, Value.category]; done) | rfl
def Qcma2_1 (Z : State) (a1 : Addr) (k1 : ClassId) (v0 : Int32) (v1 : Int32) (h0 : Heap) (n0 : Nat) (v : Option Value) (h : Heap) (L : List Loc) : Prop := ∃ (x1 : Addr), ∃ (kb1 : ClassId), v = some (.ref x1) ∧ Fr n0 L ∧ Keep h0 h [] ∧ n0 ≤ x1 ∧ h0.size ≤ x1 ∧ Arv Z h x1 kb1 .byte (4 : Int32) [(.int (lo1 v0)), (.int (hi1 v0)), (.int (lo1 v1)), (.int (hi1 v1))] (.int (0 : Int32))
set_option maxRecDepth 65536 in
set_option maxHeartbeats 40000000 in
theorem rmcma2_1 (l : Launch) (Z : State) (a0 : Array Value) (hw : Hw Z a0) (ws : List Jvm.Cond) (a1 : Addr) (k1 : ClassId) (v0 : Int32) (v1 : Int32) (h0 : Heap) (n0 : Nat) (Z0 : n0 ≤ h0.size) (V_a1 : Arv Z h0 a1 k1 .char (2 : Int32) [(.int v0), (.int v1)] (.int (0 : Int32))) (hW : (255 : Int32) < v0 ∨ (255 : Int32) < v1) (hr0 : ¬ v0 < 0 ∧ ¬ (65535 : Int32) < v0) (hr1 : ¬ v1 < 0 ∧ ¬ (65535 : Int32) < v1) (Ol : Old Z n0 h0) (S__assertionsDisabled : Sta Z Z.heap "java/lang/StringUTF16" "$assertionsDisabled" "Z" (.int (1 : Int32))) (S_HI_BYTE_SHIFT : Sta Z Z.heap "java/lang/StringUTF16" "HI_BYTE_SHIFT" "I" (.int (0 : Int32))) (S_LO_BYTE_SHIFT : Sta Z Z.heap "java/lang/StringUTF16" "LO_BYTE_SHIFT" "I" (.int (8 : Int32))) :
    MF l Z Y7 jdk_52_method_16_code 6 (some (.array .byte)) ws ({ frames := 3, cells := 2, slots := 6, locals := 40 } : Room) #[(.ref a1), (.int (0 : Int32)), (.int (2 : Int32))] h0 (Qcma2_1 Z a1 k1 v0 v1 h0 n0) := by
  refine MF.of pn_0 (fun m => ef_cma2_1 m a1 (0 : Int32) (2 : Int32)) ?_
  intro p e s m below meth c s₁ G X0 e0 hx hby hml hown hnm hlk hrt hZ hnd hG
  have N0 := Fr.nil n0
  have K0 := Keep.refl h0 []
  refine Owe.iloadN X0.here hx (hb hby d7_0) rfl ?_
  refine Owe.newarr X0 hx hZ (aty := .byte) (wd hw 16) e0 (hb hby d7_1) rfl (by decide) (cap := 2) (by decide) (by decide) (by decide) (by decide) fun T228 h228 b228 k228 g228 X228 e228 E228 V228 => ?_
  have ne_a1_b228 : a1 ≠ b228 := Nat.ne_of_lt (Nat.lt_of_lt_of_le V_a1.lt (Nat.le_of_eq g228.symm))
  have sz_b228 := Nat.le_trans K0.1 (Nat.le_of_eq g228.symm)
  have ge_b228 := Nat.le_trans Z0 (Nat.le_of_eq g228.symm)
  have K_229 := K0.ext E228
  have V_a1_230 := V_a1.ext E228
  have Ol_231 := Ol.ext E228
  have Z_232 := Nat.le_trans Z0 E228.1
  have V_b228_228 : Arv Z h228 b228 k228 .byte (2 : Int32) [(.int (0 : Int32)), (.int (0 : Int32))] (.int (0 : Int32)) := V228.pad (pad_rep [] (.int (0 : Int32)) 2)
  refine Owe.astoreN X228.here hx (hb hby d7_3) rfl rfl (l' := #[.val (.ref a1), .val (.int (0 : Int32)), .val (.int (2 : Int32)), .val (.ref b228), .unset, .unset]) rfl ?_
  refine Owe.aloadN X228.here hx (hb hby d7_4) rfl rfl ?_
  refine Owe.iloadN X228.here hx (hb hby d7_5) rfl ?_
  refine Owe.aloadN X228.here hx (hb hby d7_6) rfl rfl ?_
  refine Owe.iconst X228.here hx (hb hby d7_7) (w := (0 : Int32)) rfl ?_
  refine Owe.iloadN X228.here hx (hb hby d7_8) rfl ?_
  by_cases hl0_233 : (255 : Int32) < v0
  · skip
    refine Owe.stat X228 hx (y := Y5) hown (mvT hZ (wd hw 37)) (mvT hZ (wd hw 38)) (mvT hZ (wd hw 35)) (mvT hZ (wd hw 39)) (by decide) (backOf (W := 0) (rmcmi2_0 l Z a0 hw [] a1 k1 b228 k228 v0 v1 h228 n0 Z_232 V_a1_230 V_b228_228 ge_b228 ne_a1_b228 hl0_233) hZ (wd hw 39) (wd hw 35) (by decide) (by decide)) (by rw [hml]; rfl) (argsL := [(.ref a1), (.int (0 : Int32)), (.ref b228), (.int (0 : Int32)), (.int (2 : Int32))]) (rest := []) (lenOf pd_3 rfl) rfl (nb rfl) (hb hby d7_9) rfl e228 (by decide) (by decide) fun T234 v234 L234 X234 hQ234 => ?_
    obtain ⟨rfl, Nq234, K234⟩ := hQ234
    have N234 := Fr.app N0 Nq234
    have K_235 := K_229.trans K234 (allS (Or.inr sz_b228) all0)
    have V_a1_236 := V_a1_230.keep K234 (ninS ne_a1_b228 nin0)
    have Ol_237 := Ol_231.keep K234 (allS ge_b228 all0)
    have Z_238 := Nat.le_trans Z_232 K234.1
    refine Owe.istore X234.here hx (hb hby d7_12) rfl (l' := #[.val (.ref a1), .val (.int (0 : Int32)), .val (.int (2 : Int32)), .val (.ref b228), .val (.int (0 : Int32)), .unset]) rfl ?_
    refine Owe.iload X234.here hx (hb hby d7_14) rfl ?_
    refine Owe.iloadN X234.here hx (hb hby d7_16) rfl ?_
    refine Owe.icmpNo X234.here hx (hb hby d7_17) rfl (feq (by decide)).1 ?_
    refine Owe.aloadN X234.here hx (hb hby d7_20) rfl rfl ?_
    refine Owe.iloadN X234.here hx (hb hby d7_21) rfl ?_
    refine Owe.iloadN X234.here hx (hb hby d7_22) rfl ?_
    refine Owe.stat X234 hx (y := Y4) hown (mvT hZ (wd hw 79)) (mvT hZ (wd hw 80)) (mvT hZ (wd hw 35)) (mvT hZ (wd hw 81)) (by decide) (backOf (W := 0) (rmtob2 l Z a0 hw [] a1 k1 v0 v1 T234.heap n0 Z_238 V_a1_236 Ol_237 S__assertionsDisabled S_HI_BYTE_SHIFT S_LO_BYTE_SHIFT) hZ (wd hw 81) (wd hw 35) (by decide) (by decide)) (by rw [hml]; rfl) (argsL := [(.ref a1), (.int (0 : Int32)), (.int (2 : Int32))]) (rest := []) (lenOf pd_4 rfl) rfl (nb rfl) (hb hby d7_23) rfl rfl (by decide) (by decide) fun T239 v239 L239 X239 hQ239 => ?_
    obtain ⟨x1_239, kb1_239, rfl, Nq239, K239, ge_x1_239, fresh_x1_239, V_x1_239⟩ := hQ239
    have N239 := Fr.app N234 Nq239
    have K_240 := K_235.trans K239 all0
    have V_a1_241 := V_a1_236.keep K239 nin0
    have Ol_242 := Ol_237.keep K239 all0
    have Z_243 := Nat.le_trans Z_238 K239.1
    have ne_a1_x1_239 : a1 ≠ x1_239 := Nat.ne_of_lt (Nat.lt_of_lt_of_le V_a1_236.lt fresh_x1_239)
    have sz_x1_239 := Nat.le_trans K_235.1 fresh_x1_239
    refine Owe.astore X239.here hx (hb hby d7_26) rfl rfl (l' := #[.val (.ref a1), .val (.int (0 : Int32)), .val (.int (2 : Int32)), .val (.ref b228), .val (.int (0 : Int32)), .val (.ref x1_239)]) rfl ?_
    refine Owe.aload X239.here hx (hb hby d7_28) rfl rfl ?_
    refine Owe.iload X239.here hx (hb hby d7_30) rfl ?_
    refine Owe.stat X239 hx (y := Y0) hown (mvT hZ (wd hw 95)) (mvT hZ (wd hw 96)) (mvT hZ (wd hw 35)) (mvT hZ (wd hw 97)) (by decide) (backOf (W := 0) (rmgch l Z a0 hw [] x1_239 kb1_239 v0 (0 : Int32) (lo1 v0) (hi1 v0) (4 : Int32) ([(.int (lo1 v0)), (.int (hi1 v0)), (.int (lo1 v1)), (.int (hi1 v1))]) T239.heap n0 Z_243 V_x1_239 (by decide) rfl (by decide) rfl (own_gp _ hr0) (own_narV hr0) Ol_242 S__assertionsDisabled S_HI_BYTE_SHIFT S_LO_BYTE_SHIFT) hZ (wd hw 97) (wd hw 35) (by decide) (by decide)) (by rw [hml]; rfl) (argsL := [(.ref x1_239), (.int (0 : Int32))]) (rest := []) (lenOf pd_7 rfl) rfl (nb rfl) (hb hby d7_32) rfl rfl (by decide) (by decide) fun T244 v244 L244 X244 hQ244 => ?_
    obtain ⟨rfl, Nq244, e244⟩ := hQ244
    have N244 := Fr.app N239 Nq244
    refine Owe.sipush X244.here hx (hb hby d7_35) (w := (255 : Int32)) rfl ?_
    refine Owe.icmpYes X244.here hx (hb hby d7_38) rfl (tlt hl0_233).2.2.1 (pc' := 54) (by decide) (by decide) ?_
    refine Owe.aload X244.here hx (hb hby d7_54) rfl rfl ?_
    refine Owe.retR X244 hx hlk (t := (.array .byte)) hrt rfl rfl rfl (hb hby d7_56) rfl fun fs hE => ?_
    refine hG _ _ ⟨_, _, rfl, ?_, frameMono hE (by decide) (by decide)⟩
    show Qcma2_1 Z a1 k1 v0 v1 h0 n0 _ T244.heap _
    rw [e244]
    exact ⟨x1_239, kb1_239, rfl, N244, K_240, ge_x1_239, sz_x1_239, V_x1_239⟩
  · skip
    by_cases hl1_245 : (255 : Int32) < v1
    · skip
      refine Owe.stat X228 hx (y := Y5) hown (mvT hZ (wd hw 37)) (mvT hZ (wd hw 38)) (mvT hZ (wd hw 35)) (mvT hZ (wd hw 39)) (by decide) (backOf (W := 0) (rmcmi2_1 l Z a0 hw [] a1 k1 b228 k228 v0 v1 h228 n0 Z_232 V_a1_230 V_b228_228 ge_b228 ne_a1_b228 hl0_233 hl1_245) hZ (wd hw 39) (wd hw 35) (by decide) (by decide)) (by rw [hml]; rfl) (argsL := [(.ref a1), (.int (0 : Int32)), (.ref b228), (.int (0 : Int32)), (.int (2 : Int32))]) (rest := []) (lenOf pd_3 rfl) rfl (nb rfl) (hb hby d7_9) rfl e228 (by decide) (by decide) fun T246 v246 L246 X246 hQ246 => ?_
      obtain ⟨rfl, Nq246, K246⟩ := hQ246
      have N246 := Fr.app N0 Nq246
      have K_247 := K_229.trans K246 (allS (Or.inr sz_b228) all0)
      have V_a1_248 := V_a1_230.keep K246 (ninS ne_a1_b228 nin0)
      have Ol_249 := Ol_231.keep K246 (allS ge_b228 all0)
      have Z_250 := Nat.le_trans Z_232 K246.1
      refine Owe.istore X246.here hx (hb hby d7_12) rfl (l' := #[.val (.ref a1), .val (.int (0 : Int32)), .val (.int (2 : Int32)), .val (.ref b228), .val (.int (1 : Int32)), .unset]) rfl ?_
      refine Owe.iload X246.here hx (hb hby d7_14) rfl ?_
      refine Owe.iloadN X246.here hx (hb hby d7_16) rfl ?_
      refine Owe.icmpNo X246.here hx (hb hby d7_17) rfl (feq (by decide)).1 ?_
      refine Owe.aloadN X246.here hx (hb hby d7_20) rfl rfl ?_
      refine Owe.iloadN X246.here hx (hb hby d7_21) rfl ?_
      refine Owe.iloadN X246.here hx (hb hby d7_22) rfl ?_
      refine Owe.stat X246 hx (y := Y4) hown (mvT hZ (wd hw 79)) (mvT hZ (wd hw 80)) (mvT hZ (wd hw 35)) (mvT hZ (wd hw 81)) (by decide) (backOf (W := 0) (rmtob2 l Z a0 hw [] a1 k1 v0 v1 T246.heap n0 Z_250 V_a1_248 Ol_249 S__assertionsDisabled S_HI_BYTE_SHIFT S_LO_BYTE_SHIFT) hZ (wd hw 81) (wd hw 35) (by decide) (by decide)) (by rw [hml]; rfl) (argsL := [(.ref a1), (.int (0 : Int32)), (.int (2 : Int32))]) (rest := []) (lenOf pd_4 rfl) rfl (nb rfl) (hb hby d7_23) rfl rfl (by decide) (by decide) fun T251 v251 L251 X251 hQ251 => ?_
      obtain ⟨x1_251, kb1_251, rfl, Nq251, K251, ge_x1_251, fresh_x1_251, V_x1_251⟩ := hQ251
      have N251 := Fr.app N246 Nq251
      have K_252 := K_247.trans K251 all0
      have V_a1_253 := V_a1_248.keep K251 nin0
      have Ol_254 := Ol_249.keep K251 all0
      have Z_255 := Nat.le_trans Z_250 K251.1
      have ne_a1_x1_251 : a1 ≠ x1_251 := Nat.ne_of_lt (Nat.lt_of_lt_of_le V_a1_248.lt fresh_x1_251)
      have sz_x1_251 := Nat.le_trans K_247.1 fresh_x1_251
      refine Owe.astore X251.here hx (hb hby d7_26) rfl rfl (l' := #[.val (.ref a1), .val (.int (0 : Int32)), .val (.int (2 : Int32)), .val (.ref b228), .val (.int (1 : Int32)), .val (.ref x1_251)]) rfl ?_
      refine Owe.aload X251.here hx (hb hby d7_28) rfl rfl ?_
      refine Owe.iload X251.here hx (hb hby d7_30) rfl ?_
      refine Owe.stat X251 hx (y := Y0) hown (mvT hZ (wd hw 95)) (mvT hZ (wd hw 96)) (mvT hZ (wd hw 35)) (mvT hZ (wd hw 97)) (by decide) (backOf (W := 0) (rmgch l Z a0 hw [] x1_251 kb1_251 v1 (1 : Int32) (lo1 v1) (hi1 v1) (4 : Int32) ([(.int (lo1 v0)), (.int (hi1 v0)), (.int (lo1 v1)), (.int (hi1 v1))]) T251.heap n0 Z_255 V_x1_251 (by decide) rfl (by decide) rfl (own_gp _ hr1) (own_narV hr1) Ol_254 S__assertionsDisabled S_HI_BYTE_SHIFT S_LO_BYTE_SHIFT) hZ (wd hw 97) (wd hw 35) (by decide) (by decide)) (by rw [hml]; rfl) (argsL := [(.ref x1_251), (.int (1 : Int32))]) (rest := []) (lenOf pd_7 rfl) rfl (nb rfl) (hb hby d7_32) rfl rfl (by decide) (by decide) fun T256 v256 L256 X256 hQ256 => ?_
      obtain ⟨rfl, Nq256, e256⟩ := hQ256
      have N256 := Fr.app N251 Nq256
      refine Owe.sipush X256.here hx (hb hby d7_35) (w := (255 : Int32)) rfl ?_
      refine Owe.icmpYes X256.here hx (hb hby d7_38) rfl (tlt hl1_245).2.2.1 (pc' := 54) (by decide) (by decide) ?_
      refine Owe.aload X256.here hx (hb hby d7_54) rfl rfl ?_
      refine Owe.retR X256 hx hlk (t := (.array .byte)) hrt rfl rfl rfl (hb hby d7_56) rfl fun fs hE => ?_
      refine hG _ _ ⟨_, _, rfl, ?_, frameMono hE (by decide) (by decide)⟩
      show Qcma2_1 Z a1 k1 v0 v1 h0 n0 _ T256.heap _
      rw [e256]
      exact ⟨x1_251, kb1_251, rfl, N256, K_252, ge_x1_251, sz_x1_251, V_x1_251⟩
    · skip
      exact absurd hW (by simp [hl0_233, hl1_245])
theorem ef_siv2_1 (m : MethodId) (x0 : Addr) (x1 : Addr) (x2 : Int32) (x3 : Int32)  : entryFrame m #[(.ref x0), (.ref x1), (.int x2), (.int x3), .null] 6 = mkF m 0 #[.val (.ref x0), .val (.ref x1), .val (.int x2), .val (.int x3), .val .null, .unset] [] := by first | (simp [entryFrame, mkF, argsToLocals, Value.category]; done) | rfl
def Qsiv2_1 (Z : State) (a0_ : Addr) (a1 : Addr) (k1 : ClassId) (v0 : Int32) (v1 : Int32) (G1 : Int32) (h0 : Heap) (n0 : Nat) (v : Option Value) (h : Heap) (L : List Loc) : Prop := ∃ (b_ : Addr), ∃ (kb1 : ClassId), v = none ∧ Fr n0 L ∧ Keep h0 h [a0_] ∧ Exa Z h a0_ "java/lang/String" ∧ Fld Z h a0_ "java/lang/String" "value" "[B" (.ref b_) ∧ Fld Z h a0_ "java/lang/String" "coder" "B" (.int (1 : Int32)) ∧ Arv Z h b_ kb1 .byte (4 : Int32) [(.int (lo1 v0)), (.int (hi1 v0)), (.int (lo1 v1)), (.int (hi1 v1))] (.int (0 : Int32))
set_option maxRecDepth 65536 in
set_option maxHeartbeats 40000000 in
theorem rmsiv2_1 (l : Launch) (Z : State) (a0 : Array Value) (hw : Hw Z a0) (ws : List Jvm.Cond) (a0_ : Addr) (a1 : Addr) (k1 : ClassId) (v0 : Int32) (v1 : Int32) (G1 : Int32) (h0 : Heap) (n0 : Nat) (Z0 : n0 ≤ h0.size) (E_a0_ : Exa Z h0 a0_ "java/lang/String") (Fvalue_a0_ : Fld Z h0 a0_ "java/lang/String" "value" "[B" .null) (Fcoder_a0_ : Fld Z h0 a0_ "java/lang/String" "coder" "B" (.int (0 : Int32))) (ge_a0_ : n0 ≤ a0_) (V_a1 : Arv Z h0 a1 k1 .char (2 : Int32) [(.int v0), (.int v1)] (.int (0 : Int32))) (ne_a1_a0_ : a1 ≠ a0_) (hW : (255 : Int32) < v0 ∨ (255 : Int32) < v1) (hr0 : ¬ v0 < 0 ∧ ¬ (65535 : Int32) < v0) (hr1 : ¬ v1 < 0 ∧ ¬ (65535 : Int32) < v1) (S_COMPACT_STRINGS : Sta Z Z.heap "java/lang/String" "COMPACT_STRINGS" "Z" (.int G1)) (cs0 : ¬ (G1 = (0 : Int32))) (Ol : Old Z n0 h0) (S__assertionsDisabled : Sta Z Z.heap "java/lang/StringUTF16" "$assertionsDisabled" "Z" (.int (1 : Int32))) (S_HI_BYTE_SHIFT : Sta Z Z.heap "java/lang/StringUTF16" "HI_BYTE_SHIFT" "I" (.int (0 : Int32))) (S_LO_BYTE_SHIFT : Sta Z Z.heap "java/lang/StringUTF16" "LO_BYTE_SHIFT" "I" (.int (8 : Int32))) :
    MF l Z Y8 jdk_42_method_149_code 6 none ws ({ frames := 4, cells := 2, slots := 6, locals := 58 } : Room) #[(.ref a0_), (.ref a1), (.int (0 : Int32)), (.int (2 : Int32)), .null] h0 (Qsiv2_1 Z a0_ a1 k1 v0 v1 G1 h0 n0) := by
  refine MF.of pn_1 (fun m => ef_siv2_1 m a0_ a1 (0 : Int32) (2 : Int32)) ?_
  intro p e s m below meth c s₁ G X0 e0 hx hby hml hown hnm hlk hrt hZ hnd hG
  have N0 := Fr.nil n0
  have K0 := Keep.refl h0 [a0_]
  refine Owe.aloadN X0.here hx (hb hby d8_0) rfl rfl ?_
  refine Owe.objinit X0 hx hZ hown (wd hw 12) (wd hw 13) (wd hw 14) e0 (by rw [hml]; rfl) rfl (hb hby d8_1) (by decide) (W := 0) (nb rfl) (by decide) fun T257 X257 e257 => ?_
  refine Owe.iloadN X257.here hx (hb hby d8_4) rfl ?_
  refine Owe.ifYes X257.here hx (hb hby d8_5) rfl ((if0 _ _).trans (feq (by decide)).2) (pc' := 27) (by decide) (by decide) ?_
  refine Owe.gets X257 hx hZ hown (wd hw 32) Via.refl e257 (S_COMPACT_STRINGS.ext Ol.2) (hb hby d8_27) fun T258 X258 e258 => ?_
  refine Owe.ifNo X258.here hx (hb hby d8_30) rfl ((if0 _ _).trans (feq cs0).1) ?_
  refine Owe.aloadN X258.here hx (hb hby d8_33) rfl rfl ?_
  refine Owe.iloadN X258.here hx (hb hby d8_34) rfl ?_
  refine Owe.iloadN X258.here hx (hb hby d8_35) rfl ?_
  refine Owe.stat X258 hx (y := Y7) hown (mvT hZ (wd hw 33)) (mvT hZ (wd hw 34)) (mvT hZ (wd hw 35)) (mvT hZ (wd hw 36)) (by decide) (backOf (W := 0) (rmcma2_1 l Z a0 hw [] a1 k1 v0 v1 h0 n0 Z0 V_a1 hW hr0 hr1 Ol S__assertionsDisabled S_HI_BYTE_SHIFT S_LO_BYTE_SHIFT) hZ (wd hw 36) (wd hw 35) (by decide) (by decide)) (by rw [hml]; rfl) (argsL := [(.ref a1), (.int (0 : Int32)), (.int (2 : Int32))]) (rest := []) (lenOf pd_4 rfl) rfl (nb rfl) (hb hby d8_36) rfl e258 (by decide) (by decide) fun T259 v259 L259 X259 hQ259 => ?_
  obtain ⟨x1_259, kb1_259, rfl, Nq259, K259, ge_x1_259, fresh_x1_259, V_x1_259⟩ := hQ259
  have N259 := Fr.app N0 Nq259
  have K_260 := K0.trans K259 all0
  have E_a0__261 := E_a0_.keep K259
  have Fvalue_a0__262 := Fvalue_a0_.keep K259 nin0
  have Fcoder_a0__263 := Fcoder_a0_.keep K259 nin0
  have V_a1_264 := V_a1.keep K259 nin0
  have Ol_265 := Ol.keep K259 all0
  have Z_266 := Nat.le_trans Z0 K259.1
  have ne_a0__x1_259 : a0_ ≠ x1_259 := Nat.ne_of_lt (Nat.lt_of_lt_of_le E_a0_.lt fresh_x1_259)
  have ne_a1_x1_259 : a1 ≠ x1_259 := Nat.ne_of_lt (Nat.lt_of_lt_of_le V_a1.lt fresh_x1_259)
  have sz_x1_259 := Nat.le_trans K0.1 fresh_x1_259
  refine Owe.astore X259.here hx (hb hby d8_39) rfl rfl (l' := #[.val (.ref a0_), .val (.ref a1), .val (.int (0 : Int32)), .val (.int (2 : Int32)), .val .null, .val (.ref x1_259)]) rfl ?_
  refine Owe.aloadN X259.here hx (hb hby d8_41) rfl rfl ?_
  refine Owe.aload X259.here hx (hb hby d8_42) rfl rfl ?_
  refine Owe.iloadN X259.here hx (hb hby d8_44) rfl ?_
  refine Owe.stat X259 hx (y := Y6) hown (mvT hZ (wd hw 40)) (mvT hZ (wd hw 41)) (mvT hZ (wd hw 35)) (mvT hZ (wd hw 42)) (by decide) (backOf (W := 1) (rmcfa2_1 l Z a0 hw [] x1_259 kb1_259 ([(.int (lo1 v0)), (.int (hi1 v0)), (.int (lo1 v1)), (.int (hi1 v1))]) T259.heap n0 Z_266 V_x1_259) hZ (wd hw 42) (wd hw 35) (by decide) (by decide)) (by rw [hml]; rfl) (argsL := [(.ref x1_259), (.int (2 : Int32))]) (rest := [(.ref a0_)]) (lenOf pd_5 rfl) rfl (nb rfl) (hb hby d8_45) rfl rfl (by decide) (by decide) fun T267 v267 L267 X267 hQ267 => ?_
  obtain ⟨rfl, Nq267, e267⟩ := hQ267
  have N267 := Fr.app N259 Nq267
  refine Owe.putf X267 hx hZ (host := "") hown (Or.inl (wd hw 22)) Via.refl e267 Fcoder_a0__263 E_a0__261 (Or.inr ⟨(wd hw 18), rfl, hnm⟩) (wd hw 3) (ty := .byte) (by decide) rfl rfl (hb hby d8_48) rfl fun T268 h268 X268 e268 W268 => ?_
  have K_269 := K_260.wr W268 (Or.inl (List.mem_of_getElem? (i := 0) rfl))
  have E_a0__270 := E_a0__261.wr W268
  have Fvalue_a0__271 := Fvalue_a0__262.other W268 (Or.inr (slot_ne (Or.inr (wd hw 17)) (Or.inr (wd hw 18)) (by decide) (t := (.array .byte)) (t' := .byte) (by decide) (by decide)))
  have Fcoder_a0__272 := Fcoder_a0__263.same W268
  have V_a1_273 := V_a1_264.other W268 ne_a1_a0_
  have Ol_274 := Ol_265.wr W268 ge_a0_
  have V_x1_275 := V_x1_259.other W268 (Ne.symm ne_a0__x1_259)
  have Z_276 := Nat.le_trans Z_266 (Keep.of_wr W268).1
  have N268 := Fr.snoc X268 N267 ge_a0_
  refine Owe.aloadN X268.here hx (hb hby d8_51) rfl rfl ?_
  refine Owe.aload X268.here hx (hb hby d8_52) rfl rfl ?_
  refine Owe.putf X268 hx hZ (host := "") hown (Or.inl (wd hw 21)) Via.refl e268 Fvalue_a0__271 E_a0__270 (Or.inr ⟨(wd hw 17), rfl, hnm⟩) (wd hw 3) (ty := (.array .byte)) (by decide) rfl rfl (hb hby d8_54) rfl fun T277 h277 X277 e277 W277 => ?_
  have K_278 := K_269.wr W277 (Or.inl (List.mem_of_getElem? (i := 0) rfl))
  have E_a0__279 := E_a0__270.wr W277
  have Fvalue_a0__280 := Fvalue_a0__271.same W277
  have Fcoder_a0__281 := Fcoder_a0__272.other W277 (Or.inr (slot_ne (Or.inr (wd hw 18)) (Or.inr (wd hw 17)) (by decide) (t := .byte) (t' := (.array .byte)) (by decide) (by decide)))
  have V_a1_282 := V_a1_273.other W277 ne_a1_a0_
  have Ol_283 := Ol_274.wr W277 ge_a0_
  have V_x1_284 := V_x1_275.other W277 (Ne.symm ne_a0__x1_259)
  have Z_285 := Nat.le_trans Z_276 (Keep.of_wr W277).1
  have N277 := Fr.snoc X277 N268 ge_a0_
  refine Owe.ret0 X277 hx hlk hrt (hb hby d8_57) rfl fun fs hE => ?_
  refine hG _ _ ⟨_, _, rfl, ?_, frameMono hE (by decide) (by decide)⟩
  show Qsiv2_1 Z a0_ a1 k1 v0 v1 G1 h0 n0 _ T277.heap _
  rw [e277]
  exact ⟨x1_259, kb1_259, rfl, N277, K_278, E_a0__279, Fvalue_a0__280, Fcoder_a0__281, V_x1_284⟩
theorem ef_si2_1 (m : MethodId) (x0 : Addr) (x1 : Addr)  : entryFrame m #[(.ref x0), (.ref x1)] 2 = mkF m 0 #[.val (.ref x0), .val (.ref x1)] [] := by first | (simp [entryFrame, mkF, argsToLocals, Value.category]; done) | rfl
def Qsi2_1 (Z : State) (a0_ : Addr) (a1 : Addr) (k1 : ClassId) (v0 : Int32) (v1 : Int32) (G1 : Int32) (h0 : Heap) (n0 : Nat) (v : Option Value) (h : Heap) (L : List Loc) : Prop := ∃ (b_ : Addr), ∃ (kb1 : ClassId), v = none ∧ Fr n0 L ∧ Keep h0 h [a0_] ∧ Exa Z h a0_ "java/lang/String" ∧ Fld Z h a0_ "java/lang/String" "value" "[B" (.ref b_) ∧ Fld Z h a0_ "java/lang/String" "coder" "B" (.int (1 : Int32)) ∧ Arv Z h b_ kb1 .byte (4 : Int32) [(.int (lo1 v0)), (.int (hi1 v0)), (.int (lo1 v1)), (.int (hi1 v1))] (.int (0 : Int32))
set_option maxRecDepth 65536 in
set_option maxHeartbeats 40000000 in
theorem rmsi2_1 (l : Launch) (Z : State) (a0 : Array Value) (hw : Hw Z a0) (ws : List Jvm.Cond) (a0_ : Addr) (a1 : Addr) (k1 : ClassId) (v0 : Int32) (v1 : Int32) (G1 : Int32) (h0 : Heap) (n0 : Nat) (Z0 : n0 ≤ h0.size) (E_a0_ : Exa Z h0 a0_ "java/lang/String") (Fvalue_a0_ : Fld Z h0 a0_ "java/lang/String" "value" "[B" .null) (Fcoder_a0_ : Fld Z h0 a0_ "java/lang/String" "coder" "B" (.int (0 : Int32))) (ge_a0_ : n0 ≤ a0_) (V_a1 : Arv Z h0 a1 k1 .char (2 : Int32) [(.int v0), (.int v1)] (.int (0 : Int32))) (ne_a1_a0_ : a1 ≠ a0_) (hW : (255 : Int32) < v0 ∨ (255 : Int32) < v1) (hr0 : ¬ v0 < 0 ∧ ¬ (65535 : Int32) < v0) (hr1 : ¬ v1 < 0 ∧ ¬ (65535 : Int32) < v1) (S_COMPACT_STRINGS : Sta Z Z.heap "java/lang/String" "COMPACT_STRINGS" "Z" (.int G1)) (cs0 : ¬ (G1 = (0 : Int32))) (Ol : Old Z n0 h0) (S__assertionsDisabled : Sta Z Z.heap "java/lang/StringUTF16" "$assertionsDisabled" "Z" (.int (1 : Int32))) (S_HI_BYTE_SHIFT : Sta Z Z.heap "java/lang/StringUTF16" "HI_BYTE_SHIFT" "I" (.int (0 : Int32))) (S_LO_BYTE_SHIFT : Sta Z Z.heap "java/lang/StringUTF16" "LO_BYTE_SHIFT" "I" (.int (8 : Int32))) :
    MF l Z Y9 jdk_42_method_3_code 2 none ws ({ frames := 5, cells := 2, slots := 6, locals := 76 } : Room) #[(.ref a0_), (.ref a1)] h0 (Qsi2_1 Z a0_ a1 k1 v0 v1 G1 h0 n0) := by
  refine MF.of pn_1 (fun m => ef_si2_1 m a0_ a1) ?_
  intro p e s m below meth c s₁ G X0 e0 hx hby hml hown hnm hlk hrt hZ hnd hG
  have N0 := Fr.nil n0
  have K0 := Keep.refl h0 [a0_]
  refine Owe.aloadN X0.here hx (hb hby d9_0) rfl rfl ?_
  refine Owe.aloadN X0.here hx (hb hby d9_1) rfl rfl ?_
  refine Owe.iconst X0.here hx (hb hby d9_2) (w := (0 : Int32)) rfl ?_
  refine Owe.aloadN X0.here hx (hb hby d9_3) rfl rfl ?_
  refine Owe.arrlen X0 hx hZ e0 V_a1 (hb hby d9_4) rfl ?_
  refine Owe.aconstNull X0.here hx (hb hby d9_5)  ?_
  refine Owe.special X0 hx (y := Y8) rfl hown (mvT hZ (wd hw 8)) (mvT hZ (wd hw 9)) (mvT hZ (wd hw 11)) (by decide) (backOf (W := 0) (rmsiv2_1 l Z a0 hw [] a0_ a1 k1 v0 v1 G1 h0 n0 Z0 E_a0_ Fvalue_a0_ Fcoder_a0_ ge_a0_ V_a1 ne_a1_a0_ hW hr0 hr1 S_COMPACT_STRINGS cs0 Ol S__assertionsDisabled S_HI_BYTE_SHIFT S_LO_BYTE_SHIFT) hZ (wd hw 11) (wd hw 4) (by decide) (by decide)) (by rw [hml]; rfl) (a := a0_) (argsL := [(.ref a1), (.int (0 : Int32)), (.int (2 : Int32)), .null]) (rest := []) (lenOf pd_6 rfl) rfl (nb rfl) (hb hby d9_6) rfl e0 (by decide) (by decide) fun T286 v286 L286 X286 hQ286 => ?_
  obtain ⟨b__286, kb1_286, rfl, Nq286, K286, E_a0__286, Fvalue_a0__286, Fcoder_a0__286, V_b__286⟩ := hQ286
  have N286 := Fr.app N0 Nq286
  have K_287 := K0.trans K286 (allS (Or.inl (List.mem_of_getElem? (i := 0) rfl)) all0)
  have E_a0__288 := E_a0_.keep K286
  have V_a1_289 := V_a1.keep K286 (ninS ne_a1_a0_ nin0)
  have Ol_290 := Ol.keep K286 (allS ge_a0_ all0)
  have Z_291 := Nat.le_trans Z0 K286.1
  refine Owe.ret0 X286 hx hlk hrt (hb hby d9_9) rfl fun fs hE => ?_
  refine hG _ _ ⟨_, _, rfl, ?_, frameMono hE (by decide) (by decide)⟩
  show Qsi2_1 Z a0_ a1 k1 v0 v1 G1 h0 n0 _ T286.heap _
  exact ⟨b__286, kb1_286, rfl, N286, K_287, E_a0__286, Fvalue_a0__286, Fcoder_a0__286, V_b__286⟩
theorem ef_nbl3 (m : MethodId) (x0 : Int32)  : entryFrame m #[(.int x0)] 1 = mkF m 0 #[.val (.int x0)] [] := by first | (simp [entryFrame, mkF, argsToLocals, Value.category]; done) | rfl
def Qnbl3 (Z : State)  (h0 : Heap) (n0 : Nat) (v : Option Value) (h : Heap) (L : List Loc) : Prop := v = some (.int (6 : Int32)) ∧ Fr n0 L ∧ h = h0
set_option maxRecDepth 65536 in
set_option maxHeartbeats 40000000 in
theorem rmnbl3 (l : Launch) (Z : State) (a0 : Array Value) (hw : Hw Z a0) (ws : List Jvm.Cond)  (h0 : Heap) (n0 : Nat) (Z0 : n0 ≤ h0.size)  :
    MF l Z Y1 jdk_52_method_3_code 1 (some .int) ws ({ frames := 0, cells := 0, slots := 0, locals := 0 } : Room) #[(.int (3 : Int32))] h0 (Qnbl3 Z  h0 n0) := by
  refine MF.of pn_0 (fun m => ef_nbl3 m (3 : Int32)) ?_
  intro p e s m below meth c s₁ G X0 e0 hx hby hml hown hnm hlk hrt hZ hnd hG
  have N0 := Fr.nil n0
  refine Owe.iloadN X0.here hx (hb hby d1_0) rfl ?_
  refine Owe.ifYes X0.here hx (hb hby d1_1) rfl ((if0 _ _).trans (flt (by decide)).2.1) (pc' := 12) (by decide) (by decide) ?_
  refine Owe.iloadN X0.here hx (hb hby d1_12) rfl ?_
  refine Owe.ldcI X0 hx (v := (1073741823 : Int32)) hown (mvT hZ (wd hw 88)) (hb hby d1_13) ?_
  refine Owe.icmpYes X0.here hx (hb hby d1_15) rfl (tlt (by decide)).1 (pc' := 55) (by decide) (by decide) ?_
  refine Owe.iloadN X0.here hx (hb hby d1_55) rfl ?_
  refine Owe.iconst X0.here hx (hb hby d1_56) (w := (1 : Int32)) rfl ?_
  refine Owe.ishl X0.here hx (hb hby d1_57) rfl ?_
  refine Owe.retI X0 hx hlk hrt (hb hby d1_58) rfl fun fs hE => ?_
  refine hG _ _ ⟨_, _, rfl, ?_, frameMono hE (by decide) (by decide)⟩
  show Qnbl3 Z  h0 n0 _ s₁.heap _
  rw [e0]
  exact ⟨(congrArg (fun z => some (Value.int z)) (by decide)), N0, rfl⟩
theorem ef_nbf3 (m : MethodId) (x0 : Int32)  : entryFrame m #[(.int x0)] 1 = mkF m 0 #[.val (.int x0)] [] := by first | (simp [entryFrame, mkF, argsToLocals, Value.category]; done) | rfl
def Qnbf3 (Z : State)  (h0 : Heap) (n0 : Nat) (v : Option Value) (h : Heap) (L : List Loc) : Prop := ∃ (x1 : Addr), ∃ (kb1 : ClassId), v = some (.ref x1) ∧ Fr n0 L ∧ Keep h0 h [] ∧ n0 ≤ x1 ∧ h0.size ≤ x1 ∧ Arv Z h x1 kb1 .byte (6 : Int32) [(.int (0 : Int32)), (.int (0 : Int32)), (.int (0 : Int32)), (.int (0 : Int32)), (.int (0 : Int32)), (.int (0 : Int32))] (.int (0 : Int32))
set_option maxRecDepth 65536 in
set_option maxHeartbeats 40000000 in
theorem rmnbf3 (l : Launch) (Z : State) (a0 : Array Value) (hw : Hw Z a0) (ws : List Jvm.Cond)  (h0 : Heap) (n0 : Nat) (Z0 : n0 ≤ h0.size)  :
    MF l Z Y2 jdk_52_method_2_code 1 (some (.array .byte)) ws ({ frames := 1, cells := 1, slots := 6, locals := 12 } : Room) #[(.int (3 : Int32))] h0 (Qnbf3 Z  h0 n0) := by
  refine MF.of pn_0 (fun m => ef_nbf3 m (3 : Int32)) ?_
  intro p e s m below meth c s₁ G X0 e0 hx hby hml hown hnm hlk hrt hZ hnd hG
  have N0 := Fr.nil n0
  have K0 := Keep.refl h0 []
  refine Owe.iloadN X0.here hx (hb hby d2_0) rfl ?_
  refine Owe.stat X0 hx (y := Y1) hown (mvT hZ (wd hw 85)) (mvT hZ (wd hw 86)) (mvT hZ (wd hw 35)) (mvT hZ (wd hw 87)) (by decide) (backOf (W := 0) (rmnbl3 l Z a0 hw []  h0 n0 Z0 ) hZ (wd hw 87) (wd hw 35) (by decide) (by decide)) (by rw [hml]; rfl) (argsL := [(.int (3 : Int32))]) (rest := []) (lenOf pd_0 rfl) rfl (nb rfl) (hb hby d2_1) rfl e0 (by decide) (by decide) fun T292 v292 L292 X292 hQ292 => ?_
  obtain ⟨rfl, Nq292, e292⟩ := hQ292
  have N292 := Fr.app N0 Nq292
  refine Owe.newarr X292 hx hZ (aty := .byte) (wd hw 16) e292 (hb hby d2_4) rfl (by decide) (cap := 6) (by decide) (by decide) (by decide) (by decide) fun T293 h293 b293 k293 g293 X293 e293 E293 V293 => ?_
  have sz_b293 := Nat.le_trans K0.1 (Nat.le_of_eq g293.symm)
  have ge_b293 := Nat.le_trans Z0 (Nat.le_of_eq g293.symm)
  have K_294 := K0.ext E293
  have Z_295 := Nat.le_trans Z0 E293.1
  have V_b293_293 : Arv Z h293 b293 k293 .byte (6 : Int32) [(.int (0 : Int32)), (.int (0 : Int32)), (.int (0 : Int32)), (.int (0 : Int32)), (.int (0 : Int32)), (.int (0 : Int32))] (.int (0 : Int32)) := V293.pad (pad_rep [] (.int (0 : Int32)) 6)
  refine Owe.retR X293 hx hlk (t := (.array .byte)) hrt rfl rfl rfl (hb hby d2_6) rfl fun fs hE => ?_
  refine hG _ _ ⟨_, _, rfl, ?_, frameMono hE (by decide) (by decide)⟩
  show Qnbf3 Z  h0 n0 _ T293.heap _
  rw [e293]
  exact ⟨b293, k293, rfl, N292, K_294, ge_b293, sz_b293, V_b293_293⟩
theorem ef_ptc3_0 (m : MethodId) (x0 : Addr) (x1 : Int32) (x2 : Int32)  : entryFrame m #[(.ref x0), (.int x1), (.int x2)] 3 = mkF m 0 #[.val (.ref x0), .val (.int x1), .val (.int x2)] [] := by first | (simp [entryFrame, mkF, argsToLocals, Value.category]; done) | rfl
def Qptc3_0 (Z : State) (a1 : Addr) (k1 : ClassId) (c1 : Int32) (b0 : Int32) (b1 : Int32) (b2 : Int32) (b3 : Int32) (b4 : Int32) (b5 : Int32) (h0 : Heap) (n0 : Nat) (v : Option Value) (h : Heap) (L : List Loc) : Prop := v = none ∧ Fr n0 L ∧ Keep h0 h [a1] ∧ Arv Z h a1 k1 .byte (6 : Int32) [(.int (lo1 c1)), (.int (hi1 c1)), (.int b2), (.int b3), (.int b4), (.int b5)] (.int (0 : Int32))
set_option maxRecDepth 65536 in
set_option maxHeartbeats 40000000 in
theorem rmptc3_0 (l : Launch) (Z : State) (a0 : Array Value) (hw : Hw Z a0) (ws : List Jvm.Cond) (a1 : Addr) (k1 : ClassId) (c1 : Int32) (b0 : Int32) (b1 : Int32) (b2 : Int32) (b3 : Int32) (b4 : Int32) (b5 : Int32) (h0 : Heap) (n0 : Nat) (Z0 : n0 ≤ h0.size) (V_a1 : Arv Z h0 a1 k1 .byte (6 : Int32) [(.int b0), (.int b1), (.int b2), (.int b3), (.int b4), (.int b5)] (.int (0 : Int32))) (ge_a1 : n0 ≤ a1) (Ol : Old Z n0 h0) (S__assertionsDisabled : Sta Z Z.heap "java/lang/StringUTF16" "$assertionsDisabled" "Z" (.int (1 : Int32))) (S_HI_BYTE_SHIFT : Sta Z Z.heap "java/lang/StringUTF16" "HI_BYTE_SHIFT" "I" (.int (0 : Int32))) (S_LO_BYTE_SHIFT : Sta Z Z.heap "java/lang/StringUTF16" "LO_BYTE_SHIFT" "I" (.int (8 : Int32))) :
    MF l Z Y3 jdk_52_method_4_code 3 none ws ({ frames := 0, cells := 0, slots := 0, locals := 0 } : Room) #[(.ref a1), (.int (0 : Int32)), (.int c1)] h0 (Qptc3_0 Z a1 k1 c1 b0 b1 b2 b3 b4 b5 h0 n0) := by
  refine MF.of pn_0 (fun m => ef_ptc3_0 m a1 (0 : Int32) c1) ?_
  intro p e s m below meth c s₁ G X0 e0 hx hby hml hown hnm hlk hrt hZ hnd hG
  have N0 := Fr.nil n0
  have K0 := Keep.refl h0 [a1]
  refine Owe.gets X0 hx hZ hown (wd hw 92) Via.refl e0 (S__assertionsDisabled.ext Ol.2) (hb hby d3_0) fun T296 X296 e296 => ?_
  refine Owe.ifYes X296.here hx (hb hby d3_3) rfl ((if0 _ _).trans (feq (by decide)).2) (pc' := 28) (by decide) (by decide) ?_
  refine Owe.iloadN X296.here hx (hb hby d3_28) rfl ?_
  refine Owe.iconst X296.here hx (hb hby d3_29) (w := (1 : Int32)) rfl ?_
  refine Owe.ishl X296.here hx (hb hby d3_30) rfl ?_
  refine Owe.istoreN X296.here hx (hb hby d3_31) rfl (l' := #[.val (.ref a1), .val (.int (0 : Int32)), .val (.int c1)]) rfl ?_
  refine Owe.aloadN X296.here hx (hb hby d3_32) rfl rfl ?_
  refine Owe.iloadN X296.here hx (hb hby d3_33) rfl ?_
  refine Owe.iinc X296.here hx (hb hby d3_34) rfl (l' := #[.val (.ref a1), .val (.int (1 : Int32)), .val (.int c1)]) rfl ?_
  refine Owe.iloadN X296.here hx (hb hby d3_37) rfl ?_
  refine Owe.gets X296 hx hZ hown (wd hw 93) Via.refl e296 (S_HI_BYTE_SHIFT.ext Ol.2) (hb hby d3_38) fun T297 X297 e297 => ?_
  refine Owe.ishr X297.here hx (hb hby d3_41) rfl ?_
  refine Owe.i2b X297.here hx (hb hby d3_42) rfl ?_
  refine Owe.bastore X297 hx hZ e297 V_a1 (x := ((c1 >>> ((0 : Int32) &&& 31)).toInt8.toInt32)) 0 rfl (nb rfl) (by decide) (hb hby d3_43) rfl fun T298 h298 X298 e298 W298 (V298 : Arv Z h298 a1 k1 .byte (6 : Int32) [(.int (((c1 >>> ((0 : Int32) &&& 31)).toInt8.toInt32).toInt8.toInt32)), (.int b1), (.int b2), (.int b3), (.int b4), (.int b5)] (.int (0 : Int32))) => ?_
  have K_299 := K0.wr W298 (Or.inl (List.mem_of_getElem? (i := 0) rfl))
  have Ol_300 := Ol.wr W298 ge_a1
  have Z_301 := Nat.le_trans Z0 (Keep.of_wr W298).1
  have N298 := Fr.snoc X298 N0 ge_a1
  refine Owe.aloadN X298.here hx (hb hby d3_44) rfl rfl ?_
  refine Owe.iloadN X298.here hx (hb hby d3_45) rfl ?_
  refine Owe.iloadN X298.here hx (hb hby d3_46) rfl ?_
  refine Owe.gets X298 hx hZ hown (wd hw 94) Via.refl e298 (S_LO_BYTE_SHIFT.ext Ol_300.2) (hb hby d3_47) fun T302 X302 e302 => ?_
  refine Owe.ishr X302.here hx (hb hby d3_50) rfl ?_
  refine Owe.i2b X302.here hx (hb hby d3_51) rfl ?_
  refine Owe.bastore X302 hx hZ e302 V298 (x := ((c1 >>> ((8 : Int32) &&& 31)).toInt8.toInt32)) 1 rfl (nb rfl) (by decide) (hb hby d3_52) rfl fun T303 h303 X303 e303 W303 (V303 : Arv Z h303 a1 k1 .byte (6 : Int32) [(.int (((c1 >>> ((0 : Int32) &&& 31)).toInt8.toInt32).toInt8.toInt32)), (.int (((c1 >>> ((8 : Int32) &&& 31)).toInt8.toInt32).toInt8.toInt32)), (.int b2), (.int b3), (.int b4), (.int b5)] (.int (0 : Int32))) => ?_
  have K_304 := K_299.wr W303 (Or.inl (List.mem_of_getElem? (i := 0) rfl))
  have Ol_305 := Ol_300.wr W303 ge_a1
  have Z_306 := Nat.le_trans Z_301 (Keep.of_wr W303).1
  have N303 := Fr.snoc X303 N298 ge_a1
  refine Owe.ret0 X303 hx hlk hrt (hb hby d3_53) rfl fun fs hE => ?_
  refine hG _ _ ⟨_, _, rfl, ?_, frameMono hE (by decide) (by decide)⟩
  show Qptc3_0 Z a1 k1 c1 b0 b1 b2 b3 b4 b5 h0 n0 _ T303.heap _
  rw [e303]
  exact ⟨rfl, N303, K_304, V303⟩
theorem ef_ptc3_1 (m : MethodId) (x0 : Addr) (x1 : Int32) (x2 : Int32)  : entryFrame m #[(.ref x0), (.int x1), (.int x2)] 3 = mkF m 0 #[.val (.ref x0), .val (.int x1), .val (.int x2)] [] := by first | (simp [entryFrame, mkF, argsToLocals, Value.category]; done) | rfl
def Qptc3_1 (Z : State) (a1 : Addr) (k1 : ClassId) (c1 : Int32) (b0 : Int32) (b1 : Int32) (b2 : Int32) (b3 : Int32) (b4 : Int32) (b5 : Int32) (h0 : Heap) (n0 : Nat) (v : Option Value) (h : Heap) (L : List Loc) : Prop := v = none ∧ Fr n0 L ∧ Keep h0 h [a1] ∧ Arv Z h a1 k1 .byte (6 : Int32) [(.int b0), (.int b1), (.int (lo1 c1)), (.int (hi1 c1)), (.int b4), (.int b5)] (.int (0 : Int32))
set_option maxRecDepth 65536 in
set_option maxHeartbeats 40000000 in
theorem rmptc3_1 (l : Launch) (Z : State) (a0 : Array Value) (hw : Hw Z a0) (ws : List Jvm.Cond) (a1 : Addr) (k1 : ClassId) (c1 : Int32) (b0 : Int32) (b1 : Int32) (b2 : Int32) (b3 : Int32) (b4 : Int32) (b5 : Int32) (h0 : Heap) (n0 : Nat) (Z0 : n0 ≤ h0.size) (V_a1 : Arv Z h0 a1 k1 .byte (6 : Int32) [(.int b0), (.int b1), (.int b2), (.int b3), (.int b4), (.int b5)] (.int (0 : Int32))) (ge_a1 : n0 ≤ a1) (Ol : Old Z n0 h0) (S__assertionsDisabled : Sta Z Z.heap "java/lang/StringUTF16" "$assertionsDisabled" "Z" (.int (1 : Int32))) (S_HI_BYTE_SHIFT : Sta Z Z.heap "java/lang/StringUTF16" "HI_BYTE_SHIFT" "I" (.int (0 : Int32))) (S_LO_BYTE_SHIFT : Sta Z Z.heap "java/lang/StringUTF16" "LO_BYTE_SHIFT" "I" (.int (8 : Int32))) :
    MF l Z Y3 jdk_52_method_4_code 3 none ws ({ frames := 0, cells := 0, slots := 0, locals := 0 } : Room) #[(.ref a1), (.int (1 : Int32)), (.int c1)] h0 (Qptc3_1 Z a1 k1 c1 b0 b1 b2 b3 b4 b5 h0 n0) := by
  refine MF.of pn_0 (fun m => ef_ptc3_1 m a1 (1 : Int32) c1) ?_
  intro p e s m below meth c s₁ G X0 e0 hx hby hml hown hnm hlk hrt hZ hnd hG
  have N0 := Fr.nil n0
  have K0 := Keep.refl h0 [a1]
  refine Owe.gets X0 hx hZ hown (wd hw 92) Via.refl e0 (S__assertionsDisabled.ext Ol.2) (hb hby d3_0) fun T307 X307 e307 => ?_
  refine Owe.ifYes X307.here hx (hb hby d3_3) rfl ((if0 _ _).trans (feq (by decide)).2) (pc' := 28) (by decide) (by decide) ?_
  refine Owe.iloadN X307.here hx (hb hby d3_28) rfl ?_
  refine Owe.iconst X307.here hx (hb hby d3_29) (w := (1 : Int32)) rfl ?_
  refine Owe.ishl X307.here hx (hb hby d3_30) rfl ?_
  refine Owe.istoreN X307.here hx (hb hby d3_31) rfl (l' := #[.val (.ref a1), .val (.int (2 : Int32)), .val (.int c1)]) rfl ?_
  refine Owe.aloadN X307.here hx (hb hby d3_32) rfl rfl ?_
  refine Owe.iloadN X307.here hx (hb hby d3_33) rfl ?_
  refine Owe.iinc X307.here hx (hb hby d3_34) rfl (l' := #[.val (.ref a1), .val (.int (3 : Int32)), .val (.int c1)]) rfl ?_
  refine Owe.iloadN X307.here hx (hb hby d3_37) rfl ?_
  refine Owe.gets X307 hx hZ hown (wd hw 93) Via.refl e307 (S_HI_BYTE_SHIFT.ext Ol.2) (hb hby d3_38) fun T308 X308 e308 => ?_
  refine Owe.ishr X308.here hx (hb hby d3_41) rfl ?_
  refine Owe.i2b X308.here hx (hb hby d3_42) rfl ?_
  refine Owe.bastore X308 hx hZ e308 V_a1 (x := ((c1 >>> ((0 : Int32) &&& 31)).toInt8.toInt32)) 2 rfl (nb rfl) (by decide) (hb hby d3_43) rfl fun T309 h309 X309 e309 W309 (V309 : Arv Z h309 a1 k1 .byte (6 : Int32) [(.int b0), (.int b1), (.int (((c1 >>> ((0 : Int32) &&& 31)).toInt8.toInt32).toInt8.toInt32)), (.int b3), (.int b4), (.int b5)] (.int (0 : Int32))) => ?_
  have K_310 := K0.wr W309 (Or.inl (List.mem_of_getElem? (i := 0) rfl))
  have Ol_311 := Ol.wr W309 ge_a1
  have Z_312 := Nat.le_trans Z0 (Keep.of_wr W309).1
  have N309 := Fr.snoc X309 N0 ge_a1
  refine Owe.aloadN X309.here hx (hb hby d3_44) rfl rfl ?_
  refine Owe.iloadN X309.here hx (hb hby d3_45) rfl ?_
  refine Owe.iloadN X309.here hx (hb hby d3_46) rfl ?_
  refine Owe.gets X309 hx hZ hown (wd hw 94) Via.refl e309 (S_LO_BYTE_SHIFT.ext Ol_311.2) (hb hby d3_47) fun T313 X313 e313 => ?_
  refine Owe.ishr X313.here hx (hb hby d3_50) rfl ?_
  refine Owe.i2b X313.here hx (hb hby d3_51) rfl ?_
  refine Owe.bastore X313 hx hZ e313 V309 (x := ((c1 >>> ((8 : Int32) &&& 31)).toInt8.toInt32)) 3 rfl (nb rfl) (by decide) (hb hby d3_52) rfl fun T314 h314 X314 e314 W314 (V314 : Arv Z h314 a1 k1 .byte (6 : Int32) [(.int b0), (.int b1), (.int (((c1 >>> ((0 : Int32) &&& 31)).toInt8.toInt32).toInt8.toInt32)), (.int (((c1 >>> ((8 : Int32) &&& 31)).toInt8.toInt32).toInt8.toInt32)), (.int b4), (.int b5)] (.int (0 : Int32))) => ?_
  have K_315 := K_310.wr W314 (Or.inl (List.mem_of_getElem? (i := 0) rfl))
  have Ol_316 := Ol_311.wr W314 ge_a1
  have Z_317 := Nat.le_trans Z_312 (Keep.of_wr W314).1
  have N314 := Fr.snoc X314 N309 ge_a1
  refine Owe.ret0 X314 hx hlk hrt (hb hby d3_53) rfl fun fs hE => ?_
  refine hG _ _ ⟨_, _, rfl, ?_, frameMono hE (by decide) (by decide)⟩
  show Qptc3_1 Z a1 k1 c1 b0 b1 b2 b3 b4 b5 h0 n0 _ T314.heap _
  rw [e314]
  exact ⟨rfl, N314, K_315, V314⟩
theorem ef_ptc3_2 (m : MethodId) (x0 : Addr) (x1 : Int32) (x2 : Int32)  : entryFrame m #[(.ref x0), (.int x1), (.int x2)] 3 = mkF m 0 #[.val (.ref x0), .val (.int x1), .val (.int x2)] [] := by first | (simp [entryFrame, mkF, argsToLocals, Value.category]; done) | rfl
def Qptc3_2 (Z : State) (a1 : Addr) (k1 : ClassId) (c1 : Int32) (b0 : Int32) (b1 : Int32) (b2 : Int32) (b3 : Int32) (b4 : Int32) (b5 : Int32) (h0 : Heap) (n0 : Nat) (v : Option Value) (h : Heap) (L : List Loc) : Prop := v = none ∧ Fr n0 L ∧ Keep h0 h [a1] ∧ Arv Z h a1 k1 .byte (6 : Int32) [(.int b0), (.int b1), (.int b2), (.int b3), (.int (lo1 c1)), (.int (hi1 c1))] (.int (0 : Int32))
set_option maxRecDepth 65536 in
set_option maxHeartbeats 40000000 in
theorem rmptc3_2 (l : Launch) (Z : State) (a0 : Array Value) (hw : Hw Z a0) (ws : List Jvm.Cond) (a1 : Addr) (k1 : ClassId) (c1 : Int32) (b0 : Int32) (b1 : Int32) (b2 : Int32) (b3 : Int32) (b4 : Int32) (b5 : Int32) (h0 : Heap) (n0 : Nat) (Z0 : n0 ≤ h0.size) (V_a1 : Arv Z h0 a1 k1 .byte (6 : Int32) [(.int b0), (.int b1), (.int b2), (.int b3), (.int b4), (.int b5)] (.int (0 : Int32))) (ge_a1 : n0 ≤ a1) (Ol : Old Z n0 h0) (S__assertionsDisabled : Sta Z Z.heap "java/lang/StringUTF16" "$assertionsDisabled" "Z" (.int (1 : Int32))) (S_HI_BYTE_SHIFT : Sta Z Z.heap "java/lang/StringUTF16" "HI_BYTE_SHIFT" "I" (.int (0 : Int32))) (S_LO_BYTE_SHIFT : Sta Z Z.heap "java/lang/StringUTF16" "LO_BYTE_SHIFT" "I" (.int (8 : Int32))) :
    MF l Z Y3 jdk_52_method_4_code 3 none ws ({ frames := 0, cells := 0, slots := 0, locals := 0 } : Room) #[(.ref a1), (.int (2 : Int32)), (.int c1)] h0 (Qptc3_2 Z a1 k1 c1 b0 b1 b2 b3 b4 b5 h0 n0) := by
  refine MF.of pn_0 (fun m => ef_ptc3_2 m a1 (2 : Int32) c1) ?_
  intro p e s m below meth c s₁ G X0 e0 hx hby hml hown hnm hlk hrt hZ hnd hG
  have N0 := Fr.nil n0
  have K0 := Keep.refl h0 [a1]
  refine Owe.gets X0 hx hZ hown (wd hw 92) Via.refl e0 (S__assertionsDisabled.ext Ol.2) (hb hby d3_0) fun T318 X318 e318 => ?_
  refine Owe.ifYes X318.here hx (hb hby d3_3) rfl ((if0 _ _).trans (feq (by decide)).2) (pc' := 28) (by decide) (by decide) ?_
  refine Owe.iloadN X318.here hx (hb hby d3_28) rfl ?_
  refine Owe.iconst X318.here hx (hb hby d3_29) (w := (1 : Int32)) rfl ?_
  refine Owe.ishl X318.here hx (hb hby d3_30) rfl ?_
  refine Owe.istoreN X318.here hx (hb hby d3_31) rfl (l' := #[.val (.ref a1), .val (.int (4 : Int32)), .val (.int c1)]) rfl ?_
  refine Owe.aloadN X318.here hx (hb hby d3_32) rfl rfl ?_
  refine Owe.iloadN X318.here hx (hb hby d3_33) rfl ?_
  refine Owe.iinc X318.here hx (hb hby d3_34) rfl (l' := #[.val (.ref a1), .val (.int (5 : Int32)), .val (.int c1)]) rfl ?_
  refine Owe.iloadN X318.here hx (hb hby d3_37) rfl ?_
  refine Owe.gets X318 hx hZ hown (wd hw 93) Via.refl e318 (S_HI_BYTE_SHIFT.ext Ol.2) (hb hby d3_38) fun T319 X319 e319 => ?_
  refine Owe.ishr X319.here hx (hb hby d3_41) rfl ?_
  refine Owe.i2b X319.here hx (hb hby d3_42) rfl ?_
  refine Owe.bastore X319 hx hZ e319 V_a1 (x := ((c1 >>> ((0 : Int32) &&& 31)).toInt8.toInt32)) 4 rfl (nb rfl) (by decide) (hb hby d3_43) rfl fun T320 h320 X320 e320 W320 (V320 : Arv Z h320 a1 k1 .byte (6 : Int32) [(.int b0), (.int b1), (.int b2), (.int b3), (.int (((c1 >>> ((0 : Int32) &&& 31)).toInt8.toInt32).toInt8.toInt32)), (.int b5)] (.int (0 : Int32))) => ?_
  have K_321 := K0.wr W320 (Or.inl (List.mem_of_getElem? (i := 0) rfl))
  have Ol_322 := Ol.wr W320 ge_a1
  have Z_323 := Nat.le_trans Z0 (Keep.of_wr W320).1
  have N320 := Fr.snoc X320 N0 ge_a1
  refine Owe.aloadN X320.here hx (hb hby d3_44) rfl rfl ?_
  refine Owe.iloadN X320.here hx (hb hby d3_45) rfl ?_
  refine Owe.iloadN X320.here hx (hb hby d3_46) rfl ?_
  refine Owe.gets X320 hx hZ hown (wd hw 94) Via.refl e320 (S_LO_BYTE_SHIFT.ext Ol_322.2) (hb hby d3_47) fun T324 X324 e324 => ?_
  refine Owe.ishr X324.here hx (hb hby d3_50) rfl ?_
  refine Owe.i2b X324.here hx (hb hby d3_51) rfl ?_
  refine Owe.bastore X324 hx hZ e324 V320 (x := ((c1 >>> ((8 : Int32) &&& 31)).toInt8.toInt32)) 5 rfl (nb rfl) (by decide) (hb hby d3_52) rfl fun T325 h325 X325 e325 W325 (V325 : Arv Z h325 a1 k1 .byte (6 : Int32) [(.int b0), (.int b1), (.int b2), (.int b3), (.int (((c1 >>> ((0 : Int32) &&& 31)).toInt8.toInt32).toInt8.toInt32)), (.int (((c1 >>> ((8 : Int32) &&& 31)).toInt8.toInt32).toInt8.toInt32))] (.int (0 : Int32))) => ?_
  have K_326 := K_321.wr W325 (Or.inl (List.mem_of_getElem? (i := 0) rfl))
  have Ol_327 := Ol_322.wr W325 ge_a1
  have Z_328 := Nat.le_trans Z_323 (Keep.of_wr W325).1
  have N325 := Fr.snoc X325 N320 ge_a1
  refine Owe.ret0 X325 hx hlk hrt (hb hby d3_53) rfl fun fs hE => ?_
  refine hG _ _ ⟨_, _, rfl, ?_, frameMono hE (by decide) (by decide)⟩
  show Qptc3_2 Z a1 k1 c1 b0 b1 b2 b3 b4 b5 h0 n0 _ T325.heap _
  rw [e325]
  exact ⟨rfl, N325, K_326, V325⟩
theorem ef_tob3 (m : MethodId) (x0 : Addr) (x1 : Int32) (x2 : Int32)  : entryFrame m #[(.ref x0), (.int x1), (.int x2)] 5 = mkF m 0 #[.val (.ref x0), .val (.int x1), .val (.int x2), .unset, .unset] [] := by first | (simp [entryFrame, mkF, argsToLocals, Value.category]; done) | rfl
def Qtob3 (Z : State) (a1 : Addr) (k1 : ClassId) (v0 : Int32) (v1 : Int32) (v2 : Int32) (h0 : Heap) (n0 : Nat) (v : Option Value) (h : Heap) (L : List Loc) : Prop := ∃ (x1 : Addr), ∃ (kb1 : ClassId), v = some (.ref x1) ∧ Fr n0 L ∧ Keep h0 h [] ∧ n0 ≤ x1 ∧ h0.size ≤ x1 ∧ Arv Z h x1 kb1 .byte (6 : Int32) [(.int (lo1 v0)), (.int (hi1 v0)), (.int (lo1 v1)), (.int (hi1 v1)), (.int (lo1 v2)), (.int (hi1 v2))] (.int (0 : Int32))
set_option maxRecDepth 65536 in
set_option maxHeartbeats 40000000 in
theorem rmtob3 (l : Launch) (Z : State) (a0 : Array Value) (hw : Hw Z a0) (ws : List Jvm.Cond) (a1 : Addr) (k1 : ClassId) (v0 : Int32) (v1 : Int32) (v2 : Int32) (h0 : Heap) (n0 : Nat) (Z0 : n0 ≤ h0.size) (V_a1 : Arv Z h0 a1 k1 .char (3 : Int32) [(.int v0), (.int v1), (.int v2)] (.int (0 : Int32))) (Ol : Old Z n0 h0) (S__assertionsDisabled : Sta Z Z.heap "java/lang/StringUTF16" "$assertionsDisabled" "Z" (.int (1 : Int32))) (S_HI_BYTE_SHIFT : Sta Z Z.heap "java/lang/StringUTF16" "HI_BYTE_SHIFT" "I" (.int (0 : Int32))) (S_LO_BYTE_SHIFT : Sta Z Z.heap "java/lang/StringUTF16" "LO_BYTE_SHIFT" "I" (.int (8 : Int32))) :
    MF l Z Y4 jdk_52_method_14_code 5 (some (.array .byte)) ws ({ frames := 2, cells := 1, slots := 6, locals := 24 } : Room) #[(.ref a1), (.int (0 : Int32)), (.int (3 : Int32))] h0 (Qtob3 Z a1 k1 v0 v1 v2 h0 n0) := by
  refine MF.of pn_0 (fun m => ef_tob3 m a1 (0 : Int32) (3 : Int32)) ?_
  intro p e s m below meth c s₁ G X0 e0 hx hby hml hown hnm hlk hrt hZ hnd hG
  have N0 := Fr.nil n0
  have K0 := Keep.refl h0 []
  refine Owe.iloadN X0.here hx (hb hby d4_0) rfl ?_
  refine Owe.stat X0 hx (y := Y2) hown (mvT hZ (wd hw 82)) (mvT hZ (wd hw 83)) (mvT hZ (wd hw 35)) (mvT hZ (wd hw 84)) (by decide) (backOf (W := 0) (rmnbf3 l Z a0 hw []  h0 n0 Z0 ) hZ (wd hw 84) (wd hw 35) (by decide) (by decide)) (by rw [hml]; rfl) (argsL := [(.int (3 : Int32))]) (rest := []) (lenOf pd_1 rfl) rfl (nb rfl) (hb hby d4_1) rfl e0 (by decide) (by decide) fun T329 v329 L329 X329 hQ329 => ?_
  obtain ⟨x1_329, kb1_329, rfl, Nq329, K329, ge_x1_329, fresh_x1_329, V_x1_329⟩ := hQ329
  have N329 := Fr.app N0 Nq329
  have K_330 := K0.trans K329 all0
  have V_a1_331 := V_a1.keep K329 nin0
  have Ol_332 := Ol.keep K329 all0
  have Z_333 := Nat.le_trans Z0 K329.1
  have ne_a1_x1_329 : a1 ≠ x1_329 := Nat.ne_of_lt (Nat.lt_of_lt_of_le V_a1.lt fresh_x1_329)
  have sz_x1_329 := Nat.le_trans K0.1 fresh_x1_329
  refine Owe.astoreN X329.here hx (hb hby d4_4) rfl rfl (l' := #[.val (.ref a1), .val (.int (0 : Int32)), .val (.int (3 : Int32)), .val (.ref x1_329), .unset]) rfl ?_
  refine Owe.iconst X329.here hx (hb hby d4_5) (w := (0 : Int32)) rfl ?_
  refine Owe.istore X329.here hx (hb hby d4_6) rfl (l' := #[.val (.ref a1), .val (.int (0 : Int32)), .val (.int (3 : Int32)), .val (.ref x1_329), .val (.int (0 : Int32))]) rfl ?_
  refine Owe.iload X329.here hx (hb hby d4_8) rfl ?_
  refine Owe.iloadN X329.here hx (hb hby d4_10) rfl ?_
  refine Owe.icmpNo X329.here hx (hb hby d4_11) rfl (tlt (by decide)).2.1 ?_
  refine Owe.aloadN X329.here hx (hb hby d4_14) rfl rfl ?_
  refine Owe.iload X329.here hx (hb hby d4_15) rfl ?_
  refine Owe.aloadN X329.here hx (hb hby d4_17) rfl rfl ?_
  refine Owe.iloadN X329.here hx (hb hby d4_18) rfl ?_
  refine Owe.caload X329 hx hZ rfl V_a1_331 (v := (.int v0)) (by decide) rfl (hb hby d4_19) rfl ?_
  refine Owe.stat X329 hx (y := Y3) hown (mvT hZ (wd hw 89)) (mvT hZ (wd hw 90)) (mvT hZ (wd hw 35)) (mvT hZ (wd hw 91)) (by decide) (backOf (W := 0) (rmptc3_0 l Z a0 hw [] x1_329 kb1_329 v0 (0 : Int32) (0 : Int32) (0 : Int32) (0 : Int32) (0 : Int32) (0 : Int32) T329.heap n0 Z_333 V_x1_329 ge_x1_329 Ol_332 S__assertionsDisabled S_HI_BYTE_SHIFT S_LO_BYTE_SHIFT) hZ (wd hw 91) (wd hw 35) (by decide) (by decide)) (by rw [hml]; rfl) (argsL := [(.ref x1_329), (.int (0 : Int32)), (.int v0)]) (rest := []) (lenOf pd_2 rfl) rfl (nb rfl) (hb hby d4_20) rfl rfl (by decide) (by decide) fun T334 v334 L334 X334 hQ334 => ?_
  obtain ⟨rfl, Nq334, K334, V_a1_334⟩ := hQ334
  have N334 := Fr.app N329 Nq334
  have K_335 := K_330.trans K334 (allS (Or.inr sz_x1_329) all0)
  have V_a1_336 := V_a1_331.keep K334 (ninS ne_a1_x1_329 nin0)
  have Ol_337 := Ol_332.keep K334 (allS ge_x1_329 all0)
  have Z_338 := Nat.le_trans Z_333 K334.1
  refine Owe.iinc X334.here hx (hb hby d4_23) rfl (l' := #[.val (.ref a1), .val (.int (1 : Int32)), .val (.int (3 : Int32)), .val (.ref x1_329), .val (.int (0 : Int32))]) rfl ?_
  refine Owe.iinc X334.here hx (hb hby d4_26) rfl (l' := #[.val (.ref a1), .val (.int (1 : Int32)), .val (.int (3 : Int32)), .val (.ref x1_329), .val (.int (1 : Int32))]) rfl ?_
  refine Owe.goto X334.here hx (hb hby d4_29) (pc' := 8) (by decide) (by decide) ?_
  refine Owe.iload X334.here hx (hb hby d4_8) rfl ?_
  refine Owe.iloadN X334.here hx (hb hby d4_10) rfl ?_
  refine Owe.icmpNo X334.here hx (hb hby d4_11) rfl (tlt (by decide)).2.1 ?_
  refine Owe.aloadN X334.here hx (hb hby d4_14) rfl rfl ?_
  refine Owe.iload X334.here hx (hb hby d4_15) rfl ?_
  refine Owe.aloadN X334.here hx (hb hby d4_17) rfl rfl ?_
  refine Owe.iloadN X334.here hx (hb hby d4_18) rfl ?_
  refine Owe.caload X334 hx hZ rfl V_a1_336 (v := (.int v1)) (by decide) rfl (hb hby d4_19) rfl ?_
  refine Owe.stat X334 hx (y := Y3) hown (mvT hZ (wd hw 89)) (mvT hZ (wd hw 90)) (mvT hZ (wd hw 35)) (mvT hZ (wd hw 91)) (by decide) (backOf (W := 0) (rmptc3_1 l Z a0 hw [] x1_329 kb1_329 v1 (lo1 v0) (hi1 v0) (0 : Int32) (0 : Int32) (0 : Int32) (0 : Int32) T334.heap n0 Z_338 V_a1_334 ge_x1_329 Ol_337 S__assertionsDisabled S_HI_BYTE_SHIFT S_LO_BYTE_SHIFT) hZ (wd hw 91) (wd hw 35) (by decide) (by decide)) (by rw [hml]; rfl) (argsL := [(.ref x1_329), (.int (1 : Int32)), (.int v1)]) (rest := []) (lenOf pd_2 rfl) rfl (nb rfl) (hb hby d4_20) rfl rfl (by decide) (by decide) fun T339 v339 L339 X339 hQ339 => ?_
  obtain ⟨rfl, Nq339, K339, V_a1_339⟩ := hQ339
  have N339 := Fr.app N334 Nq339
  have K_340 := K_335.trans K339 (allS (Or.inr sz_x1_329) all0)
  have V_a1_341 := V_a1_336.keep K339 (ninS ne_a1_x1_329 nin0)
  have Ol_342 := Ol_337.keep K339 (allS ge_x1_329 all0)
  have Z_343 := Nat.le_trans Z_338 K339.1
  refine Owe.iinc X339.here hx (hb hby d4_23) rfl (l' := #[.val (.ref a1), .val (.int (2 : Int32)), .val (.int (3 : Int32)), .val (.ref x1_329), .val (.int (1 : Int32))]) rfl ?_
  refine Owe.iinc X339.here hx (hb hby d4_26) rfl (l' := #[.val (.ref a1), .val (.int (2 : Int32)), .val (.int (3 : Int32)), .val (.ref x1_329), .val (.int (2 : Int32))]) rfl ?_
  refine Owe.goto X339.here hx (hb hby d4_29) (pc' := 8) (by decide) (by decide) ?_
  refine Owe.iload X339.here hx (hb hby d4_8) rfl ?_
  refine Owe.iloadN X339.here hx (hb hby d4_10) rfl ?_
  refine Owe.icmpNo X339.here hx (hb hby d4_11) rfl (tlt (by decide)).2.1 ?_
  refine Owe.aloadN X339.here hx (hb hby d4_14) rfl rfl ?_
  refine Owe.iload X339.here hx (hb hby d4_15) rfl ?_
  refine Owe.aloadN X339.here hx (hb hby d4_17) rfl rfl ?_
  refine Owe.iloadN X339.here hx (hb hby d4_18) rfl ?_
  refine Owe.caload X339 hx hZ rfl V_a1_341 (v := (.int v2)) (by decide) rfl (hb hby d4_19) rfl ?_
  refine Owe.stat X339 hx (y := Y3) hown (mvT hZ (wd hw 89)) (mvT hZ (wd hw 90)) (mvT hZ (wd hw 35)) (mvT hZ (wd hw 91)) (by decide) (backOf (W := 0) (rmptc3_2 l Z a0 hw [] x1_329 kb1_329 v2 (lo1 v0) (hi1 v0) (lo1 v1) (hi1 v1) (0 : Int32) (0 : Int32) T339.heap n0 Z_343 V_a1_339 ge_x1_329 Ol_342 S__assertionsDisabled S_HI_BYTE_SHIFT S_LO_BYTE_SHIFT) hZ (wd hw 91) (wd hw 35) (by decide) (by decide)) (by rw [hml]; rfl) (argsL := [(.ref x1_329), (.int (2 : Int32)), (.int v2)]) (rest := []) (lenOf pd_2 rfl) rfl (nb rfl) (hb hby d4_20) rfl rfl (by decide) (by decide) fun T344 v344 L344 X344 hQ344 => ?_
  obtain ⟨rfl, Nq344, K344, V_a1_344⟩ := hQ344
  have N344 := Fr.app N339 Nq344
  have K_345 := K_340.trans K344 (allS (Or.inr sz_x1_329) all0)
  have V_a1_346 := V_a1_341.keep K344 (ninS ne_a1_x1_329 nin0)
  have Ol_347 := Ol_342.keep K344 (allS ge_x1_329 all0)
  have Z_348 := Nat.le_trans Z_343 K344.1
  refine Owe.iinc X344.here hx (hb hby d4_23) rfl (l' := #[.val (.ref a1), .val (.int (3 : Int32)), .val (.int (3 : Int32)), .val (.ref x1_329), .val (.int (2 : Int32))]) rfl ?_
  refine Owe.iinc X344.here hx (hb hby d4_26) rfl (l' := #[.val (.ref a1), .val (.int (3 : Int32)), .val (.int (3 : Int32)), .val (.ref x1_329), .val (.int (3 : Int32))]) rfl ?_
  refine Owe.goto X344.here hx (hb hby d4_29) (pc' := 8) (by decide) (by decide) ?_
  refine Owe.iload X344.here hx (hb hby d4_8) rfl ?_
  refine Owe.iloadN X344.here hx (hb hby d4_10) rfl ?_
  refine Owe.icmpYes X344.here hx (hb hby d4_11) rfl (flt (by decide)).2.1 (pc' := 32) (by decide) (by decide) ?_
  refine Owe.aloadN X344.here hx (hb hby d4_32) rfl rfl ?_
  refine Owe.retR X344 hx hlk (t := (.array .byte)) hrt rfl rfl rfl (hb hby d4_33) rfl fun fs hE => ?_
  refine hG _ _ ⟨_, _, rfl, ?_, frameMono hE (by decide) (by decide)⟩
  show Qtob3 Z a1 k1 v0 v1 v2 h0 n0 _ T344.heap _
  exact ⟨x1_329, kb1_329, rfl, N344, K_345, ge_x1_329, sz_x1_329, V_a1_344⟩
theorem ef_cmi3_0 (m : MethodId) (x0 : Addr) (x1 : Int32) (x2 : Addr) (x3 : Int32) (x4 : Int32)  : entryFrame m #[(.ref x0), (.int x1), (.ref x2), (.int x3), (.int x4)] 7 = mkF m 0 #[.val (.ref x0), .val (.int x1), .val (.ref x2), .val (.int x3), .val (.int x4), .unset, .unset] [] := by first | (simp [entryFrame, mkF, argsToLocals, Value.category]; done) | rfl
def Qcmi3_0 (Z : State) (a1 : Addr) (k1 : ClassId) (a2 : Addr) (k2 : ClassId) (v0 : Int32) (v1 : Int32) (v2 : Int32) (h0 : Heap) (n0 : Nat) (v : Option Value) (h : Heap) (L : List Loc) : Prop := v = some (.int (0 : Int32)) ∧ Fr n0 L ∧ Keep h0 h [a2]
set_option maxRecDepth 65536 in
set_option maxHeartbeats 40000000 in
theorem rmcmi3_0 (l : Launch) (Z : State) (a0 : Array Value) (hw : Hw Z a0) (ws : List Jvm.Cond) (a1 : Addr) (k1 : ClassId) (a2 : Addr) (k2 : ClassId) (v0 : Int32) (v1 : Int32) (v2 : Int32) (h0 : Heap) (n0 : Nat) (Z0 : n0 ≤ h0.size) (V_a1 : Arv Z h0 a1 k1 .char (3 : Int32) [(.int v0), (.int v1), (.int v2)] (.int (0 : Int32))) (V_a2 : Arv Z h0 a2 k2 .byte (3 : Int32) [(.int (0 : Int32)), (.int (0 : Int32)), (.int (0 : Int32))] (.int (0 : Int32))) (ge_a2 : n0 ≤ a2) (ne_a1_a2 : a1 ≠ a2) (hg : (255 : Int32) < v0) :
    MF l Z Y5 jdk_52_method_21_code 7 (some .int) ws ({ frames := 0, cells := 0, slots := 0, locals := 0 } : Room) #[(.ref a1), (.int (0 : Int32)), (.ref a2), (.int (0 : Int32)), (.int (3 : Int32))] h0 (Qcmi3_0 Z a1 k1 a2 k2 v0 v1 v2 h0 n0) := by
  refine MF.of pn_0 (fun m => ef_cmi3_0 m a1 (0 : Int32) a2 (0 : Int32) (3 : Int32)) ?_
  intro p e s m below meth c s₁ G X0 e0 hx hby hml hown hnm hlk hrt hZ hnd hG
  have N0 := Fr.nil n0
  have K0 := Keep.refl h0 [a2]
  refine Owe.iconst X0.here hx (hb hby d5_0) (w := (0 : Int32)) rfl ?_
  refine Owe.istore X0.here hx (hb hby d5_1) rfl (l' := #[.val (.ref a1), .val (.int (0 : Int32)), .val (.ref a2), .val (.int (0 : Int32)), .val (.int (3 : Int32)), .val (.int (0 : Int32)), .unset]) rfl ?_
  refine Owe.iload X0.here hx (hb hby d5_3) rfl ?_
  refine Owe.iload X0.here hx (hb hby d5_5) rfl ?_
  refine Owe.icmpNo X0.here hx (hb hby d5_7) rfl (tlt (by decide)).2.1 ?_
  refine Owe.aloadN X0.here hx (hb hby d5_10) rfl rfl ?_
  refine Owe.iloadN X0.here hx (hb hby d5_11) rfl ?_
  refine Owe.caload X0 hx hZ e0 V_a1 (v := (.int v0)) (by decide) rfl (hb hby d5_12) rfl ?_
  refine Owe.istore X0.here hx (hb hby d5_13) rfl (l' := #[.val (.ref a1), .val (.int (0 : Int32)), .val (.ref a2), .val (.int (0 : Int32)), .val (.int (3 : Int32)), .val (.int (0 : Int32)), .val (.int v0)]) rfl ?_
  refine Owe.iload X0.here hx (hb hby d5_15) rfl ?_
  refine Owe.sipush X0.here hx (hb hby d5_17) (w := (255 : Int32)) rfl ?_
  refine Owe.icmpNo X0.here hx (hb hby d5_20) rfl (tlt hg).2.2.2 ?_
  refine Owe.iload X0.here hx (hb hby d5_23) rfl ?_
  refine Owe.retI X0 hx hlk hrt (hb hby d5_25) rfl fun fs hE => ?_
  refine hG _ _ ⟨_, _, rfl, ?_, frameMono hE (by decide) (by decide)⟩
  show Qcmi3_0 Z a1 k1 a2 k2 v0 v1 v2 h0 n0 _ s₁.heap _
  rw [e0]
  exact ⟨rfl, N0, K0⟩
theorem ef_cmi3_1 (m : MethodId) (x0 : Addr) (x1 : Int32) (x2 : Addr) (x3 : Int32) (x4 : Int32)  : entryFrame m #[(.ref x0), (.int x1), (.ref x2), (.int x3), (.int x4)] 7 = mkF m 0 #[.val (.ref x0), .val (.int x1), .val (.ref x2), .val (.int x3), .val (.int x4), .unset, .unset] [] := by first | (simp [entryFrame, mkF, argsToLocals, Value.category]; done) | rfl
def Qcmi3_1 (Z : State) (a1 : Addr) (k1 : ClassId) (a2 : Addr) (k2 : ClassId) (v0 : Int32) (v1 : Int32) (v2 : Int32) (h0 : Heap) (n0 : Nat) (v : Option Value) (h : Heap) (L : List Loc) : Prop := v = some (.int (1 : Int32)) ∧ Fr n0 L ∧ Keep h0 h [a2]
set_option maxRecDepth 65536 in
set_option maxHeartbeats 40000000 in
theorem rmcmi3_1 (l : Launch) (Z : State) (a0 : Array Value) (hw : Hw Z a0) (ws : List Jvm.Cond) (a1 : Addr) (k1 : ClassId) (a2 : Addr) (k2 : ClassId) (v0 : Int32) (v1 : Int32) (v2 : Int32) (h0 : Heap) (n0 : Nat) (Z0 : n0 ≤ h0.size) (V_a1 : Arv Z h0 a1 k1 .char (3 : Int32) [(.int v0), (.int v1), (.int v2)] (.int (0 : Int32))) (V_a2 : Arv Z h0 a2 k2 .byte (3 : Int32) [(.int (0 : Int32)), (.int (0 : Int32)), (.int (0 : Int32))] (.int (0 : Int32))) (ge_a2 : n0 ≤ a2) (ne_a1_a2 : a1 ≠ a2) (hl0 : ¬ (255 : Int32) < v0) (hg : (255 : Int32) < v1) :
    MF l Z Y5 jdk_52_method_21_code 7 (some .int) ws ({ frames := 0, cells := 0, slots := 0, locals := 0 } : Room) #[(.ref a1), (.int (0 : Int32)), (.ref a2), (.int (0 : Int32)), (.int (3 : Int32))] h0 (Qcmi3_1 Z a1 k1 a2 k2 v0 v1 v2 h0 n0) := by
  refine MF.of pn_0 (fun m => ef_cmi3_1 m a1 (0 : Int32) a2 (0 : Int32) (3 : Int32)) ?_
  intro p e s m below meth c s₁ G X0 e0 hx hby hml hown hnm hlk hrt hZ hnd hG
  have N0 := Fr.nil n0
  have K0 := Keep.refl h0 [a2]
  refine Owe.iconst X0.here hx (hb hby d5_0) (w := (0 : Int32)) rfl ?_
  refine Owe.istore X0.here hx (hb hby d5_1) rfl (l' := #[.val (.ref a1), .val (.int (0 : Int32)), .val (.ref a2), .val (.int (0 : Int32)), .val (.int (3 : Int32)), .val (.int (0 : Int32)), .unset]) rfl ?_
  refine Owe.iload X0.here hx (hb hby d5_3) rfl ?_
  refine Owe.iload X0.here hx (hb hby d5_5) rfl ?_
  refine Owe.icmpNo X0.here hx (hb hby d5_7) rfl (tlt (by decide)).2.1 ?_
  refine Owe.aloadN X0.here hx (hb hby d5_10) rfl rfl ?_
  refine Owe.iloadN X0.here hx (hb hby d5_11) rfl ?_
  refine Owe.caload X0 hx hZ e0 V_a1 (v := (.int v0)) (by decide) rfl (hb hby d5_12) rfl ?_
  refine Owe.istore X0.here hx (hb hby d5_13) rfl (l' := #[.val (.ref a1), .val (.int (0 : Int32)), .val (.ref a2), .val (.int (0 : Int32)), .val (.int (3 : Int32)), .val (.int (0 : Int32)), .val (.int v0)]) rfl ?_
  refine Owe.iload X0.here hx (hb hby d5_15) rfl ?_
  refine Owe.sipush X0.here hx (hb hby d5_17) (w := (255 : Int32)) rfl ?_
  refine Owe.icmpYes X0.here hx (hb hby d5_20) rfl (flt hl0).2.2.2 (pc' := 26) (by decide) (by decide) ?_
  refine Owe.aloadN X0.here hx (hb hby d5_26) rfl rfl ?_
  refine Owe.iloadN X0.here hx (hb hby d5_27) rfl ?_
  refine Owe.iload X0.here hx (hb hby d5_28) rfl ?_
  refine Owe.i2b X0.here hx (hb hby d5_30) rfl ?_
  refine Owe.bastore X0 hx hZ e0 V_a2 (x := (v0.toInt8.toInt32)) 0 rfl (nb rfl) (by decide) (hb hby d5_31) rfl fun T349 h349 X349 e349 W349 (V349 : Arv Z h349 a2 k2 .byte (3 : Int32) [(.int ((v0.toInt8.toInt32).toInt8.toInt32)), (.int (0 : Int32)), (.int (0 : Int32))] (.int (0 : Int32))) => ?_
  have K_350 := K0.wr W349 (Or.inl (List.mem_of_getElem? (i := 0) rfl))
  have V_a1_351 := V_a1.other W349 ne_a1_a2
  have Z_352 := Nat.le_trans Z0 (Keep.of_wr W349).1
  have N349 := Fr.snoc X349 N0 ge_a2
  refine Owe.iinc X349.here hx (hb hby d5_32) rfl (l' := #[.val (.ref a1), .val (.int (1 : Int32)), .val (.ref a2), .val (.int (0 : Int32)), .val (.int (3 : Int32)), .val (.int (0 : Int32)), .val (.int v0)]) rfl ?_
  refine Owe.iinc X349.here hx (hb hby d5_35) rfl (l' := #[.val (.ref a1), .val (.int (1 : Int32)), .val (.ref a2), .val (.int (1 : Int32)), .val (.int (3 : Int32)), .val (.int (0 : Int32)), .val (.int v0)]) rfl ?_
  refine Owe.iinc X349.here hx (hb hby d5_38) rfl (l' := #[.val (.ref a1), .val (.int (1 : Int32)), .val (.ref a2), .val (.int (1 : Int32)), .val (.int (3 : Int32)), .val (.int (1 : Int32)), .val (.int v0)]) rfl ?_
  refine Owe.goto X349.here hx (hb hby d5_41) (pc' := 3) (by decide) (by decide) ?_
  refine Owe.iload X349.here hx (hb hby d5_3) rfl ?_
  refine Owe.iload X349.here hx (hb hby d5_5) rfl ?_
  refine Owe.icmpNo X349.here hx (hb hby d5_7) rfl (tlt (by decide)).2.1 ?_
  refine Owe.aloadN X349.here hx (hb hby d5_10) rfl rfl ?_
  refine Owe.iloadN X349.here hx (hb hby d5_11) rfl ?_
  refine Owe.caload X349 hx hZ e349 V_a1_351 (v := (.int v1)) (by decide) rfl (hb hby d5_12) rfl ?_
  refine Owe.istore X349.here hx (hb hby d5_13) rfl (l' := #[.val (.ref a1), .val (.int (1 : Int32)), .val (.ref a2), .val (.int (1 : Int32)), .val (.int (3 : Int32)), .val (.int (1 : Int32)), .val (.int v1)]) rfl ?_
  refine Owe.iload X349.here hx (hb hby d5_15) rfl ?_
  refine Owe.sipush X349.here hx (hb hby d5_17) (w := (255 : Int32)) rfl ?_
  refine Owe.icmpNo X349.here hx (hb hby d5_20) rfl (tlt hg).2.2.2 ?_
  refine Owe.iload X349.here hx (hb hby d5_23) rfl ?_
  refine Owe.retI X349 hx hlk hrt (hb hby d5_25) rfl fun fs hE => ?_
  refine hG _ _ ⟨_, _, rfl, ?_, frameMono hE (by decide) (by decide)⟩
  show Qcmi3_1 Z a1 k1 a2 k2 v0 v1 v2 h0 n0 _ T349.heap _
  rw [e349]
  exact ⟨rfl, N349, K_350⟩
theorem ef_cmi3_2 (m : MethodId) (x0 : Addr) (x1 : Int32) (x2 : Addr) (x3 : Int32) (x4 : Int32)  : entryFrame m #[(.ref x0), (.int x1), (.ref x2), (.int x3), (.int x4)] 7 = mkF m 0 #[.val (.ref x0), .val (.int x1), .val (.ref x2), .val (.int x3), .val (.int x4), .unset, .unset] [] := by first | (simp [entryFrame, mkF, argsToLocals, Value.category]; done) | rfl
def Qcmi3_2 (Z : State) (a1 : Addr) (k1 : ClassId) (a2 : Addr) (k2 : ClassId) (v0 : Int32) (v1 : Int32) (v2 : Int32) (h0 : Heap) (n0 : Nat) (v : Option Value) (h : Heap) (L : List Loc) : Prop := v = some (.int (2 : Int32)) ∧ Fr n0 L ∧ Keep h0 h [a2]
set_option maxRecDepth 65536 in
set_option maxHeartbeats 40000000 in
theorem rmcmi3_2 (l : Launch) (Z : State) (a0 : Array Value) (hw : Hw Z a0) (ws : List Jvm.Cond) (a1 : Addr) (k1 : ClassId) (a2 : Addr) (k2 : ClassId) (v0 : Int32) (v1 : Int32) (v2 : Int32) (h0 : Heap) (n0 : Nat) (Z0 : n0 ≤ h0.size) (V_a1 : Arv Z h0 a1 k1 .char (3 : Int32) [(.int v0), (.int v1), (.int v2)] (.int (0 : Int32))) (V_a2 : Arv Z h0 a2 k2 .byte (3 : Int32) [(.int (0 : Int32)), (.int (0 : Int32)), (.int (0 : Int32))] (.int (0 : Int32))) (ge_a2 : n0 ≤ a2) (ne_a1_a2 : a1 ≠ a2) (hl0 : ¬ (255 : Int32) < v0) (hl1 : ¬ (255 : Int32) < v1) (hg : (255 : Int32) < v2) :
    MF l Z Y5 jdk_52_method_21_code 7 (some .int) ws ({ frames := 0, cells := 0, slots := 0, locals := 0 } : Room) #[(.ref a1), (.int (0 : Int32)), (.ref a2), (.int (0 : Int32)), (.int (3 : Int32))] h0 (Qcmi3_2 Z a1 k1 a2 k2 v0 v1 v2 h0 n0) := by
  refine MF.of pn_0 (fun m => ef_cmi3_2 m a1 (0 : Int32) a2 (0 : Int32) (3 : Int32)) ?_
  intro p e s m below meth c s₁ G X0 e0 hx hby hml hown hnm hlk hrt hZ hnd hG
  have N0 := Fr.nil n0
  have K0 := Keep.refl h0 [a2]
  refine Owe.iconst X0.here hx (hb hby d5_0) (w := (0 : Int32)) rfl ?_
  refine Owe.istore X0.here hx (hb hby d5_1) rfl (l' := #[.val (.ref a1), .val (.int (0 : Int32)), .val (.ref a2), .val (.int (0 : Int32)), .val (.int (3 : Int32)), .val (.int (0 : Int32)), .unset]) rfl ?_
  refine Owe.iload X0.here hx (hb hby d5_3) rfl ?_
  refine Owe.iload X0.here hx (hb hby d5_5) rfl ?_
  refine Owe.icmpNo X0.here hx (hb hby d5_7) rfl (tlt (by decide)).2.1 ?_
  refine Owe.aloadN X0.here hx (hb hby d5_10) rfl rfl ?_
  refine Owe.iloadN X0.here hx (hb hby d5_11) rfl ?_
  refine Owe.caload X0 hx hZ e0 V_a1 (v := (.int v0)) (by decide) rfl (hb hby d5_12) rfl ?_
  refine Owe.istore X0.here hx (hb hby d5_13) rfl (l' := #[.val (.ref a1), .val (.int (0 : Int32)), .val (.ref a2), .val (.int (0 : Int32)), .val (.int (3 : Int32)), .val (.int (0 : Int32)), .val (.int v0)]) rfl ?_
  refine Owe.iload X0.here hx (hb hby d5_15) rfl ?_
  refine Owe.sipush X0.here hx (hb hby d5_17) (w := (255 : Int32)) rfl ?_
  refine Owe.icmpYes X0.here hx (hb hby d5_20) rfl (flt hl0).2.2.2 (pc' := 26) (by decide) (by decide) ?_
  refine Owe.aloadN X0.here hx (hb hby d5_26) rfl rfl ?_
  refine Owe.iloadN X0.here hx (hb hby d5_27) rfl ?_
  refine Owe.iload X0.here hx (hb hby d5_28) rfl ?_
  refine Owe.i2b X0.here hx (hb hby d5_30) rfl ?_
  refine Owe.bastore X0 hx hZ e0 V_a2 (x := (v0.toInt8.toInt32)) 0 rfl (nb rfl) (by decide) (hb hby d5_31) rfl fun T353 h353 X353 e353 W353 (V353 : Arv Z h353 a2 k2 .byte (3 : Int32) [(.int ((v0.toInt8.toInt32).toInt8.toInt32)), (.int (0 : Int32)), (.int (0 : Int32))] (.int (0 : Int32))) => ?_
  have K_354 := K0.wr W353 (Or.inl (List.mem_of_getElem? (i := 0) rfl))
  have V_a1_355 := V_a1.other W353 ne_a1_a2
  have Z_356 := Nat.le_trans Z0 (Keep.of_wr W353).1
  have N353 := Fr.snoc X353 N0 ge_a2
  refine Owe.iinc X353.here hx (hb hby d5_32) rfl (l' := #[.val (.ref a1), .val (.int (1 : Int32)), .val (.ref a2), .val (.int (0 : Int32)), .val (.int (3 : Int32)), .val (.int (0 : Int32)), .val (.int v0)]) rfl ?_
  refine Owe.iinc X353.here hx (hb hby d5_35) rfl (l' := #[.val (.ref a1), .val (.int (1 : Int32)), .val (.ref a2), .val (.int (1 : Int32)), .val (.int (3 : Int32)), .val (.int (0 : Int32)), .val (.int v0)]) rfl ?_
  refine Owe.iinc X353.here hx (hb hby d5_38) rfl (l' := #[.val (.ref a1), .val (.int (1 : Int32)), .val (.ref a2), .val (.int (1 : Int32)), .val (.int (3 : Int32)), .val (.int (1 : Int32)), .val (.int v0)]) rfl ?_
  refine Owe.goto X353.here hx (hb hby d5_41) (pc' := 3) (by decide) (by decide) ?_
  refine Owe.iload X353.here hx (hb hby d5_3) rfl ?_
  refine Owe.iload X353.here hx (hb hby d5_5) rfl ?_
  refine Owe.icmpNo X353.here hx (hb hby d5_7) rfl (tlt (by decide)).2.1 ?_
  refine Owe.aloadN X353.here hx (hb hby d5_10) rfl rfl ?_
  refine Owe.iloadN X353.here hx (hb hby d5_11) rfl ?_
  refine Owe.caload X353 hx hZ e353 V_a1_355 (v := (.int v1)) (by decide) rfl (hb hby d5_12) rfl ?_
  refine Owe.istore X353.here hx (hb hby d5_13) rfl (l' := #[.val (.ref a1), .val (.int (1 : Int32)), .val (.ref a2), .val (.int (1 : Int32)), .val (.int (3 : Int32)), .val (.int (1 : Int32)), .val (.int v1)]) rfl ?_
  refine Owe.iload X353.here hx (hb hby d5_15) rfl ?_
  refine Owe.sipush X353.here hx (hb hby d5_17) (w := (255 : Int32)) rfl ?_
  refine Owe.icmpYes X353.here hx (hb hby d5_20) rfl (flt hl1).2.2.2 (pc' := 26) (by decide) (by decide) ?_
  refine Owe.aloadN X353.here hx (hb hby d5_26) rfl rfl ?_
  refine Owe.iloadN X353.here hx (hb hby d5_27) rfl ?_
  refine Owe.iload X353.here hx (hb hby d5_28) rfl ?_
  refine Owe.i2b X353.here hx (hb hby d5_30) rfl ?_
  refine Owe.bastore X353 hx hZ e353 V353 (x := (v1.toInt8.toInt32)) 1 rfl (nb rfl) (by decide) (hb hby d5_31) rfl fun T357 h357 X357 e357 W357 (V357 : Arv Z h357 a2 k2 .byte (3 : Int32) [(.int ((v0.toInt8.toInt32).toInt8.toInt32)), (.int ((v1.toInt8.toInt32).toInt8.toInt32)), (.int (0 : Int32))] (.int (0 : Int32))) => ?_
  have K_358 := K_354.wr W357 (Or.inl (List.mem_of_getElem? (i := 0) rfl))
  have V_a1_359 := V_a1_355.other W357 ne_a1_a2
  have Z_360 := Nat.le_trans Z_356 (Keep.of_wr W357).1
  have N357 := Fr.snoc X357 N353 ge_a2
  refine Owe.iinc X357.here hx (hb hby d5_32) rfl (l' := #[.val (.ref a1), .val (.int (2 : Int32)), .val (.ref a2), .val (.int (1 : Int32)), .val (.int (3 : Int32)), .val (.int (1 : Int32)), .val (.int v1)]) rfl ?_
  refine Owe.iinc X357.here hx (hb hby d5_35) rfl (l' := #[.val (.ref a1), .val (.int (2 : Int32)), .val (.ref a2), .val (.int (2 : Int32)), .val (.int (3 : Int32)), .val (.int (1 : Int32)), .val (.int v1)]) rfl ?_
  refine Owe.iinc X357.here hx (hb hby d5_38) rfl (l' := #[.val (.ref a1), .val (.int (2 : Int32)), .val (.ref a2), .val (.int (2 : Int32)), .val (.int (3 : Int32)), .val (.int (2 : Int32)), .val (.int v1)]) rfl ?_
  refine Owe.goto X357.here hx (hb hby d5_41) (pc' := 3) (by decide) (by decide) ?_
  refine Owe.iload X357.here hx (hb hby d5_3) rfl ?_
  refine Owe.iload X357.here hx (hb hby d5_5) rfl ?_
  refine Owe.icmpNo X357.here hx (hb hby d5_7) rfl (tlt (by decide)).2.1 ?_
  refine Owe.aloadN X357.here hx (hb hby d5_10) rfl rfl ?_
  refine Owe.iloadN X357.here hx (hb hby d5_11) rfl ?_
  refine Owe.caload X357 hx hZ e357 V_a1_359 (v := (.int v2)) (by decide) rfl (hb hby d5_12) rfl ?_
  refine Owe.istore X357.here hx (hb hby d5_13) rfl (l' := #[.val (.ref a1), .val (.int (2 : Int32)), .val (.ref a2), .val (.int (2 : Int32)), .val (.int (3 : Int32)), .val (.int (2 : Int32)), .val (.int v2)]) rfl ?_
  refine Owe.iload X357.here hx (hb hby d5_15) rfl ?_
  refine Owe.sipush X357.here hx (hb hby d5_17) (w := (255 : Int32)) rfl ?_
  refine Owe.icmpNo X357.here hx (hb hby d5_20) rfl (tlt hg).2.2.2 ?_
  refine Owe.iload X357.here hx (hb hby d5_23) rfl ?_
  refine Owe.retI X357 hx hlk hrt (hb hby d5_25) rfl fun fs hE => ?_
  refine hG _ _ ⟨_, _, rfl, ?_, frameMono hE (by decide) (by decide)⟩
  show Qcmi3_2 Z a1 k1 a2 k2 v0 v1 v2 h0 n0 _ T357.heap _
  rw [e357]
  exact ⟨rfl, N357, K_358⟩
theorem ef_cmi3_3 (m : MethodId) (x0 : Addr) (x1 : Int32) (x2 : Addr) (x3 : Int32) (x4 : Int32)  : entryFrame m #[(.ref x0), (.int x1), (.ref x2), (.int x3), (.int x4)] 7 = mkF m 0 #[.val (.ref x0), .val (.int x1), .val (.ref x2), .val (.int x3), .val (.int x4), .unset, .unset] [] := by first | (simp [entryFrame, mkF, argsToLocals, Value.category]; done) | rfl
def Qcmi3_3 (Z : State) (a1 : Addr) (k1 : ClassId) (a2 : Addr) (k2 : ClassId) (v0 : Int32) (v1 : Int32) (v2 : Int32) (h0 : Heap) (n0 : Nat) (v : Option Value) (h : Heap) (L : List Loc) : Prop := v = some (.int (3 : Int32)) ∧ Fr n0 L ∧ Keep h0 h [a2] ∧ Arv Z h a2 k2 .byte (3 : Int32) [(.int (la1 v0)), (.int (la1 v1)), (.int (la1 v2))] (.int (0 : Int32))
set_option maxRecDepth 65536 in
set_option maxHeartbeats 40000000 in
theorem rmcmi3_3 (l : Launch) (Z : State) (a0 : Array Value) (hw : Hw Z a0) (ws : List Jvm.Cond) (a1 : Addr) (k1 : ClassId) (a2 : Addr) (k2 : ClassId) (v0 : Int32) (v1 : Int32) (v2 : Int32) (h0 : Heap) (n0 : Nat) (Z0 : n0 ≤ h0.size) (V_a1 : Arv Z h0 a1 k1 .char (3 : Int32) [(.int v0), (.int v1), (.int v2)] (.int (0 : Int32))) (V_a2 : Arv Z h0 a2 k2 .byte (3 : Int32) [(.int (0 : Int32)), (.int (0 : Int32)), (.int (0 : Int32))] (.int (0 : Int32))) (ge_a2 : n0 ≤ a2) (ne_a1_a2 : a1 ≠ a2) (hl0 : ¬ (255 : Int32) < v0) (hl1 : ¬ (255 : Int32) < v1) (hl2 : ¬ (255 : Int32) < v2) :
    MF l Z Y5 jdk_52_method_21_code 7 (some .int) ws ({ frames := 0, cells := 0, slots := 0, locals := 0 } : Room) #[(.ref a1), (.int (0 : Int32)), (.ref a2), (.int (0 : Int32)), (.int (3 : Int32))] h0 (Qcmi3_3 Z a1 k1 a2 k2 v0 v1 v2 h0 n0) := by
  refine MF.of pn_0 (fun m => ef_cmi3_3 m a1 (0 : Int32) a2 (0 : Int32) (3 : Int32)) ?_
  intro p e s m below meth c s₁ G X0 e0 hx hby hml hown hnm hlk hrt hZ hnd hG
  have N0 := Fr.nil n0
  have K0 := Keep.refl h0 [a2]
  refine Owe.iconst X0.here hx (hb hby d5_0) (w := (0 : Int32)) rfl ?_
  refine Owe.istore X0.here hx (hb hby d5_1) rfl (l' := #[.val (.ref a1), .val (.int (0 : Int32)), .val (.ref a2), .val (.int (0 : Int32)), .val (.int (3 : Int32)), .val (.int (0 : Int32)), .unset]) rfl ?_
  refine Owe.iload X0.here hx (hb hby d5_3) rfl ?_
  refine Owe.iload X0.here hx (hb hby d5_5) rfl ?_
  refine Owe.icmpNo X0.here hx (hb hby d5_7) rfl (tlt (by decide)).2.1 ?_
  refine Owe.aloadN X0.here hx (hb hby d5_10) rfl rfl ?_
  refine Owe.iloadN X0.here hx (hb hby d5_11) rfl ?_
  refine Owe.caload X0 hx hZ e0 V_a1 (v := (.int v0)) (by decide) rfl (hb hby d5_12) rfl ?_
  refine Owe.istore X0.here hx (hb hby d5_13) rfl (l' := #[.val (.ref a1), .val (.int (0 : Int32)), .val (.ref a2), .val (.int (0 : Int32)), .val (.int (3 : Int32)), .val (.int (0 : Int32)), .val (.int v0)]) rfl ?_
  refine Owe.iload X0.here hx (hb hby d5_15) rfl ?_
  refine Owe.sipush X0.here hx (hb hby d5_17) (w := (255 : Int32)) rfl ?_
  refine Owe.icmpYes X0.here hx (hb hby d5_20) rfl (flt hl0).2.2.2 (pc' := 26) (by decide) (by decide) ?_
  refine Owe.aloadN X0.here hx (hb hby d5_26) rfl rfl ?_
  refine Owe.iloadN X0.here hx (hb hby d5_27) rfl ?_
  refine Owe.iload X0.here hx (hb hby d5_28) rfl ?_
  refine Owe.i2b X0.here hx (hb hby d5_30) rfl ?_
  refine Owe.bastore X0 hx hZ e0 V_a2 (x := (v0.toInt8.toInt32)) 0 rfl (nb rfl) (by decide) (hb hby d5_31) rfl fun T361 h361 X361 e361 W361 (V361 : Arv Z h361 a2 k2 .byte (3 : Int32) [(.int ((v0.toInt8.toInt32).toInt8.toInt32)), (.int (0 : Int32)), (.int (0 : Int32))] (.int (0 : Int32))) => ?_
  have K_362 := K0.wr W361 (Or.inl (List.mem_of_getElem? (i := 0) rfl))
  have V_a1_363 := V_a1.other W361 ne_a1_a2
  have Z_364 := Nat.le_trans Z0 (Keep.of_wr W361).1
  have N361 := Fr.snoc X361 N0 ge_a2
  refine Owe.iinc X361.here hx (hb hby d5_32) rfl (l' := #[.val (.ref a1), .val (.int (1 : Int32)), .val (.ref a2), .val (.int (0 : Int32)), .val (.int (3 : Int32)), .val (.int (0 : Int32)), .val (.int v0)]) rfl ?_
  refine Owe.iinc X361.here hx (hb hby d5_35) rfl (l' := #[.val (.ref a1), .val (.int (1 : Int32)), .val (.ref a2), .val (.int (1 : Int32)), .val (.int (3 : Int32)), .val (.int (0 : Int32)), .val (.int v0)]) rfl ?_
  refine Owe.iinc X361.here hx (hb hby d5_38) rfl (l' := #[.val (.ref a1), .val (.int (1 : Int32)), .val (.ref a2), .val (.int (1 : Int32)), .val (.int (3 : Int32)), .val (.int (1 : Int32)), .val (.int v0)]) rfl ?_
  refine Owe.goto X361.here hx (hb hby d5_41) (pc' := 3) (by decide) (by decide) ?_
  refine Owe.iload X361.here hx (hb hby d5_3) rfl ?_
  refine Owe.iload X361.here hx (hb hby d5_5) rfl ?_
  refine Owe.icmpNo X361.here hx (hb hby d5_7) rfl (tlt (by decide)).2.1 ?_
  refine Owe.aloadN X361.here hx (hb hby d5_10) rfl rfl ?_
  refine Owe.iloadN X361.here hx (hb hby d5_11) rfl ?_
  refine Owe.caload X361 hx hZ e361 V_a1_363 (v := (.int v1)) (by decide) rfl (hb hby d5_12) rfl ?_
  refine Owe.istore X361.here hx (hb hby d5_13) rfl (l' := #[.val (.ref a1), .val (.int (1 : Int32)), .val (.ref a2), .val (.int (1 : Int32)), .val (.int (3 : Int32)), .val (.int (1 : Int32)), .val (.int v1)]) rfl ?_
  refine Owe.iload X361.here hx (hb hby d5_15) rfl ?_
  refine Owe.sipush X361.here hx (hb hby d5_17) (w := (255 : Int32)) rfl ?_
  refine Owe.icmpYes X361.here hx (hb hby d5_20) rfl (flt hl1).2.2.2 (pc' := 26) (by decide) (by decide) ?_
  refine Owe.aloadN X361.here hx (hb hby d5_26) rfl rfl ?_
  refine Owe.iloadN X361.here hx (hb hby d5_27) rfl ?_
  refine Owe.iload X361.here hx (hb hby d5_28) rfl ?_
  refine Owe.i2b X361.here hx (hb hby d5_30) rfl ?_
  refine Owe.bastore X361 hx hZ e361 V361 (x := (v1.toInt8.toInt32)) 1 rfl (nb rfl) (by decide) (hb hby d5_31) rfl fun T365 h365 X365 e365 W365 (V365 : Arv Z h365 a2 k2 .byte (3 : Int32) [(.int ((v0.toInt8.toInt32).toInt8.toInt32)), (.int ((v1.toInt8.toInt32).toInt8.toInt32)), (.int (0 : Int32))] (.int (0 : Int32))) => ?_
  have K_366 := K_362.wr W365 (Or.inl (List.mem_of_getElem? (i := 0) rfl))
  have V_a1_367 := V_a1_363.other W365 ne_a1_a2
  have Z_368 := Nat.le_trans Z_364 (Keep.of_wr W365).1
  have N365 := Fr.snoc X365 N361 ge_a2
  refine Owe.iinc X365.here hx (hb hby d5_32) rfl (l' := #[.val (.ref a1), .val (.int (2 : Int32)), .val (.ref a2), .val (.int (1 : Int32)), .val (.int (3 : Int32)), .val (.int (1 : Int32)), .val (.int v1)]) rfl ?_
  refine Owe.iinc X365.here hx (hb hby d5_35) rfl (l' := #[.val (.ref a1), .val (.int (2 : Int32)), .val (.ref a2), .val (.int (2 : Int32)), .val (.int (3 : Int32)), .val (.int (1 : Int32)), .val (.int v1)]) rfl ?_
  refine Owe.iinc X365.here hx (hb hby d5_38) rfl (l' := #[.val (.ref a1), .val (.int (2 : Int32)), .val (.ref a2), .val (.int (2 : Int32)), .val (.int (3 : Int32)), .val (.int (2 : Int32)), .val (.int v1)]) rfl ?_
  refine Owe.goto X365.here hx (hb hby d5_41) (pc' := 3) (by decide) (by decide) ?_
  refine Owe.iload X365.here hx (hb hby d5_3) rfl ?_
  refine Owe.iload X365.here hx (hb hby d5_5) rfl ?_
  refine Owe.icmpNo X365.here hx (hb hby d5_7) rfl (tlt (by decide)).2.1 ?_
  refine Owe.aloadN X365.here hx (hb hby d5_10) rfl rfl ?_
  refine Owe.iloadN X365.here hx (hb hby d5_11) rfl ?_
  refine Owe.caload X365 hx hZ e365 V_a1_367 (v := (.int v2)) (by decide) rfl (hb hby d5_12) rfl ?_
  refine Owe.istore X365.here hx (hb hby d5_13) rfl (l' := #[.val (.ref a1), .val (.int (2 : Int32)), .val (.ref a2), .val (.int (2 : Int32)), .val (.int (3 : Int32)), .val (.int (2 : Int32)), .val (.int v2)]) rfl ?_
  refine Owe.iload X365.here hx (hb hby d5_15) rfl ?_
  refine Owe.sipush X365.here hx (hb hby d5_17) (w := (255 : Int32)) rfl ?_
  refine Owe.icmpYes X365.here hx (hb hby d5_20) rfl (flt hl2).2.2.2 (pc' := 26) (by decide) (by decide) ?_
  refine Owe.aloadN X365.here hx (hb hby d5_26) rfl rfl ?_
  refine Owe.iloadN X365.here hx (hb hby d5_27) rfl ?_
  refine Owe.iload X365.here hx (hb hby d5_28) rfl ?_
  refine Owe.i2b X365.here hx (hb hby d5_30) rfl ?_
  refine Owe.bastore X365 hx hZ e365 V365 (x := (v2.toInt8.toInt32)) 2 rfl (nb rfl) (by decide) (hb hby d5_31) rfl fun T369 h369 X369 e369 W369 (V369 : Arv Z h369 a2 k2 .byte (3 : Int32) [(.int ((v0.toInt8.toInt32).toInt8.toInt32)), (.int ((v1.toInt8.toInt32).toInt8.toInt32)), (.int ((v2.toInt8.toInt32).toInt8.toInt32))] (.int (0 : Int32))) => ?_
  have K_370 := K_366.wr W369 (Or.inl (List.mem_of_getElem? (i := 0) rfl))
  have V_a1_371 := V_a1_367.other W369 ne_a1_a2
  have Z_372 := Nat.le_trans Z_368 (Keep.of_wr W369).1
  have N369 := Fr.snoc X369 N365 ge_a2
  refine Owe.iinc X369.here hx (hb hby d5_32) rfl (l' := #[.val (.ref a1), .val (.int (3 : Int32)), .val (.ref a2), .val (.int (2 : Int32)), .val (.int (3 : Int32)), .val (.int (2 : Int32)), .val (.int v2)]) rfl ?_
  refine Owe.iinc X369.here hx (hb hby d5_35) rfl (l' := #[.val (.ref a1), .val (.int (3 : Int32)), .val (.ref a2), .val (.int (3 : Int32)), .val (.int (3 : Int32)), .val (.int (2 : Int32)), .val (.int v2)]) rfl ?_
  refine Owe.iinc X369.here hx (hb hby d5_38) rfl (l' := #[.val (.ref a1), .val (.int (3 : Int32)), .val (.ref a2), .val (.int (3 : Int32)), .val (.int (3 : Int32)), .val (.int (3 : Int32)), .val (.int v2)]) rfl ?_
  refine Owe.goto X369.here hx (hb hby d5_41) (pc' := 3) (by decide) (by decide) ?_
  refine Owe.iload X369.here hx (hb hby d5_3) rfl ?_
  refine Owe.iload X369.here hx (hb hby d5_5) rfl ?_
  refine Owe.icmpYes X369.here hx (hb hby d5_7) rfl (flt (by decide)).2.1 (pc' := 44) (by decide) (by decide) ?_
  refine Owe.iload X369.here hx (hb hby d5_44) rfl ?_
  refine Owe.retI X369 hx hlk hrt (hb hby d5_46) rfl fun fs hE => ?_
  refine hG _ _ ⟨_, _, rfl, ?_, frameMono hE (by decide) (by decide)⟩
  show Qcmi3_3 Z a1 k1 a2 k2 v0 v1 v2 h0 n0 _ T369.heap _
  rw [e369]
  exact ⟨rfl, N369, K_370, V369⟩
theorem ef_cfa3_0 (m : MethodId) (x0 : Addr) (x1 : Int32)  : entryFrame m #[(.ref x0), (.int x1)] 2 = mkF m 0 #[.val (.ref x0), .val (.int x1)] [] := by first | (simp [entryFrame, mkF, argsToLocals, Value.category]; done) | rfl
def Qcfa3_0 (Z : State) (a1 : Addr) (k1 : ClassId) (vs : List Value) (h0 : Heap) (n0 : Nat) (v : Option Value) (h : Heap) (L : List Loc) : Prop := v = some (.int (0 : Int32)) ∧ Fr n0 L ∧ h = h0
set_option maxRecDepth 65536 in
set_option maxHeartbeats 40000000 in
theorem rmcfa3_0 (l : Launch) (Z : State) (a0 : Array Value) (hw : Hw Z a0) (ws : List Jvm.Cond) (a1 : Addr) (k1 : ClassId) (vs : List Value) (h0 : Heap) (n0 : Nat) (Z0 : n0 ≤ h0.size) (V_a1 : Arv Z h0 a1 k1 .byte (3 : Int32) vs (.int (0 : Int32))) :
    MF l Z Y6 jdk_52_method_15_code 2 (some .byte) ws ({ frames := 0, cells := 0, slots := 0, locals := 0 } : Room) #[(.ref a1), (.int (3 : Int32))] h0 (Qcfa3_0 Z a1 k1 vs h0 n0) := by
  refine MF.of pn_0 (fun m => ef_cfa3_0 m a1 (3 : Int32)) ?_
  intro p e s m below meth c s₁ G X0 e0 hx hby hml hown hnm hlk hrt hZ hnd hG
  have N0 := Fr.nil n0
  refine Owe.iloadN X0.here hx (hb hby d6_0) rfl ?_
  refine Owe.aloadN X0.here hx (hb hby d6_1) rfl rfl ?_
  refine Owe.arrlen X0 hx hZ e0 V_a1 (hb hby d6_2) rfl ?_
  refine Owe.isub X0.here hx (hb hby d6_3) rfl ?_
  refine Owe.bipush X0.here hx (hb hby d6_4) (w := (31 : Int32)) rfl ?_
  refine Owe.iushr X0.here hx (hb hby d6_6) rfl ?_
  refine Owe.i2b X0.here hx (hb hby d6_7) rfl ?_
  refine Owe.retN X0 hx hlk (t := .byte) hrt (by simp) (hb hby d6_8) rfl fun fs hE => ?_
  refine hG _ _ ⟨_, _, rfl, ?_, frameMono hE (by decide) (by decide)⟩
  show Qcfa3_0 Z a1 k1 vs h0 n0 _ s₁.heap _
  rw [e0]
  exact ⟨(congrArg (fun z => some (Value.int z)) (by decide)), N0, rfl⟩
theorem ef_cma3_0 (m : MethodId) (x0 : Addr) (x1 : Int32) (x2 : Int32)  : entryFrame m #[(.ref x0), (.int x1), (.int x2)] 6 = mkF m 0 #[.val (.ref x0), .val (.int x1), .val (.int x2), .unset, .unset, .unset] [] := by first | (simp [entryFrame, mkF, argsToLocals, Value.category]; done) | rfl
def Qcma3_0 (Z : State) (a1 : Addr) (k1 : ClassId) (v0 : Int32) (v1 : Int32) (v2 : Int32) (h0 : Heap) (n0 : Nat) (v : Option Value) (h : Heap) (L : List Loc) : Prop := ∃ (x1 : Addr), ∃ (kb1 : ClassId), v = some (.ref x1) ∧ Fr n0 L ∧ Keep h0 h [] ∧ n0 ≤ x1 ∧ h0.size ≤ x1 ∧ Arv Z h x1 kb1 .byte (3 : Int32) [(.int (la1 v0)), (.int (la1 v1)), (.int (la1 v2))] (.int (0 : Int32))
set_option maxRecDepth 65536 in
set_option maxHeartbeats 40000000 in
theorem rmcma3_0 (l : Launch) (Z : State) (a0 : Array Value) (hw : Hw Z a0) (ws : List Jvm.Cond) (a1 : Addr) (k1 : ClassId) (v0 : Int32) (v1 : Int32) (v2 : Int32) (h0 : Heap) (n0 : Nat) (Z0 : n0 ≤ h0.size) (V_a1 : Arv Z h0 a1 k1 .char (3 : Int32) [(.int v0), (.int v1), (.int v2)] (.int (0 : Int32))) (hl0 : ¬ (255 : Int32) < v0) (hl1 : ¬ (255 : Int32) < v1) (hl2 : ¬ (255 : Int32) < v2) (Ol : Old Z n0 h0) (S__assertionsDisabled : Sta Z Z.heap "java/lang/StringUTF16" "$assertionsDisabled" "Z" (.int (1 : Int32))) (S_HI_BYTE_SHIFT : Sta Z Z.heap "java/lang/StringUTF16" "HI_BYTE_SHIFT" "I" (.int (0 : Int32))) (S_LO_BYTE_SHIFT : Sta Z Z.heap "java/lang/StringUTF16" "LO_BYTE_SHIFT" "I" (.int (8 : Int32))) :
    MF l Z Y7 jdk_52_method_16_code 6 (some (.array .byte)) ws ({ frames := 3, cells := 2, slots := 9, locals := 40 } : Room) #[(.ref a1), (.int (0 : Int32)), (.int (3 : Int32))] h0 (Qcma3_0 Z a1 k1 v0 v1 v2 h0 n0) := by
  refine MF.of pn_0 (fun m => ef_cma3_0 m a1 (0 : Int32) (3 : Int32)) ?_
  intro p e s m below meth c s₁ G X0 e0 hx hby hml hown hnm hlk hrt hZ hnd hG
  have N0 := Fr.nil n0
  have K0 := Keep.refl h0 []
  refine Owe.iloadN X0.here hx (hb hby d7_0) rfl ?_
  refine Owe.newarr X0 hx hZ (aty := .byte) (wd hw 16) e0 (hb hby d7_1) rfl (by decide) (cap := 3) (by decide) (by decide) (by decide) (by decide) fun T373 h373 b373 k373 g373 X373 e373 E373 V373 => ?_
  have ne_a1_b373 : a1 ≠ b373 := Nat.ne_of_lt (Nat.lt_of_lt_of_le V_a1.lt (Nat.le_of_eq g373.symm))
  have sz_b373 := Nat.le_trans K0.1 (Nat.le_of_eq g373.symm)
  have ge_b373 := Nat.le_trans Z0 (Nat.le_of_eq g373.symm)
  have K_374 := K0.ext E373
  have V_a1_375 := V_a1.ext E373
  have Ol_376 := Ol.ext E373
  have Z_377 := Nat.le_trans Z0 E373.1
  have V_b373_373 : Arv Z h373 b373 k373 .byte (3 : Int32) [(.int (0 : Int32)), (.int (0 : Int32)), (.int (0 : Int32))] (.int (0 : Int32)) := V373.pad (pad_rep [] (.int (0 : Int32)) 3)
  refine Owe.astoreN X373.here hx (hb hby d7_3) rfl rfl (l' := #[.val (.ref a1), .val (.int (0 : Int32)), .val (.int (3 : Int32)), .val (.ref b373), .unset, .unset]) rfl ?_
  refine Owe.aloadN X373.here hx (hb hby d7_4) rfl rfl ?_
  refine Owe.iloadN X373.here hx (hb hby d7_5) rfl ?_
  refine Owe.aloadN X373.here hx (hb hby d7_6) rfl rfl ?_
  refine Owe.iconst X373.here hx (hb hby d7_7) (w := (0 : Int32)) rfl ?_
  refine Owe.iloadN X373.here hx (hb hby d7_8) rfl ?_
  refine Owe.stat X373 hx (y := Y5) hown (mvT hZ (wd hw 37)) (mvT hZ (wd hw 38)) (mvT hZ (wd hw 35)) (mvT hZ (wd hw 39)) (by decide) (backOf (W := 0) (rmcmi3_3 l Z a0 hw [] a1 k1 b373 k373 v0 v1 v2 h373 n0 Z_377 V_a1_375 V_b373_373 ge_b373 ne_a1_b373 hl0 hl1 hl2) hZ (wd hw 39) (wd hw 35) (by decide) (by decide)) (by rw [hml]; rfl) (argsL := [(.ref a1), (.int (0 : Int32)), (.ref b373), (.int (0 : Int32)), (.int (3 : Int32))]) (rest := []) (lenOf pd_3 rfl) rfl (nb rfl) (hb hby d7_9) rfl e373 (by decide) (by decide) fun T378 v378 L378 X378 hQ378 => ?_
  obtain ⟨rfl, Nq378, K378, V_a2_378⟩ := hQ378
  have N378 := Fr.app N0 Nq378
  have K_379 := K_374.trans K378 (allS (Or.inr sz_b373) all0)
  have V_a1_380 := V_a1_375.keep K378 (ninS ne_a1_b373 nin0)
  have Ol_381 := Ol_376.keep K378 (allS ge_b373 all0)
  have Z_382 := Nat.le_trans Z_377 K378.1
  refine Owe.istore X378.here hx (hb hby d7_12) rfl (l' := #[.val (.ref a1), .val (.int (0 : Int32)), .val (.int (3 : Int32)), .val (.ref b373), .val (.int (3 : Int32)), .unset]) rfl ?_
  refine Owe.iload X378.here hx (hb hby d7_14) rfl ?_
  refine Owe.iloadN X378.here hx (hb hby d7_16) rfl ?_
  refine Owe.icmpYes X378.here hx (hb hby d7_17) rfl (teq (by decide)).1 (pc' := 57) (by decide) (by decide) ?_
  refine Owe.aloadN X378.here hx (hb hby d7_57) rfl rfl ?_
  refine Owe.retR X378 hx hlk (t := (.array .byte)) hrt rfl rfl rfl (hb hby d7_58) rfl fun fs hE => ?_
  refine hG _ _ ⟨_, _, rfl, ?_, frameMono hE (by decide) (by decide)⟩
  show Qcma3_0 Z a1 k1 v0 v1 v2 h0 n0 _ T378.heap _
  exact ⟨b373, k373, rfl, N378, K_379, ge_b373, sz_b373, V_a2_378⟩
theorem ef_siv3_0 (m : MethodId) (x0 : Addr) (x1 : Addr) (x2 : Int32) (x3 : Int32)  : entryFrame m #[(.ref x0), (.ref x1), (.int x2), (.int x3), .null] 6 = mkF m 0 #[.val (.ref x0), .val (.ref x1), .val (.int x2), .val (.int x3), .val .null, .unset] [] := by first | (simp [entryFrame, mkF, argsToLocals, Value.category]; done) | rfl
def Qsiv3_0 (Z : State) (a0_ : Addr) (a1 : Addr) (k1 : ClassId) (v0 : Int32) (v1 : Int32) (v2 : Int32) (G1 : Int32) (h0 : Heap) (n0 : Nat) (v : Option Value) (h : Heap) (L : List Loc) : Prop := ∃ (b_ : Addr), ∃ (kb1 : ClassId), v = none ∧ Fr n0 L ∧ Keep h0 h [a0_] ∧ Exa Z h a0_ "java/lang/String" ∧ Fld Z h a0_ "java/lang/String" "value" "[B" (.ref b_) ∧ Fld Z h a0_ "java/lang/String" "coder" "B" (.int (0 : Int32)) ∧ Arv Z h b_ kb1 .byte (3 : Int32) [(.int (la1 v0)), (.int (la1 v1)), (.int (la1 v2))] (.int (0 : Int32))
set_option maxRecDepth 65536 in
set_option maxHeartbeats 40000000 in
theorem rmsiv3_0 (l : Launch) (Z : State) (a0 : Array Value) (hw : Hw Z a0) (ws : List Jvm.Cond) (a0_ : Addr) (a1 : Addr) (k1 : ClassId) (v0 : Int32) (v1 : Int32) (v2 : Int32) (G1 : Int32) (h0 : Heap) (n0 : Nat) (Z0 : n0 ≤ h0.size) (E_a0_ : Exa Z h0 a0_ "java/lang/String") (Fvalue_a0_ : Fld Z h0 a0_ "java/lang/String" "value" "[B" .null) (Fcoder_a0_ : Fld Z h0 a0_ "java/lang/String" "coder" "B" (.int (0 : Int32))) (ge_a0_ : n0 ≤ a0_) (V_a1 : Arv Z h0 a1 k1 .char (3 : Int32) [(.int v0), (.int v1), (.int v2)] (.int (0 : Int32))) (ne_a1_a0_ : a1 ≠ a0_) (hl0 : ¬ (255 : Int32) < v0) (hl1 : ¬ (255 : Int32) < v1) (hl2 : ¬ (255 : Int32) < v2) (S_COMPACT_STRINGS : Sta Z Z.heap "java/lang/String" "COMPACT_STRINGS" "Z" (.int G1)) (cs0 : ¬ (G1 = (0 : Int32))) (Ol : Old Z n0 h0) (S__assertionsDisabled : Sta Z Z.heap "java/lang/StringUTF16" "$assertionsDisabled" "Z" (.int (1 : Int32))) (S_HI_BYTE_SHIFT : Sta Z Z.heap "java/lang/StringUTF16" "HI_BYTE_SHIFT" "I" (.int (0 : Int32))) (S_LO_BYTE_SHIFT : Sta Z Z.heap "java/lang/StringUTF16" "LO_BYTE_SHIFT" "I" (.int (8 : Int32))) :
    MF l Z Y8 jdk_42_method_149_code 6 none ws ({ frames := 4, cells := 2, slots := 9, locals := 58 } : Room) #[(.ref a0_), (.ref a1), (.int (0 : Int32)), (.int (3 : Int32)), .null] h0 (Qsiv3_0 Z a0_ a1 k1 v0 v1 v2 G1 h0 n0) := by
  refine MF.of pn_1 (fun m => ef_siv3_0 m a0_ a1 (0 : Int32) (3 : Int32)) ?_
  intro p e s m below meth c s₁ G X0 e0 hx hby hml hown hnm hlk hrt hZ hnd hG
  have N0 := Fr.nil n0
  have K0 := Keep.refl h0 [a0_]
  refine Owe.aloadN X0.here hx (hb hby d8_0) rfl rfl ?_
  refine Owe.objinit X0 hx hZ hown (wd hw 12) (wd hw 13) (wd hw 14) e0 (by rw [hml]; rfl) rfl (hb hby d8_1) (by decide) (W := 0) (nb rfl) (by decide) fun T383 X383 e383 => ?_
  refine Owe.iloadN X383.here hx (hb hby d8_4) rfl ?_
  refine Owe.ifYes X383.here hx (hb hby d8_5) rfl ((if0 _ _).trans (feq (by decide)).2) (pc' := 27) (by decide) (by decide) ?_
  refine Owe.gets X383 hx hZ hown (wd hw 32) Via.refl e383 (S_COMPACT_STRINGS.ext Ol.2) (hb hby d8_27) fun T384 X384 e384 => ?_
  refine Owe.ifNo X384.here hx (hb hby d8_30) rfl ((if0 _ _).trans (feq cs0).1) ?_
  refine Owe.aloadN X384.here hx (hb hby d8_33) rfl rfl ?_
  refine Owe.iloadN X384.here hx (hb hby d8_34) rfl ?_
  refine Owe.iloadN X384.here hx (hb hby d8_35) rfl ?_
  refine Owe.stat X384 hx (y := Y7) hown (mvT hZ (wd hw 33)) (mvT hZ (wd hw 34)) (mvT hZ (wd hw 35)) (mvT hZ (wd hw 36)) (by decide) (backOf (W := 0) (rmcma3_0 l Z a0 hw [] a1 k1 v0 v1 v2 h0 n0 Z0 V_a1 hl0 hl1 hl2 Ol S__assertionsDisabled S_HI_BYTE_SHIFT S_LO_BYTE_SHIFT) hZ (wd hw 36) (wd hw 35) (by decide) (by decide)) (by rw [hml]; rfl) (argsL := [(.ref a1), (.int (0 : Int32)), (.int (3 : Int32))]) (rest := []) (lenOf pd_4 rfl) rfl (nb rfl) (hb hby d8_36) rfl e384 (by decide) (by decide) fun T385 v385 L385 X385 hQ385 => ?_
  obtain ⟨x1_385, kb1_385, rfl, Nq385, K385, ge_x1_385, fresh_x1_385, V_x1_385⟩ := hQ385
  have N385 := Fr.app N0 Nq385
  have K_386 := K0.trans K385 all0
  have E_a0__387 := E_a0_.keep K385
  have Fvalue_a0__388 := Fvalue_a0_.keep K385 nin0
  have Fcoder_a0__389 := Fcoder_a0_.keep K385 nin0
  have V_a1_390 := V_a1.keep K385 nin0
  have Ol_391 := Ol.keep K385 all0
  have Z_392 := Nat.le_trans Z0 K385.1
  have ne_a0__x1_385 : a0_ ≠ x1_385 := Nat.ne_of_lt (Nat.lt_of_lt_of_le E_a0_.lt fresh_x1_385)
  have ne_a1_x1_385 : a1 ≠ x1_385 := Nat.ne_of_lt (Nat.lt_of_lt_of_le V_a1.lt fresh_x1_385)
  have sz_x1_385 := Nat.le_trans K0.1 fresh_x1_385
  refine Owe.astore X385.here hx (hb hby d8_39) rfl rfl (l' := #[.val (.ref a0_), .val (.ref a1), .val (.int (0 : Int32)), .val (.int (3 : Int32)), .val .null, .val (.ref x1_385)]) rfl ?_
  refine Owe.aloadN X385.here hx (hb hby d8_41) rfl rfl ?_
  refine Owe.aload X385.here hx (hb hby d8_42) rfl rfl ?_
  refine Owe.iloadN X385.here hx (hb hby d8_44) rfl ?_
  refine Owe.stat X385 hx (y := Y6) hown (mvT hZ (wd hw 40)) (mvT hZ (wd hw 41)) (mvT hZ (wd hw 35)) (mvT hZ (wd hw 42)) (by decide) (backOf (W := 1) (rmcfa3_0 l Z a0 hw [] x1_385 kb1_385 ([(.int (la1 v0)), (.int (la1 v1)), (.int (la1 v2))]) T385.heap n0 Z_392 V_x1_385) hZ (wd hw 42) (wd hw 35) (by decide) (by decide)) (by rw [hml]; rfl) (argsL := [(.ref x1_385), (.int (3 : Int32))]) (rest := [(.ref a0_)]) (lenOf pd_5 rfl) rfl (nb rfl) (hb hby d8_45) rfl rfl (by decide) (by decide) fun T393 v393 L393 X393 hQ393 => ?_
  obtain ⟨rfl, Nq393, e393⟩ := hQ393
  have N393 := Fr.app N385 Nq393
  refine Owe.putf X393 hx hZ (host := "") hown (Or.inl (wd hw 22)) Via.refl e393 Fcoder_a0__389 E_a0__387 (Or.inr ⟨(wd hw 18), rfl, hnm⟩) (wd hw 3) (ty := .byte) (by decide) rfl rfl (hb hby d8_48) rfl fun T394 h394 X394 e394 W394 => ?_
  have K_395 := K_386.wr W394 (Or.inl (List.mem_of_getElem? (i := 0) rfl))
  have E_a0__396 := E_a0__387.wr W394
  have Fvalue_a0__397 := Fvalue_a0__388.other W394 (Or.inr (slot_ne (Or.inr (wd hw 17)) (Or.inr (wd hw 18)) (by decide) (t := (.array .byte)) (t' := .byte) (by decide) (by decide)))
  have Fcoder_a0__398 := Fcoder_a0__389.same W394
  have V_a1_399 := V_a1_390.other W394 ne_a1_a0_
  have Ol_400 := Ol_391.wr W394 ge_a0_
  have V_x1_401 := V_x1_385.other W394 (Ne.symm ne_a0__x1_385)
  have Z_402 := Nat.le_trans Z_392 (Keep.of_wr W394).1
  have N394 := Fr.snoc X394 N393 ge_a0_
  refine Owe.aloadN X394.here hx (hb hby d8_51) rfl rfl ?_
  refine Owe.aload X394.here hx (hb hby d8_52) rfl rfl ?_
  refine Owe.putf X394 hx hZ (host := "") hown (Or.inl (wd hw 21)) Via.refl e394 Fvalue_a0__397 E_a0__396 (Or.inr ⟨(wd hw 17), rfl, hnm⟩) (wd hw 3) (ty := (.array .byte)) (by decide) rfl rfl (hb hby d8_54) rfl fun T403 h403 X403 e403 W403 => ?_
  have K_404 := K_395.wr W403 (Or.inl (List.mem_of_getElem? (i := 0) rfl))
  have E_a0__405 := E_a0__396.wr W403
  have Fvalue_a0__406 := Fvalue_a0__397.same W403
  have Fcoder_a0__407 := Fcoder_a0__398.other W403 (Or.inr (slot_ne (Or.inr (wd hw 18)) (Or.inr (wd hw 17)) (by decide) (t := .byte) (t' := (.array .byte)) (by decide) (by decide)))
  have V_a1_408 := V_a1_399.other W403 ne_a1_a0_
  have Ol_409 := Ol_400.wr W403 ge_a0_
  have V_x1_410 := V_x1_401.other W403 (Ne.symm ne_a0__x1_385)
  have Z_411 := Nat.le_trans Z_402 (Keep.of_wr W403).1
  have N403 := Fr.snoc X403 N394 ge_a0_
  refine Owe.ret0 X403 hx hlk hrt (hb hby d8_57) rfl fun fs hE => ?_
  refine hG _ _ ⟨_, _, rfl, ?_, frameMono hE (by decide) (by decide)⟩
  show Qsiv3_0 Z a0_ a1 k1 v0 v1 v2 G1 h0 n0 _ T403.heap _
  rw [e403]
  exact ⟨x1_385, kb1_385, rfl, N403, K_404, E_a0__405, Fvalue_a0__406, Fcoder_a0__407, V_x1_410⟩
theorem ef_si3_0 (m : MethodId) (x0 : Addr) (x1 : Addr)  : entryFrame m #[(.ref x0), (.ref x1)] 2 = mkF m 0 #[.val (.ref x0), .val (.ref x1)] [] := by first | (simp [entryFrame, mkF, argsToLocals, Value.category]; done) | rfl
def Qsi3_0 (Z : State) (a0_ : Addr) (a1 : Addr) (k1 : ClassId) (v0 : Int32) (v1 : Int32) (v2 : Int32) (G1 : Int32) (h0 : Heap) (n0 : Nat) (v : Option Value) (h : Heap) (L : List Loc) : Prop := ∃ (b_ : Addr), ∃ (kb1 : ClassId), v = none ∧ Fr n0 L ∧ Keep h0 h [a0_] ∧ Exa Z h a0_ "java/lang/String" ∧ Fld Z h a0_ "java/lang/String" "value" "[B" (.ref b_) ∧ Fld Z h a0_ "java/lang/String" "coder" "B" (.int (0 : Int32)) ∧ Arv Z h b_ kb1 .byte (3 : Int32) [(.int (la1 v0)), (.int (la1 v1)), (.int (la1 v2))] (.int (0 : Int32))
set_option maxRecDepth 65536 in
set_option maxHeartbeats 40000000 in
theorem rmsi3_0 (l : Launch) (Z : State) (a0 : Array Value) (hw : Hw Z a0) (ws : List Jvm.Cond) (a0_ : Addr) (a1 : Addr) (k1 : ClassId) (v0 : Int32) (v1 : Int32) (v2 : Int32) (G1 : Int32) (h0 : Heap) (n0 : Nat) (Z0 : n0 ≤ h0.size) (E_a0_ : Exa Z h0 a0_ "java/lang/String") (Fvalue_a0_ : Fld Z h0 a0_ "java/lang/String" "value" "[B" .null) (Fcoder_a0_ : Fld Z h0 a0_ "java/lang/String" "coder" "B" (.int (0 : Int32))) (ge_a0_ : n0 ≤ a0_) (V_a1 : Arv Z h0 a1 k1 .char (3 : Int32) [(.int v0), (.int v1), (.int v2)] (.int (0 : Int32))) (ne_a1_a0_ : a1 ≠ a0_) (hl0 : ¬ (255 : Int32) < v0) (hl1 : ¬ (255 : Int32) < v1) (hl2 : ¬ (255 : Int32) < v2) (S_COMPACT_STRINGS : Sta Z Z.heap "java/lang/String" "COMPACT_STRINGS" "Z" (.int G1)) (cs0 : ¬ (G1 = (0 : Int32))) (Ol : Old Z n0 h0) (S__assertionsDisabled : Sta Z Z.heap "java/lang/StringUTF16" "$assertionsDisabled" "Z" (.int (1 : Int32))) (S_HI_BYTE_SHIFT : Sta Z Z.heap "java/lang/StringUTF16" "HI_BYTE_SHIFT" "I" (.int (0 : Int32))) (S_LO_BYTE_SHIFT : Sta Z Z.heap "java/lang/StringUTF16" "LO_BYTE_SHIFT" "I" (.int (8 : Int32))) :
    MF l Z Y9 jdk_42_method_3_code 2 none ws ({ frames := 5, cells := 2, slots := 9, locals := 76 } : Room) #[(.ref a0_), (.ref a1)] h0 (Qsi3_0 Z a0_ a1 k1 v0 v1 v2 G1 h0 n0) := by
  refine MF.of pn_1 (fun m => ef_si3_0 m a0_ a1) ?_
  intro p e s m below meth c s₁ G X0 e0 hx hby hml hown hnm hlk hrt hZ hnd hG
  have N0 := Fr.nil n0
  have K0 := Keep.refl h0 [a0_]
  refine Owe.aloadN X0.here hx (hb hby d9_0) rfl rfl ?_
  refine Owe.aloadN X0.here hx (hb hby d9_1) rfl rfl ?_
  refine Owe.iconst X0.here hx (hb hby d9_2) (w := (0 : Int32)) rfl ?_
  refine Owe.aloadN X0.here hx (hb hby d9_3) rfl rfl ?_
  refine Owe.arrlen X0 hx hZ e0 V_a1 (hb hby d9_4) rfl ?_
  refine Owe.aconstNull X0.here hx (hb hby d9_5)  ?_
  refine Owe.special X0 hx (y := Y8) rfl hown (mvT hZ (wd hw 8)) (mvT hZ (wd hw 9)) (mvT hZ (wd hw 11)) (by decide) (backOf (W := 0) (rmsiv3_0 l Z a0 hw [] a0_ a1 k1 v0 v1 v2 G1 h0 n0 Z0 E_a0_ Fvalue_a0_ Fcoder_a0_ ge_a0_ V_a1 ne_a1_a0_ hl0 hl1 hl2 S_COMPACT_STRINGS cs0 Ol S__assertionsDisabled S_HI_BYTE_SHIFT S_LO_BYTE_SHIFT) hZ (wd hw 11) (wd hw 4) (by decide) (by decide)) (by rw [hml]; rfl) (a := a0_) (argsL := [(.ref a1), (.int (0 : Int32)), (.int (3 : Int32)), .null]) (rest := []) (lenOf pd_6 rfl) rfl (nb rfl) (hb hby d9_6) rfl e0 (by decide) (by decide) fun T412 v412 L412 X412 hQ412 => ?_
  obtain ⟨b__412, kb1_412, rfl, Nq412, K412, E_a0__412, Fvalue_a0__412, Fcoder_a0__412, V_b__412⟩ := hQ412
  have N412 := Fr.app N0 Nq412
  have K_413 := K0.trans K412 (allS (Or.inl (List.mem_of_getElem? (i := 0) rfl)) all0)
  have E_a0__414 := E_a0_.keep K412
  have V_a1_415 := V_a1.keep K412 (ninS ne_a1_a0_ nin0)
  have Ol_416 := Ol.keep K412 (allS ge_a0_ all0)
  have Z_417 := Nat.le_trans Z0 K412.1
  refine Owe.ret0 X412 hx hlk hrt (hb hby d9_9) rfl fun fs hE => ?_
  refine hG _ _ ⟨_, _, rfl, ?_, frameMono hE (by decide) (by decide)⟩
  show Qsi3_0 Z a0_ a1 k1 v0 v1 v2 G1 h0 n0 _ T412.heap _
  exact ⟨b__412, kb1_412, rfl, N412, K_413, E_a0__412, Fvalue_a0__412, Fcoder_a0__412, V_b__412⟩
theorem ef_cfa3_1 (m : MethodId) (x0 : Addr) (x1 : Int32)  : entryFrame m #[(.ref x0), (.int x1)] 2 = mkF m 0 #[.val (.ref x0), .val (.int x1)] [] := by first | (simp [entryFrame, mkF, argsToLocals, Value.category]; done) | rfl
def Qcfa3_1 (Z : State) (a1 : Addr) (k1 : ClassId) (vs : List Value) (h0 : Heap) (n0 : Nat) (v : Option Value) (h : Heap) (L : List Loc) : Prop := v = some (.int (1 : Int32)) ∧ Fr n0 L ∧ h = h0
set_option maxRecDepth 65536 in
set_option maxHeartbeats 40000000 in
theorem rmcfa3_1 (l : Launch) (Z : State) (a0 : Array Value) (hw : Hw Z a0) (ws : List Jvm.Cond) (a1 : Addr) (k1 : ClassId) (vs : List Value) (h0 : Heap) (n0 : Nat) (Z0 : n0 ≤ h0.size) (V_a1 : Arv Z h0 a1 k1 .byte (6 : Int32) vs (.int (0 : Int32))) :
    MF l Z Y6 jdk_52_method_15_code 2 (some .byte) ws ({ frames := 0, cells := 0, slots := 0, locals := 0 } : Room) #[(.ref a1), (.int (3 : Int32))] h0 (Qcfa3_1 Z a1 k1 vs h0 n0) := by
  refine MF.of pn_0 (fun m => ef_cfa3_1 m a1 (3 : Int32)) ?_
  intro p e s m below meth c s₁ G X0 e0 hx hby hml hown hnm hlk hrt hZ hnd hG
  have N0 := Fr.nil n0
  refine Owe.iloadN X0.here hx (hb hby d6_0) rfl ?_
  refine Owe.aloadN X0.here hx (hb hby d6_1) rfl rfl ?_
  refine Owe.arrlen X0 hx hZ e0 V_a1 (hb hby d6_2) rfl ?_
  refine Owe.isub X0.here hx (hb hby d6_3) rfl ?_
  refine Owe.bipush X0.here hx (hb hby d6_4) (w := (31 : Int32)) rfl ?_
  refine Owe.iushr X0.here hx (hb hby d6_6) rfl ?_
  refine Owe.i2b X0.here hx (hb hby d6_7) rfl ?_
  refine Owe.retN X0 hx hlk (t := .byte) hrt (by simp) (hb hby d6_8) rfl fun fs hE => ?_
  refine hG _ _ ⟨_, _, rfl, ?_, frameMono hE (by decide) (by decide)⟩
  show Qcfa3_1 Z a1 k1 vs h0 n0 _ s₁.heap _
  rw [e0]
  exact ⟨(congrArg (fun z => some (Value.int z)) (by decide)), N0, rfl⟩
theorem ef_cma3_1 (m : MethodId) (x0 : Addr) (x1 : Int32) (x2 : Int32)  : entryFrame m #[(.ref x0), (.int x1), (.int x2)] 6 = mkF m 0 #[.val (.ref x0), .val (.int x1), .val (.int x2), .unset, .unset, .unset] [] := by first | (simp [entryFrame, mkF, argsToLocals, Value.category]; done) | rfl
def Qcma3_1 (Z : State) (a1 : Addr) (k1 : ClassId) (v0 : Int32) (v1 : Int32) (v2 : Int32) (h0 : Heap) (n0 : Nat) (v : Option Value) (h : Heap) (L : List Loc) : Prop := ∃ (x1 : Addr), ∃ (kb1 : ClassId), v = some (.ref x1) ∧ Fr n0 L ∧ Keep h0 h [] ∧ n0 ≤ x1 ∧ h0.size ≤ x1 ∧ Arv Z h x1 kb1 .byte (6 : Int32) [(.int (lo1 v0)), (.int (hi1 v0)), (.int (lo1 v1)), (.int (hi1 v1)), (.int (lo1 v2)), (.int (hi1 v2))] (.int (0 : Int32))
set_option maxRecDepth 65536 in
set_option maxHeartbeats 40000000 in
theorem rmcma3_1 (l : Launch) (Z : State) (a0 : Array Value) (hw : Hw Z a0) (ws : List Jvm.Cond) (a1 : Addr) (k1 : ClassId) (v0 : Int32) (v1 : Int32) (v2 : Int32) (h0 : Heap) (n0 : Nat) (Z0 : n0 ≤ h0.size) (V_a1 : Arv Z h0 a1 k1 .char (3 : Int32) [(.int v0), (.int v1), (.int v2)] (.int (0 : Int32))) (hW : (255 : Int32) < v0 ∨ (255 : Int32) < v1 ∨ (255 : Int32) < v2) (hr0 : ¬ v0 < 0 ∧ ¬ (65535 : Int32) < v0) (hr1 : ¬ v1 < 0 ∧ ¬ (65535 : Int32) < v1) (hr2 : ¬ v2 < 0 ∧ ¬ (65535 : Int32) < v2) (Ol : Old Z n0 h0) (S__assertionsDisabled : Sta Z Z.heap "java/lang/StringUTF16" "$assertionsDisabled" "Z" (.int (1 : Int32))) (S_HI_BYTE_SHIFT : Sta Z Z.heap "java/lang/StringUTF16" "HI_BYTE_SHIFT" "I" (.int (0 : Int32))) (S_LO_BYTE_SHIFT : Sta Z Z.heap "java/lang/StringUTF16" "LO_BYTE_SHIFT" "I" (.int (8 : Int32))) :
    MF l Z Y7 jdk_52_method_16_code 6 (some (.array .byte)) ws ({ frames := 3, cells := 2, slots := 9, locals := 40 } : Room) #[(.ref a1), (.int (0 : Int32)), (.int (3 : Int32))] h0 (Qcma3_1 Z a1 k1 v0 v1 v2 h0 n0) := by
  refine MF.of pn_0 (fun m => ef_cma3_1 m a1 (0 : Int32) (3 : Int32)) ?_
  intro p e s m below meth c s₁ G X0 e0 hx hby hml hown hnm hlk hrt hZ hnd hG
  have N0 := Fr.nil n0
  have K0 := Keep.refl h0 []
  refine Owe.iloadN X0.here hx (hb hby d7_0) rfl ?_
  refine Owe.newarr X0 hx hZ (aty := .byte) (wd hw 16) e0 (hb hby d7_1) rfl (by decide) (cap := 3) (by decide) (by decide) (by decide) (by decide) fun T418 h418 b418 k418 g418 X418 e418 E418 V418 => ?_
  have ne_a1_b418 : a1 ≠ b418 := Nat.ne_of_lt (Nat.lt_of_lt_of_le V_a1.lt (Nat.le_of_eq g418.symm))
  have sz_b418 := Nat.le_trans K0.1 (Nat.le_of_eq g418.symm)
  have ge_b418 := Nat.le_trans Z0 (Nat.le_of_eq g418.symm)
  have K_419 := K0.ext E418
  have V_a1_420 := V_a1.ext E418
  have Ol_421 := Ol.ext E418
  have Z_422 := Nat.le_trans Z0 E418.1
  have V_b418_418 : Arv Z h418 b418 k418 .byte (3 : Int32) [(.int (0 : Int32)), (.int (0 : Int32)), (.int (0 : Int32))] (.int (0 : Int32)) := V418.pad (pad_rep [] (.int (0 : Int32)) 3)
  refine Owe.astoreN X418.here hx (hb hby d7_3) rfl rfl (l' := #[.val (.ref a1), .val (.int (0 : Int32)), .val (.int (3 : Int32)), .val (.ref b418), .unset, .unset]) rfl ?_
  refine Owe.aloadN X418.here hx (hb hby d7_4) rfl rfl ?_
  refine Owe.iloadN X418.here hx (hb hby d7_5) rfl ?_
  refine Owe.aloadN X418.here hx (hb hby d7_6) rfl rfl ?_
  refine Owe.iconst X418.here hx (hb hby d7_7) (w := (0 : Int32)) rfl ?_
  refine Owe.iloadN X418.here hx (hb hby d7_8) rfl ?_
  by_cases hl0_423 : (255 : Int32) < v0
  · skip
    refine Owe.stat X418 hx (y := Y5) hown (mvT hZ (wd hw 37)) (mvT hZ (wd hw 38)) (mvT hZ (wd hw 35)) (mvT hZ (wd hw 39)) (by decide) (backOf (W := 0) (rmcmi3_0 l Z a0 hw [] a1 k1 b418 k418 v0 v1 v2 h418 n0 Z_422 V_a1_420 V_b418_418 ge_b418 ne_a1_b418 hl0_423) hZ (wd hw 39) (wd hw 35) (by decide) (by decide)) (by rw [hml]; rfl) (argsL := [(.ref a1), (.int (0 : Int32)), (.ref b418), (.int (0 : Int32)), (.int (3 : Int32))]) (rest := []) (lenOf pd_3 rfl) rfl (nb rfl) (hb hby d7_9) rfl e418 (by decide) (by decide) fun T424 v424 L424 X424 hQ424 => ?_
    obtain ⟨rfl, Nq424, K424⟩ := hQ424
    have N424 := Fr.app N0 Nq424
    have K_425 := K_419.trans K424 (allS (Or.inr sz_b418) all0)
    have V_a1_426 := V_a1_420.keep K424 (ninS ne_a1_b418 nin0)
    have Ol_427 := Ol_421.keep K424 (allS ge_b418 all0)
    have Z_428 := Nat.le_trans Z_422 K424.1
    refine Owe.istore X424.here hx (hb hby d7_12) rfl (l' := #[.val (.ref a1), .val (.int (0 : Int32)), .val (.int (3 : Int32)), .val (.ref b418), .val (.int (0 : Int32)), .unset]) rfl ?_
    refine Owe.iload X424.here hx (hb hby d7_14) rfl ?_
    refine Owe.iloadN X424.here hx (hb hby d7_16) rfl ?_
    refine Owe.icmpNo X424.here hx (hb hby d7_17) rfl (feq (by decide)).1 ?_
    refine Owe.aloadN X424.here hx (hb hby d7_20) rfl rfl ?_
    refine Owe.iloadN X424.here hx (hb hby d7_21) rfl ?_
    refine Owe.iloadN X424.here hx (hb hby d7_22) rfl ?_
    refine Owe.stat X424 hx (y := Y4) hown (mvT hZ (wd hw 79)) (mvT hZ (wd hw 80)) (mvT hZ (wd hw 35)) (mvT hZ (wd hw 81)) (by decide) (backOf (W := 0) (rmtob3 l Z a0 hw [] a1 k1 v0 v1 v2 T424.heap n0 Z_428 V_a1_426 Ol_427 S__assertionsDisabled S_HI_BYTE_SHIFT S_LO_BYTE_SHIFT) hZ (wd hw 81) (wd hw 35) (by decide) (by decide)) (by rw [hml]; rfl) (argsL := [(.ref a1), (.int (0 : Int32)), (.int (3 : Int32))]) (rest := []) (lenOf pd_4 rfl) rfl (nb rfl) (hb hby d7_23) rfl rfl (by decide) (by decide) fun T429 v429 L429 X429 hQ429 => ?_
    obtain ⟨x1_429, kb1_429, rfl, Nq429, K429, ge_x1_429, fresh_x1_429, V_x1_429⟩ := hQ429
    have N429 := Fr.app N424 Nq429
    have K_430 := K_425.trans K429 all0
    have V_a1_431 := V_a1_426.keep K429 nin0
    have Ol_432 := Ol_427.keep K429 all0
    have Z_433 := Nat.le_trans Z_428 K429.1
    have ne_a1_x1_429 : a1 ≠ x1_429 := Nat.ne_of_lt (Nat.lt_of_lt_of_le V_a1_426.lt fresh_x1_429)
    have sz_x1_429 := Nat.le_trans K_425.1 fresh_x1_429
    refine Owe.astore X429.here hx (hb hby d7_26) rfl rfl (l' := #[.val (.ref a1), .val (.int (0 : Int32)), .val (.int (3 : Int32)), .val (.ref b418), .val (.int (0 : Int32)), .val (.ref x1_429)]) rfl ?_
    refine Owe.aload X429.here hx (hb hby d7_28) rfl rfl ?_
    refine Owe.iload X429.here hx (hb hby d7_30) rfl ?_
    refine Owe.stat X429 hx (y := Y0) hown (mvT hZ (wd hw 95)) (mvT hZ (wd hw 96)) (mvT hZ (wd hw 35)) (mvT hZ (wd hw 97)) (by decide) (backOf (W := 0) (rmgch l Z a0 hw [] x1_429 kb1_429 v0 (0 : Int32) (lo1 v0) (hi1 v0) (6 : Int32) ([(.int (lo1 v0)), (.int (hi1 v0)), (.int (lo1 v1)), (.int (hi1 v1)), (.int (lo1 v2)), (.int (hi1 v2))]) T429.heap n0 Z_433 V_x1_429 (by decide) rfl (by decide) rfl (own_gp _ hr0) (own_narV hr0) Ol_432 S__assertionsDisabled S_HI_BYTE_SHIFT S_LO_BYTE_SHIFT) hZ (wd hw 97) (wd hw 35) (by decide) (by decide)) (by rw [hml]; rfl) (argsL := [(.ref x1_429), (.int (0 : Int32))]) (rest := []) (lenOf pd_7 rfl) rfl (nb rfl) (hb hby d7_32) rfl rfl (by decide) (by decide) fun T434 v434 L434 X434 hQ434 => ?_
    obtain ⟨rfl, Nq434, e434⟩ := hQ434
    have N434 := Fr.app N429 Nq434
    refine Owe.sipush X434.here hx (hb hby d7_35) (w := (255 : Int32)) rfl ?_
    refine Owe.icmpYes X434.here hx (hb hby d7_38) rfl (tlt hl0_423).2.2.1 (pc' := 54) (by decide) (by decide) ?_
    refine Owe.aload X434.here hx (hb hby d7_54) rfl rfl ?_
    refine Owe.retR X434 hx hlk (t := (.array .byte)) hrt rfl rfl rfl (hb hby d7_56) rfl fun fs hE => ?_
    refine hG _ _ ⟨_, _, rfl, ?_, frameMono hE (by decide) (by decide)⟩
    show Qcma3_1 Z a1 k1 v0 v1 v2 h0 n0 _ T434.heap _
    rw [e434]
    exact ⟨x1_429, kb1_429, rfl, N434, K_430, ge_x1_429, sz_x1_429, V_x1_429⟩
  · skip
    by_cases hl1_435 : (255 : Int32) < v1
    · skip
      refine Owe.stat X418 hx (y := Y5) hown (mvT hZ (wd hw 37)) (mvT hZ (wd hw 38)) (mvT hZ (wd hw 35)) (mvT hZ (wd hw 39)) (by decide) (backOf (W := 0) (rmcmi3_1 l Z a0 hw [] a1 k1 b418 k418 v0 v1 v2 h418 n0 Z_422 V_a1_420 V_b418_418 ge_b418 ne_a1_b418 hl0_423 hl1_435) hZ (wd hw 39) (wd hw 35) (by decide) (by decide)) (by rw [hml]; rfl) (argsL := [(.ref a1), (.int (0 : Int32)), (.ref b418), (.int (0 : Int32)), (.int (3 : Int32))]) (rest := []) (lenOf pd_3 rfl) rfl (nb rfl) (hb hby d7_9) rfl e418 (by decide) (by decide) fun T436 v436 L436 X436 hQ436 => ?_
      obtain ⟨rfl, Nq436, K436⟩ := hQ436
      have N436 := Fr.app N0 Nq436
      have K_437 := K_419.trans K436 (allS (Or.inr sz_b418) all0)
      have V_a1_438 := V_a1_420.keep K436 (ninS ne_a1_b418 nin0)
      have Ol_439 := Ol_421.keep K436 (allS ge_b418 all0)
      have Z_440 := Nat.le_trans Z_422 K436.1
      refine Owe.istore X436.here hx (hb hby d7_12) rfl (l' := #[.val (.ref a1), .val (.int (0 : Int32)), .val (.int (3 : Int32)), .val (.ref b418), .val (.int (1 : Int32)), .unset]) rfl ?_
      refine Owe.iload X436.here hx (hb hby d7_14) rfl ?_
      refine Owe.iloadN X436.here hx (hb hby d7_16) rfl ?_
      refine Owe.icmpNo X436.here hx (hb hby d7_17) rfl (feq (by decide)).1 ?_
      refine Owe.aloadN X436.here hx (hb hby d7_20) rfl rfl ?_
      refine Owe.iloadN X436.here hx (hb hby d7_21) rfl ?_
      refine Owe.iloadN X436.here hx (hb hby d7_22) rfl ?_
      refine Owe.stat X436 hx (y := Y4) hown (mvT hZ (wd hw 79)) (mvT hZ (wd hw 80)) (mvT hZ (wd hw 35)) (mvT hZ (wd hw 81)) (by decide) (backOf (W := 0) (rmtob3 l Z a0 hw [] a1 k1 v0 v1 v2 T436.heap n0 Z_440 V_a1_438 Ol_439 S__assertionsDisabled S_HI_BYTE_SHIFT S_LO_BYTE_SHIFT) hZ (wd hw 81) (wd hw 35) (by decide) (by decide)) (by rw [hml]; rfl) (argsL := [(.ref a1), (.int (0 : Int32)), (.int (3 : Int32))]) (rest := []) (lenOf pd_4 rfl) rfl (nb rfl) (hb hby d7_23) rfl rfl (by decide) (by decide) fun T441 v441 L441 X441 hQ441 => ?_
      obtain ⟨x1_441, kb1_441, rfl, Nq441, K441, ge_x1_441, fresh_x1_441, V_x1_441⟩ := hQ441
      have N441 := Fr.app N436 Nq441
      have K_442 := K_437.trans K441 all0
      have V_a1_443 := V_a1_438.keep K441 nin0
      have Ol_444 := Ol_439.keep K441 all0
      have Z_445 := Nat.le_trans Z_440 K441.1
      have ne_a1_x1_441 : a1 ≠ x1_441 := Nat.ne_of_lt (Nat.lt_of_lt_of_le V_a1_438.lt fresh_x1_441)
      have sz_x1_441 := Nat.le_trans K_437.1 fresh_x1_441
      refine Owe.astore X441.here hx (hb hby d7_26) rfl rfl (l' := #[.val (.ref a1), .val (.int (0 : Int32)), .val (.int (3 : Int32)), .val (.ref b418), .val (.int (1 : Int32)), .val (.ref x1_441)]) rfl ?_
      refine Owe.aload X441.here hx (hb hby d7_28) rfl rfl ?_
      refine Owe.iload X441.here hx (hb hby d7_30) rfl ?_
      refine Owe.stat X441 hx (y := Y0) hown (mvT hZ (wd hw 95)) (mvT hZ (wd hw 96)) (mvT hZ (wd hw 35)) (mvT hZ (wd hw 97)) (by decide) (backOf (W := 0) (rmgch l Z a0 hw [] x1_441 kb1_441 v1 (1 : Int32) (lo1 v1) (hi1 v1) (6 : Int32) ([(.int (lo1 v0)), (.int (hi1 v0)), (.int (lo1 v1)), (.int (hi1 v1)), (.int (lo1 v2)), (.int (hi1 v2))]) T441.heap n0 Z_445 V_x1_441 (by decide) rfl (by decide) rfl (own_gp _ hr1) (own_narV hr1) Ol_444 S__assertionsDisabled S_HI_BYTE_SHIFT S_LO_BYTE_SHIFT) hZ (wd hw 97) (wd hw 35) (by decide) (by decide)) (by rw [hml]; rfl) (argsL := [(.ref x1_441), (.int (1 : Int32))]) (rest := []) (lenOf pd_7 rfl) rfl (nb rfl) (hb hby d7_32) rfl rfl (by decide) (by decide) fun T446 v446 L446 X446 hQ446 => ?_
      obtain ⟨rfl, Nq446, e446⟩ := hQ446
      have N446 := Fr.app N441 Nq446
      refine Owe.sipush X446.here hx (hb hby d7_35) (w := (255 : Int32)) rfl ?_
      refine Owe.icmpYes X446.here hx (hb hby d7_38) rfl (tlt hl1_435).2.2.1 (pc' := 54) (by decide) (by decide) ?_
      refine Owe.aload X446.here hx (hb hby d7_54) rfl rfl ?_
      refine Owe.retR X446 hx hlk (t := (.array .byte)) hrt rfl rfl rfl (hb hby d7_56) rfl fun fs hE => ?_
      refine hG _ _ ⟨_, _, rfl, ?_, frameMono hE (by decide) (by decide)⟩
      show Qcma3_1 Z a1 k1 v0 v1 v2 h0 n0 _ T446.heap _
      rw [e446]
      exact ⟨x1_441, kb1_441, rfl, N446, K_442, ge_x1_441, sz_x1_441, V_x1_441⟩
    · skip
      by_cases hl2_447 : (255 : Int32) < v2
      · skip
        refine Owe.stat X418 hx (y := Y5) hown (mvT hZ (wd hw 37)) (mvT hZ (wd hw 38)) (mvT hZ (wd hw 35)) (mvT hZ (wd hw 39)) (by decide) (backOf (W := 0) (rmcmi3_2 l Z a0 hw [] a1 k1 b418 k418 v0 v1 v2 h418 n0 Z_422 V_a1_420 V_b418_418 ge_b418 ne_a1_b418 hl0_423 hl1_435 hl2_447) hZ (wd hw 39) (wd hw 35) (by decide) (by decide)) (by rw [hml]; rfl) (argsL := [(.ref a1), (.int (0 : Int32)), (.ref b418), (.int (0 : Int32)), (.int (3 : Int32))]) (rest := []) (lenOf pd_3 rfl) rfl (nb rfl) (hb hby d7_9) rfl e418 (by decide) (by decide) fun T448 v448 L448 X448 hQ448 => ?_
        obtain ⟨rfl, Nq448, K448⟩ := hQ448
        have N448 := Fr.app N0 Nq448
        have K_449 := K_419.trans K448 (allS (Or.inr sz_b418) all0)
        have V_a1_450 := V_a1_420.keep K448 (ninS ne_a1_b418 nin0)
        have Ol_451 := Ol_421.keep K448 (allS ge_b418 all0)
        have Z_452 := Nat.le_trans Z_422 K448.1
        refine Owe.istore X448.here hx (hb hby d7_12) rfl (l' := #[.val (.ref a1), .val (.int (0 : Int32)), .val (.int (3 : Int32)), .val (.ref b418), .val (.int (2 : Int32)), .unset]) rfl ?_
        refine Owe.iload X448.here hx (hb hby d7_14) rfl ?_
        refine Owe.iloadN X448.here hx (hb hby d7_16) rfl ?_
        refine Owe.icmpNo X448.here hx (hb hby d7_17) rfl (feq (by decide)).1 ?_
        refine Owe.aloadN X448.here hx (hb hby d7_20) rfl rfl ?_
        refine Owe.iloadN X448.here hx (hb hby d7_21) rfl ?_
        refine Owe.iloadN X448.here hx (hb hby d7_22) rfl ?_
        refine Owe.stat X448 hx (y := Y4) hown (mvT hZ (wd hw 79)) (mvT hZ (wd hw 80)) (mvT hZ (wd hw 35)) (mvT hZ (wd hw 81)) (by decide) (backOf (W := 0) (rmtob3 l Z a0 hw [] a1 k1 v0 v1 v2 T448.heap n0 Z_452 V_a1_450 Ol_451 S__assertionsDisabled S_HI_BYTE_SHIFT S_LO_BYTE_SHIFT) hZ (wd hw 81) (wd hw 35) (by decide) (by decide)) (by rw [hml]; rfl) (argsL := [(.ref a1), (.int (0 : Int32)), (.int (3 : Int32))]) (rest := []) (lenOf pd_4 rfl) rfl (nb rfl) (hb hby d7_23) rfl rfl (by decide) (by decide) fun T453 v453 L453 X453 hQ453 => ?_
        obtain ⟨x1_453, kb1_453, rfl, Nq453, K453, ge_x1_453, fresh_x1_453, V_x1_453⟩ := hQ453
        have N453 := Fr.app N448 Nq453
        have K_454 := K_449.trans K453 all0
        have V_a1_455 := V_a1_450.keep K453 nin0
        have Ol_456 := Ol_451.keep K453 all0
        have Z_457 := Nat.le_trans Z_452 K453.1
        have ne_a1_x1_453 : a1 ≠ x1_453 := Nat.ne_of_lt (Nat.lt_of_lt_of_le V_a1_450.lt fresh_x1_453)
        have sz_x1_453 := Nat.le_trans K_449.1 fresh_x1_453
        refine Owe.astore X453.here hx (hb hby d7_26) rfl rfl (l' := #[.val (.ref a1), .val (.int (0 : Int32)), .val (.int (3 : Int32)), .val (.ref b418), .val (.int (2 : Int32)), .val (.ref x1_453)]) rfl ?_
        refine Owe.aload X453.here hx (hb hby d7_28) rfl rfl ?_
        refine Owe.iload X453.here hx (hb hby d7_30) rfl ?_
        refine Owe.stat X453 hx (y := Y0) hown (mvT hZ (wd hw 95)) (mvT hZ (wd hw 96)) (mvT hZ (wd hw 35)) (mvT hZ (wd hw 97)) (by decide) (backOf (W := 0) (rmgch l Z a0 hw [] x1_453 kb1_453 v2 (2 : Int32) (lo1 v2) (hi1 v2) (6 : Int32) ([(.int (lo1 v0)), (.int (hi1 v0)), (.int (lo1 v1)), (.int (hi1 v1)), (.int (lo1 v2)), (.int (hi1 v2))]) T453.heap n0 Z_457 V_x1_453 (by decide) rfl (by decide) rfl (own_gp _ hr2) (own_narV hr2) Ol_456 S__assertionsDisabled S_HI_BYTE_SHIFT S_LO_BYTE_SHIFT) hZ (wd hw 97) (wd hw 35) (by decide) (by decide)) (by rw [hml]; rfl) (argsL := [(.ref x1_453), (.int (2 : Int32))]) (rest := []) (lenOf pd_7 rfl) rfl (nb rfl) (hb hby d7_32) rfl rfl (by decide) (by decide) fun T458 v458 L458 X458 hQ458 => ?_
        obtain ⟨rfl, Nq458, e458⟩ := hQ458
        have N458 := Fr.app N453 Nq458
        refine Owe.sipush X458.here hx (hb hby d7_35) (w := (255 : Int32)) rfl ?_
        refine Owe.icmpYes X458.here hx (hb hby d7_38) rfl (tlt hl2_447).2.2.1 (pc' := 54) (by decide) (by decide) ?_
        refine Owe.aload X458.here hx (hb hby d7_54) rfl rfl ?_
        refine Owe.retR X458 hx hlk (t := (.array .byte)) hrt rfl rfl rfl (hb hby d7_56) rfl fun fs hE => ?_
        refine hG _ _ ⟨_, _, rfl, ?_, frameMono hE (by decide) (by decide)⟩
        show Qcma3_1 Z a1 k1 v0 v1 v2 h0 n0 _ T458.heap _
        rw [e458]
        exact ⟨x1_453, kb1_453, rfl, N458, K_454, ge_x1_453, sz_x1_453, V_x1_453⟩
      · skip
        exact absurd hW (by simp [hl0_423, hl1_435, hl2_447])
theorem ef_siv3_1 (m : MethodId) (x0 : Addr) (x1 : Addr) (x2 : Int32) (x3 : Int32)  : entryFrame m #[(.ref x0), (.ref x1), (.int x2), (.int x3), .null] 6 = mkF m 0 #[.val (.ref x0), .val (.ref x1), .val (.int x2), .val (.int x3), .val .null, .unset] [] := by first | (simp [entryFrame, mkF, argsToLocals, Value.category]; done) | rfl
def Qsiv3_1 (Z : State) (a0_ : Addr) (a1 : Addr) (k1 : ClassId) (v0 : Int32) (v1 : Int32) (v2 : Int32) (G1 : Int32) (h0 : Heap) (n0 : Nat) (v : Option Value) (h : Heap) (L : List Loc) : Prop := ∃ (b_ : Addr), ∃ (kb1 : ClassId), v = none ∧ Fr n0 L ∧ Keep h0 h [a0_] ∧ Exa Z h a0_ "java/lang/String" ∧ Fld Z h a0_ "java/lang/String" "value" "[B" (.ref b_) ∧ Fld Z h a0_ "java/lang/String" "coder" "B" (.int (1 : Int32)) ∧ Arv Z h b_ kb1 .byte (6 : Int32) [(.int (lo1 v0)), (.int (hi1 v0)), (.int (lo1 v1)), (.int (hi1 v1)), (.int (lo1 v2)), (.int (hi1 v2))] (.int (0 : Int32))
set_option maxRecDepth 65536 in
set_option maxHeartbeats 40000000 in
theorem rmsiv3_1 (l : Launch) (Z : State) (a0 : Array Value) (hw : Hw Z a0) (ws : List Jvm.Cond) (a0_ : Addr) (a1 : Addr) (k1 : ClassId) (v0 : Int32) (v1 : Int32) (v2 : Int32) (G1 : Int32) (h0 : Heap) (n0 : Nat) (Z0 : n0 ≤ h0.size) (E_a0_ : Exa Z h0 a0_ "java/lang/String") (Fvalue_a0_ : Fld Z h0 a0_ "java/lang/String" "value" "[B" .null) (Fcoder_a0_ : Fld Z h0 a0_ "java/lang/String" "coder" "B" (.int (0 : Int32))) (ge_a0_ : n0 ≤ a0_) (V_a1 : Arv Z h0 a1 k1 .char (3 : Int32) [(.int v0), (.int v1), (.int v2)] (.int (0 : Int32))) (ne_a1_a0_ : a1 ≠ a0_) (hW : (255 : Int32) < v0 ∨ (255 : Int32) < v1 ∨ (255 : Int32) < v2) (hr0 : ¬ v0 < 0 ∧ ¬ (65535 : Int32) < v0) (hr1 : ¬ v1 < 0 ∧ ¬ (65535 : Int32) < v1) (hr2 : ¬ v2 < 0 ∧ ¬ (65535 : Int32) < v2) (S_COMPACT_STRINGS : Sta Z Z.heap "java/lang/String" "COMPACT_STRINGS" "Z" (.int G1)) (cs0 : ¬ (G1 = (0 : Int32))) (Ol : Old Z n0 h0) (S__assertionsDisabled : Sta Z Z.heap "java/lang/StringUTF16" "$assertionsDisabled" "Z" (.int (1 : Int32))) (S_HI_BYTE_SHIFT : Sta Z Z.heap "java/lang/StringUTF16" "HI_BYTE_SHIFT" "I" (.int (0 : Int32))) (S_LO_BYTE_SHIFT : Sta Z Z.heap "java/lang/StringUTF16" "LO_BYTE_SHIFT" "I" (.int (8 : Int32))) :
    MF l Z Y8 jdk_42_method_149_code 6 none ws ({ frames := 4, cells := 2, slots := 9, locals := 58 } : Room) #[(.ref a0_), (.ref a1), (.int (0 : Int32)), (.int (3 : Int32)), .null] h0 (Qsiv3_1 Z a0_ a1 k1 v0 v1 v2 G1 h0 n0) := by
  refine MF.of pn_1 (fun m => ef_siv3_1 m a0_ a1 (0 : Int32) (3 : Int32)) ?_
  intro p e s m below meth c s₁ G X0 e0 hx hby hml hown hnm hlk hrt hZ hnd hG
  have N0 := Fr.nil n0
  have K0 := Keep.refl h0 [a0_]
  refine Owe.aloadN X0.here hx (hb hby d8_0) rfl rfl ?_
  refine Owe.objinit X0 hx hZ hown (wd hw 12) (wd hw 13) (wd hw 14) e0 (by rw [hml]; rfl) rfl (hb hby d8_1) (by decide) (W := 0) (nb rfl) (by decide) fun T459 X459 e459 => ?_
  refine Owe.iloadN X459.here hx (hb hby d8_4) rfl ?_
  refine Owe.ifYes X459.here hx (hb hby d8_5) rfl ((if0 _ _).trans (feq (by decide)).2) (pc' := 27) (by decide) (by decide) ?_
  refine Owe.gets X459 hx hZ hown (wd hw 32) Via.refl e459 (S_COMPACT_STRINGS.ext Ol.2) (hb hby d8_27) fun T460 X460 e460 => ?_
  refine Owe.ifNo X460.here hx (hb hby d8_30) rfl ((if0 _ _).trans (feq cs0).1) ?_
  refine Owe.aloadN X460.here hx (hb hby d8_33) rfl rfl ?_
  refine Owe.iloadN X460.here hx (hb hby d8_34) rfl ?_
  refine Owe.iloadN X460.here hx (hb hby d8_35) rfl ?_
  refine Owe.stat X460 hx (y := Y7) hown (mvT hZ (wd hw 33)) (mvT hZ (wd hw 34)) (mvT hZ (wd hw 35)) (mvT hZ (wd hw 36)) (by decide) (backOf (W := 0) (rmcma3_1 l Z a0 hw [] a1 k1 v0 v1 v2 h0 n0 Z0 V_a1 hW hr0 hr1 hr2 Ol S__assertionsDisabled S_HI_BYTE_SHIFT S_LO_BYTE_SHIFT) hZ (wd hw 36) (wd hw 35) (by decide) (by decide)) (by rw [hml]; rfl) (argsL := [(.ref a1), (.int (0 : Int32)), (.int (3 : Int32))]) (rest := []) (lenOf pd_4 rfl) rfl (nb rfl) (hb hby d8_36) rfl e460 (by decide) (by decide) fun T461 v461 L461 X461 hQ461 => ?_
  obtain ⟨x1_461, kb1_461, rfl, Nq461, K461, ge_x1_461, fresh_x1_461, V_x1_461⟩ := hQ461
  have N461 := Fr.app N0 Nq461
  have K_462 := K0.trans K461 all0
  have E_a0__463 := E_a0_.keep K461
  have Fvalue_a0__464 := Fvalue_a0_.keep K461 nin0
  have Fcoder_a0__465 := Fcoder_a0_.keep K461 nin0
  have V_a1_466 := V_a1.keep K461 nin0
  have Ol_467 := Ol.keep K461 all0
  have Z_468 := Nat.le_trans Z0 K461.1
  have ne_a0__x1_461 : a0_ ≠ x1_461 := Nat.ne_of_lt (Nat.lt_of_lt_of_le E_a0_.lt fresh_x1_461)
  have ne_a1_x1_461 : a1 ≠ x1_461 := Nat.ne_of_lt (Nat.lt_of_lt_of_le V_a1.lt fresh_x1_461)
  have sz_x1_461 := Nat.le_trans K0.1 fresh_x1_461
  refine Owe.astore X461.here hx (hb hby d8_39) rfl rfl (l' := #[.val (.ref a0_), .val (.ref a1), .val (.int (0 : Int32)), .val (.int (3 : Int32)), .val .null, .val (.ref x1_461)]) rfl ?_
  refine Owe.aloadN X461.here hx (hb hby d8_41) rfl rfl ?_
  refine Owe.aload X461.here hx (hb hby d8_42) rfl rfl ?_
  refine Owe.iloadN X461.here hx (hb hby d8_44) rfl ?_
  refine Owe.stat X461 hx (y := Y6) hown (mvT hZ (wd hw 40)) (mvT hZ (wd hw 41)) (mvT hZ (wd hw 35)) (mvT hZ (wd hw 42)) (by decide) (backOf (W := 1) (rmcfa3_1 l Z a0 hw [] x1_461 kb1_461 ([(.int (lo1 v0)), (.int (hi1 v0)), (.int (lo1 v1)), (.int (hi1 v1)), (.int (lo1 v2)), (.int (hi1 v2))]) T461.heap n0 Z_468 V_x1_461) hZ (wd hw 42) (wd hw 35) (by decide) (by decide)) (by rw [hml]; rfl) (argsL := [(.ref x1_461), (.int (3 : Int32))]) (rest := [(.ref a0_)]) (lenOf pd_5 rfl) rfl (nb rfl) (hb hby d8_45) rfl rfl (by decide) (by decide) fun T469 v469 L469 X469 hQ469 => ?_
  obtain ⟨rfl, Nq469, e469⟩ := hQ469
  have N469 := Fr.app N461 Nq469
  refine Owe.putf X469 hx hZ (host := "") hown (Or.inl (wd hw 22)) Via.refl e469 Fcoder_a0__465 E_a0__463 (Or.inr ⟨(wd hw 18), rfl, hnm⟩) (wd hw 3) (ty := .byte) (by decide) rfl rfl (hb hby d8_48) rfl fun T470 h470 X470 e470 W470 => ?_
  have K_471 := K_462.wr W470 (Or.inl (List.mem_of_getElem? (i := 0) rfl))
  have E_a0__472 := E_a0__463.wr W470
  have Fvalue_a0__473 := Fvalue_a0__464.other W470 (Or.inr (slot_ne (Or.inr (wd hw 17)) (Or.inr (wd hw 18)) (by decide) (t := (.array .byte)) (t' := .byte) (by decide) (by decide)))
  have Fcoder_a0__474 := Fcoder_a0__465.same W470
  have V_a1_475 := V_a1_466.other W470 ne_a1_a0_
  have Ol_476 := Ol_467.wr W470 ge_a0_
  have V_x1_477 := V_x1_461.other W470 (Ne.symm ne_a0__x1_461)
  have Z_478 := Nat.le_trans Z_468 (Keep.of_wr W470).1
  have N470 := Fr.snoc X470 N469 ge_a0_
  refine Owe.aloadN X470.here hx (hb hby d8_51) rfl rfl ?_
  refine Owe.aload X470.here hx (hb hby d8_52) rfl rfl ?_
  refine Owe.putf X470 hx hZ (host := "") hown (Or.inl (wd hw 21)) Via.refl e470 Fvalue_a0__473 E_a0__472 (Or.inr ⟨(wd hw 17), rfl, hnm⟩) (wd hw 3) (ty := (.array .byte)) (by decide) rfl rfl (hb hby d8_54) rfl fun T479 h479 X479 e479 W479 => ?_
  have K_480 := K_471.wr W479 (Or.inl (List.mem_of_getElem? (i := 0) rfl))
  have E_a0__481 := E_a0__472.wr W479
  have Fvalue_a0__482 := Fvalue_a0__473.same W479
  have Fcoder_a0__483 := Fcoder_a0__474.other W479 (Or.inr (slot_ne (Or.inr (wd hw 18)) (Or.inr (wd hw 17)) (by decide) (t := .byte) (t' := (.array .byte)) (by decide) (by decide)))
  have V_a1_484 := V_a1_475.other W479 ne_a1_a0_
  have Ol_485 := Ol_476.wr W479 ge_a0_
  have V_x1_486 := V_x1_477.other W479 (Ne.symm ne_a0__x1_461)
  have Z_487 := Nat.le_trans Z_478 (Keep.of_wr W479).1
  have N479 := Fr.snoc X479 N470 ge_a0_
  refine Owe.ret0 X479 hx hlk hrt (hb hby d8_57) rfl fun fs hE => ?_
  refine hG _ _ ⟨_, _, rfl, ?_, frameMono hE (by decide) (by decide)⟩
  show Qsiv3_1 Z a0_ a1 k1 v0 v1 v2 G1 h0 n0 _ T479.heap _
  rw [e479]
  exact ⟨x1_461, kb1_461, rfl, N479, K_480, E_a0__481, Fvalue_a0__482, Fcoder_a0__483, V_x1_486⟩
theorem ef_si3_1 (m : MethodId) (x0 : Addr) (x1 : Addr)  : entryFrame m #[(.ref x0), (.ref x1)] 2 = mkF m 0 #[.val (.ref x0), .val (.ref x1)] [] := by first | (simp [entryFrame, mkF, argsToLocals, Value.category]; done) | rfl
def Qsi3_1 (Z : State) (a0_ : Addr) (a1 : Addr) (k1 : ClassId) (v0 : Int32) (v1 : Int32) (v2 : Int32) (G1 : Int32) (h0 : Heap) (n0 : Nat) (v : Option Value) (h : Heap) (L : List Loc) : Prop := ∃ (b_ : Addr), ∃ (kb1 : ClassId), v = none ∧ Fr n0 L ∧ Keep h0 h [a0_] ∧ Exa Z h a0_ "java/lang/String" ∧ Fld Z h a0_ "java/lang/String" "value" "[B" (.ref b_) ∧ Fld Z h a0_ "java/lang/String" "coder" "B" (.int (1 : Int32)) ∧ Arv Z h b_ kb1 .byte (6 : Int32) [(.int (lo1 v0)), (.int (hi1 v0)), (.int (lo1 v1)), (.int (hi1 v1)), (.int (lo1 v2)), (.int (hi1 v2))] (.int (0 : Int32))
set_option maxRecDepth 65536 in
set_option maxHeartbeats 40000000 in
theorem rmsi3_1 (l : Launch) (Z : State) (a0 : Array Value) (hw : Hw Z a0) (ws : List Jvm.Cond) (a0_ : Addr) (a1 : Addr) (k1 : ClassId) (v0 : Int32) (v1 : Int32) (v2 : Int32) (G1 : Int32) (h0 : Heap) (n0 : Nat) (Z0 : n0 ≤ h0.size) (E_a0_ : Exa Z h0 a0_ "java/lang/String") (Fvalue_a0_ : Fld Z h0 a0_ "java/lang/String" "value" "[B" .null) (Fcoder_a0_ : Fld Z h0 a0_ "java/lang/String" "coder" "B" (.int (0 : Int32))) (ge_a0_ : n0 ≤ a0_) (V_a1 : Arv Z h0 a1 k1 .char (3 : Int32) [(.int v0), (.int v1), (.int v2)] (.int (0 : Int32))) (ne_a1_a0_ : a1 ≠ a0_) (hW : (255 : Int32) < v0 ∨ (255 : Int32) < v1 ∨ (255 : Int32) < v2) (hr0 : ¬ v0 < 0 ∧ ¬ (65535 : Int32) < v0) (hr1 : ¬ v1 < 0 ∧ ¬ (65535 : Int32) < v1) (hr2 : ¬ v2 < 0 ∧ ¬ (65535 : Int32) < v2) (S_COMPACT_STRINGS : Sta Z Z.heap "java/lang/String" "COMPACT_STRINGS" "Z" (.int G1)) (cs0 : ¬ (G1 = (0 : Int32))) (Ol : Old Z n0 h0) (S__assertionsDisabled : Sta Z Z.heap "java/lang/StringUTF16" "$assertionsDisabled" "Z" (.int (1 : Int32))) (S_HI_BYTE_SHIFT : Sta Z Z.heap "java/lang/StringUTF16" "HI_BYTE_SHIFT" "I" (.int (0 : Int32))) (S_LO_BYTE_SHIFT : Sta Z Z.heap "java/lang/StringUTF16" "LO_BYTE_SHIFT" "I" (.int (8 : Int32))) :
    MF l Z Y9 jdk_42_method_3_code 2 none ws ({ frames := 5, cells := 2, slots := 9, locals := 76 } : Room) #[(.ref a0_), (.ref a1)] h0 (Qsi3_1 Z a0_ a1 k1 v0 v1 v2 G1 h0 n0) := by
  refine MF.of pn_1 (fun m => ef_si3_1 m a0_ a1) ?_
  intro p e s m below meth c s₁ G X0 e0 hx hby hml hown hnm hlk hrt hZ hnd hG
  have N0 := Fr.nil n0
  have K0 := Keep.refl h0 [a0_]
  refine Owe.aloadN X0.here hx (hb hby d9_0) rfl rfl ?_
  refine Owe.aloadN X0.here hx (hb hby d9_1) rfl rfl ?_
  refine Owe.iconst X0.here hx (hb hby d9_2) (w := (0 : Int32)) rfl ?_
  refine Owe.aloadN X0.here hx (hb hby d9_3) rfl rfl ?_
  refine Owe.arrlen X0 hx hZ e0 V_a1 (hb hby d9_4) rfl ?_
  refine Owe.aconstNull X0.here hx (hb hby d9_5)  ?_
  refine Owe.special X0 hx (y := Y8) rfl hown (mvT hZ (wd hw 8)) (mvT hZ (wd hw 9)) (mvT hZ (wd hw 11)) (by decide) (backOf (W := 0) (rmsiv3_1 l Z a0 hw [] a0_ a1 k1 v0 v1 v2 G1 h0 n0 Z0 E_a0_ Fvalue_a0_ Fcoder_a0_ ge_a0_ V_a1 ne_a1_a0_ hW hr0 hr1 hr2 S_COMPACT_STRINGS cs0 Ol S__assertionsDisabled S_HI_BYTE_SHIFT S_LO_BYTE_SHIFT) hZ (wd hw 11) (wd hw 4) (by decide) (by decide)) (by rw [hml]; rfl) (a := a0_) (argsL := [(.ref a1), (.int (0 : Int32)), (.int (3 : Int32)), .null]) (rest := []) (lenOf pd_6 rfl) rfl (nb rfl) (hb hby d9_6) rfl e0 (by decide) (by decide) fun T488 v488 L488 X488 hQ488 => ?_
  obtain ⟨b__488, kb1_488, rfl, Nq488, K488, E_a0__488, Fvalue_a0__488, Fcoder_a0__488, V_b__488⟩ := hQ488
  have N488 := Fr.app N0 Nq488
  have K_489 := K0.trans K488 (allS (Or.inl (List.mem_of_getElem? (i := 0) rfl)) all0)
  have E_a0__490 := E_a0_.keep K488
  have V_a1_491 := V_a1.keep K488 (ninS ne_a1_a0_ nin0)
  have Ol_492 := Ol.keep K488 (allS ge_a0_ all0)
  have Z_493 := Nat.le_trans Z0 K488.1
  refine Owe.ret0 X488 hx hlk hrt (hb hby d9_9) rfl fun fs hE => ?_
  refine hG _ _ ⟨_, _, rfl, ?_, frameMono hE (by decide) (by decide)⟩
  show Qsi3_1 Z a0_ a1 k1 v0 v1 v2 G1 h0 n0 _ T488.heap _
  exact ⟨b__488, kb1_488, rfl, N488, K_489, E_a0__488, Fvalue_a0__488, Fcoder_a0__488, V_b__488⟩
theorem ef_nbl4 (m : MethodId) (x0 : Int32)  : entryFrame m #[(.int x0)] 1 = mkF m 0 #[.val (.int x0)] [] := by first | (simp [entryFrame, mkF, argsToLocals, Value.category]; done) | rfl
def Qnbl4 (Z : State)  (h0 : Heap) (n0 : Nat) (v : Option Value) (h : Heap) (L : List Loc) : Prop := v = some (.int (8 : Int32)) ∧ Fr n0 L ∧ h = h0
set_option maxRecDepth 65536 in
set_option maxHeartbeats 40000000 in
theorem rmnbl4 (l : Launch) (Z : State) (a0 : Array Value) (hw : Hw Z a0) (ws : List Jvm.Cond)  (h0 : Heap) (n0 : Nat) (Z0 : n0 ≤ h0.size)  :
    MF l Z Y1 jdk_52_method_3_code 1 (some .int) ws ({ frames := 0, cells := 0, slots := 0, locals := 0 } : Room) #[(.int (4 : Int32))] h0 (Qnbl4 Z  h0 n0) := by
  refine MF.of pn_0 (fun m => ef_nbl4 m (4 : Int32)) ?_
  intro p e s m below meth c s₁ G X0 e0 hx hby hml hown hnm hlk hrt hZ hnd hG
  have N0 := Fr.nil n0
  refine Owe.iloadN X0.here hx (hb hby d1_0) rfl ?_
  refine Owe.ifYes X0.here hx (hb hby d1_1) rfl ((if0 _ _).trans (flt (by decide)).2.1) (pc' := 12) (by decide) (by decide) ?_
  refine Owe.iloadN X0.here hx (hb hby d1_12) rfl ?_
  refine Owe.ldcI X0 hx (v := (1073741823 : Int32)) hown (mvT hZ (wd hw 88)) (hb hby d1_13) ?_
  refine Owe.icmpYes X0.here hx (hb hby d1_15) rfl (tlt (by decide)).1 (pc' := 55) (by decide) (by decide) ?_
  refine Owe.iloadN X0.here hx (hb hby d1_55) rfl ?_
  refine Owe.iconst X0.here hx (hb hby d1_56) (w := (1 : Int32)) rfl ?_
  refine Owe.ishl X0.here hx (hb hby d1_57) rfl ?_
  refine Owe.retI X0 hx hlk hrt (hb hby d1_58) rfl fun fs hE => ?_
  refine hG _ _ ⟨_, _, rfl, ?_, frameMono hE (by decide) (by decide)⟩
  show Qnbl4 Z  h0 n0 _ s₁.heap _
  rw [e0]
  exact ⟨(congrArg (fun z => some (Value.int z)) (by decide)), N0, rfl⟩
theorem ef_nbf4 (m : MethodId) (x0 : Int32)  : entryFrame m #[(.int x0)] 1 = mkF m 0 #[.val (.int x0)] [] := by first | (simp [entryFrame, mkF, argsToLocals, Value.category]; done) | rfl
def Qnbf4 (Z : State)  (h0 : Heap) (n0 : Nat) (v : Option Value) (h : Heap) (L : List Loc) : Prop := ∃ (x1 : Addr), ∃ (kb1 : ClassId), v = some (.ref x1) ∧ Fr n0 L ∧ Keep h0 h [] ∧ n0 ≤ x1 ∧ h0.size ≤ x1 ∧ Arv Z h x1 kb1 .byte (8 : Int32) [(.int (0 : Int32)), (.int (0 : Int32)), (.int (0 : Int32)), (.int (0 : Int32)), (.int (0 : Int32)), (.int (0 : Int32)), (.int (0 : Int32)), (.int (0 : Int32))] (.int (0 : Int32))
set_option maxRecDepth 65536 in
set_option maxHeartbeats 40000000 in
theorem rmnbf4 (l : Launch) (Z : State) (a0 : Array Value) (hw : Hw Z a0) (ws : List Jvm.Cond)  (h0 : Heap) (n0 : Nat) (Z0 : n0 ≤ h0.size)  :
    MF l Z Y2 jdk_52_method_2_code 1 (some (.array .byte)) ws ({ frames := 1, cells := 1, slots := 8, locals := 12 } : Room) #[(.int (4 : Int32))] h0 (Qnbf4 Z  h0 n0) := by
  refine MF.of pn_0 (fun m => ef_nbf4 m (4 : Int32)) ?_
  intro p e s m below meth c s₁ G X0 e0 hx hby hml hown hnm hlk hrt hZ hnd hG
  have N0 := Fr.nil n0
  have K0 := Keep.refl h0 []
  refine Owe.iloadN X0.here hx (hb hby d2_0) rfl ?_
  refine Owe.stat X0 hx (y := Y1) hown (mvT hZ (wd hw 85)) (mvT hZ (wd hw 86)) (mvT hZ (wd hw 35)) (mvT hZ (wd hw 87)) (by decide) (backOf (W := 0) (rmnbl4 l Z a0 hw []  h0 n0 Z0 ) hZ (wd hw 87) (wd hw 35) (by decide) (by decide)) (by rw [hml]; rfl) (argsL := [(.int (4 : Int32))]) (rest := []) (lenOf pd_0 rfl) rfl (nb rfl) (hb hby d2_1) rfl e0 (by decide) (by decide) fun T494 v494 L494 X494 hQ494 => ?_
  obtain ⟨rfl, Nq494, e494⟩ := hQ494
  have N494 := Fr.app N0 Nq494
  refine Owe.newarr X494 hx hZ (aty := .byte) (wd hw 16) e494 (hb hby d2_4) rfl (by decide) (cap := 8) (by decide) (by decide) (by decide) (by decide) fun T495 h495 b495 k495 g495 X495 e495 E495 V495 => ?_
  have sz_b495 := Nat.le_trans K0.1 (Nat.le_of_eq g495.symm)
  have ge_b495 := Nat.le_trans Z0 (Nat.le_of_eq g495.symm)
  have K_496 := K0.ext E495
  have Z_497 := Nat.le_trans Z0 E495.1
  have V_b495_495 : Arv Z h495 b495 k495 .byte (8 : Int32) [(.int (0 : Int32)), (.int (0 : Int32)), (.int (0 : Int32)), (.int (0 : Int32)), (.int (0 : Int32)), (.int (0 : Int32)), (.int (0 : Int32)), (.int (0 : Int32))] (.int (0 : Int32)) := V495.pad (pad_rep [] (.int (0 : Int32)) 8)
  refine Owe.retR X495 hx hlk (t := (.array .byte)) hrt rfl rfl rfl (hb hby d2_6) rfl fun fs hE => ?_
  refine hG _ _ ⟨_, _, rfl, ?_, frameMono hE (by decide) (by decide)⟩
  show Qnbf4 Z  h0 n0 _ T495.heap _
  rw [e495]
  exact ⟨b495, k495, rfl, N494, K_496, ge_b495, sz_b495, V_b495_495⟩
theorem ef_ptc4_0 (m : MethodId) (x0 : Addr) (x1 : Int32) (x2 : Int32)  : entryFrame m #[(.ref x0), (.int x1), (.int x2)] 3 = mkF m 0 #[.val (.ref x0), .val (.int x1), .val (.int x2)] [] := by first | (simp [entryFrame, mkF, argsToLocals, Value.category]; done) | rfl
def Qptc4_0 (Z : State) (a1 : Addr) (k1 : ClassId) (c1 : Int32) (b0 : Int32) (b1 : Int32) (b2 : Int32) (b3 : Int32) (b4 : Int32) (b5 : Int32) (b6 : Int32) (b7 : Int32) (h0 : Heap) (n0 : Nat) (v : Option Value) (h : Heap) (L : List Loc) : Prop := v = none ∧ Fr n0 L ∧ Keep h0 h [a1] ∧ Arv Z h a1 k1 .byte (8 : Int32) [(.int (lo1 c1)), (.int (hi1 c1)), (.int b2), (.int b3), (.int b4), (.int b5), (.int b6), (.int b7)] (.int (0 : Int32))
set_option maxRecDepth 65536 in
set_option maxHeartbeats 40000000 in
theorem rmptc4_0 (l : Launch) (Z : State) (a0 : Array Value) (hw : Hw Z a0) (ws : List Jvm.Cond) (a1 : Addr) (k1 : ClassId) (c1 : Int32) (b0 : Int32) (b1 : Int32) (b2 : Int32) (b3 : Int32) (b4 : Int32) (b5 : Int32) (b6 : Int32) (b7 : Int32) (h0 : Heap) (n0 : Nat) (Z0 : n0 ≤ h0.size) (V_a1 : Arv Z h0 a1 k1 .byte (8 : Int32) [(.int b0), (.int b1), (.int b2), (.int b3), (.int b4), (.int b5), (.int b6), (.int b7)] (.int (0 : Int32))) (ge_a1 : n0 ≤ a1) (Ol : Old Z n0 h0) (S__assertionsDisabled : Sta Z Z.heap "java/lang/StringUTF16" "$assertionsDisabled" "Z" (.int (1 : Int32))) (S_HI_BYTE_SHIFT : Sta Z Z.heap "java/lang/StringUTF16" "HI_BYTE_SHIFT" "I" (.int (0 : Int32))) (S_LO_BYTE_SHIFT : Sta Z Z.heap "java/lang/StringUTF16" "LO_BYTE_SHIFT" "I" (.int (8 : Int32))) :
    MF l Z Y3 jdk_52_method_4_code 3 none ws ({ frames := 0, cells := 0, slots := 0, locals := 0 } : Room) #[(.ref a1), (.int (0 : Int32)), (.int c1)] h0 (Qptc4_0 Z a1 k1 c1 b0 b1 b2 b3 b4 b5 b6 b7 h0 n0) := by
  refine MF.of pn_0 (fun m => ef_ptc4_0 m a1 (0 : Int32) c1) ?_
  intro p e s m below meth c s₁ G X0 e0 hx hby hml hown hnm hlk hrt hZ hnd hG
  have N0 := Fr.nil n0
  have K0 := Keep.refl h0 [a1]
  refine Owe.gets X0 hx hZ hown (wd hw 92) Via.refl e0 (S__assertionsDisabled.ext Ol.2) (hb hby d3_0) fun T498 X498 e498 => ?_
  refine Owe.ifYes X498.here hx (hb hby d3_3) rfl ((if0 _ _).trans (feq (by decide)).2) (pc' := 28) (by decide) (by decide) ?_
  refine Owe.iloadN X498.here hx (hb hby d3_28) rfl ?_
  refine Owe.iconst X498.here hx (hb hby d3_29) (w := (1 : Int32)) rfl ?_
  refine Owe.ishl X498.here hx (hb hby d3_30) rfl ?_
  refine Owe.istoreN X498.here hx (hb hby d3_31) rfl (l' := #[.val (.ref a1), .val (.int (0 : Int32)), .val (.int c1)]) rfl ?_
  refine Owe.aloadN X498.here hx (hb hby d3_32) rfl rfl ?_
  refine Owe.iloadN X498.here hx (hb hby d3_33) rfl ?_
  refine Owe.iinc X498.here hx (hb hby d3_34) rfl (l' := #[.val (.ref a1), .val (.int (1 : Int32)), .val (.int c1)]) rfl ?_
  refine Owe.iloadN X498.here hx (hb hby d3_37) rfl ?_
  refine Owe.gets X498 hx hZ hown (wd hw 93) Via.refl e498 (S_HI_BYTE_SHIFT.ext Ol.2) (hb hby d3_38) fun T499 X499 e499 => ?_
  refine Owe.ishr X499.here hx (hb hby d3_41) rfl ?_
  refine Owe.i2b X499.here hx (hb hby d3_42) rfl ?_
  refine Owe.bastore X499 hx hZ e499 V_a1 (x := ((c1 >>> ((0 : Int32) &&& 31)).toInt8.toInt32)) 0 rfl (nb rfl) (by decide) (hb hby d3_43) rfl fun T500 h500 X500 e500 W500 (V500 : Arv Z h500 a1 k1 .byte (8 : Int32) [(.int (((c1 >>> ((0 : Int32) &&& 31)).toInt8.toInt32).toInt8.toInt32)), (.int b1), (.int b2), (.int b3), (.int b4), (.int b5), (.int b6), (.int b7)] (.int (0 : Int32))) => ?_
  have K_501 := K0.wr W500 (Or.inl (List.mem_of_getElem? (i := 0) rfl))
  have Ol_502 := Ol.wr W500 ge_a1
  have Z_503 := Nat.le_trans Z0 (Keep.of_wr W500).1
  have N500 := Fr.snoc X500 N0 ge_a1
  refine Owe.aloadN X500.here hx (hb hby d3_44) rfl rfl ?_
  refine Owe.iloadN X500.here hx (hb hby d3_45) rfl ?_
  refine Owe.iloadN X500.here hx (hb hby d3_46) rfl ?_
  refine Owe.gets X500 hx hZ hown (wd hw 94) Via.refl e500 (S_LO_BYTE_SHIFT.ext Ol_502.2) (hb hby d3_47) fun T504 X504 e504 => ?_
  refine Owe.ishr X504.here hx (hb hby d3_50) rfl ?_
  refine Owe.i2b X504.here hx (hb hby d3_51) rfl ?_
  refine Owe.bastore X504 hx hZ e504 V500 (x := ((c1 >>> ((8 : Int32) &&& 31)).toInt8.toInt32)) 1 rfl (nb rfl) (by decide) (hb hby d3_52) rfl fun T505 h505 X505 e505 W505 (V505 : Arv Z h505 a1 k1 .byte (8 : Int32) [(.int (((c1 >>> ((0 : Int32) &&& 31)).toInt8.toInt32).toInt8.toInt32)), (.int (((c1 >>> ((8 : Int32) &&& 31)).toInt8.toInt32).toInt8.toInt32)), (.int b2), (.int b3), (.int b4), (.int b5), (.int b6), (.int b7)] (.int (0 : Int32))) => ?_
  have K_506 := K_501.wr W505 (Or.inl (List.mem_of_getElem? (i := 0) rfl))
  have Ol_507 := Ol_502.wr W505 ge_a1
  have Z_508 := Nat.le_trans Z_503 (Keep.of_wr W505).1
  have N505 := Fr.snoc X505 N500 ge_a1
  refine Owe.ret0 X505 hx hlk hrt (hb hby d3_53) rfl fun fs hE => ?_
  refine hG _ _ ⟨_, _, rfl, ?_, frameMono hE (by decide) (by decide)⟩
  show Qptc4_0 Z a1 k1 c1 b0 b1 b2 b3 b4 b5 b6 b7 h0 n0 _ T505.heap _
  rw [e505]
  exact ⟨rfl, N505, K_506, V505⟩
theorem ef_ptc4_1 (m : MethodId) (x0 : Addr) (x1 : Int32) (x2 : Int32)  : entryFrame m #[(.ref x0), (.int x1), (.int x2)] 3 = mkF m 0 #[.val (.ref x0), .val (.int x1), .val (.int x2)] [] := by first | (simp [entryFrame, mkF, argsToLocals, Value.category]; done) | rfl
def Qptc4_1 (Z : State) (a1 : Addr) (k1 : ClassId) (c1 : Int32) (b0 : Int32) (b1 : Int32) (b2 : Int32) (b3 : Int32) (b4 : Int32) (b5 : Int32) (b6 : Int32) (b7 : Int32) (h0 : Heap) (n0 : Nat) (v : Option Value) (h : Heap) (L : List Loc) : Prop := v = none ∧ Fr n0 L ∧ Keep h0 h [a1] ∧ Arv Z h a1 k1 .byte (8 : Int32) [(.int b0), (.int b1), (.int (lo1 c1)), (.int (hi1 c1)), (.int b4), (.int b5), (.int b6), (.int b7)] (.int (0 : Int32))
set_option maxRecDepth 65536 in
set_option maxHeartbeats 40000000 in
theorem rmptc4_1 (l : Launch) (Z : State) (a0 : Array Value) (hw : Hw Z a0) (ws : List Jvm.Cond) (a1 : Addr) (k1 : ClassId) (c1 : Int32) (b0 : Int32) (b1 : Int32) (b2 : Int32) (b3 : Int32) (b4 : Int32) (b5 : Int32) (b6 : Int32) (b7 : Int32) (h0 : Heap) (n0 : Nat) (Z0 : n0 ≤ h0.size) (V_a1 : Arv Z h0 a1 k1 .byte (8 : Int32) [(.int b0), (.int b1), (.int b2), (.int b3), (.int b4), (.int b5), (.int b6), (.int b7)] (.int (0 : Int32))) (ge_a1 : n0 ≤ a1) (Ol : Old Z n0 h0) (S__assertionsDisabled : Sta Z Z.heap "java/lang/StringUTF16" "$assertionsDisabled" "Z" (.int (1 : Int32))) (S_HI_BYTE_SHIFT : Sta Z Z.heap "java/lang/StringUTF16" "HI_BYTE_SHIFT" "I" (.int (0 : Int32))) (S_LO_BYTE_SHIFT : Sta Z Z.heap "java/lang/StringUTF16" "LO_BYTE_SHIFT" "I" (.int (8 : Int32))) :
    MF l Z Y3 jdk_52_method_4_code 3 none ws ({ frames := 0, cells := 0, slots := 0, locals := 0 } : Room) #[(.ref a1), (.int (1 : Int32)), (.int c1)] h0 (Qptc4_1 Z a1 k1 c1 b0 b1 b2 b3 b4 b5 b6 b7 h0 n0) := by
  refine MF.of pn_0 (fun m => ef_ptc4_1 m a1 (1 : Int32) c1) ?_
  intro p e s m below meth c s₁ G X0 e0 hx hby hml hown hnm hlk hrt hZ hnd hG
  have N0 := Fr.nil n0
  have K0 := Keep.refl h0 [a1]
  refine Owe.gets X0 hx hZ hown (wd hw 92) Via.refl e0 (S__assertionsDisabled.ext Ol.2) (hb hby d3_0) fun T509 X509 e509 => ?_
  refine Owe.ifYes X509.here hx (hb hby d3_3) rfl ((if0 _ _).trans (feq (by decide)).2) (pc' := 28) (by decide) (by decide) ?_
  refine Owe.iloadN X509.here hx (hb hby d3_28) rfl ?_
  refine Owe.iconst X509.here hx (hb hby d3_29) (w := (1 : Int32)) rfl ?_
  refine Owe.ishl X509.here hx (hb hby d3_30) rfl ?_
  refine Owe.istoreN X509.here hx (hb hby d3_31) rfl (l' := #[.val (.ref a1), .val (.int (2 : Int32)), .val (.int c1)]) rfl ?_
  refine Owe.aloadN X509.here hx (hb hby d3_32) rfl rfl ?_
  refine Owe.iloadN X509.here hx (hb hby d3_33) rfl ?_
  refine Owe.iinc X509.here hx (hb hby d3_34) rfl (l' := #[.val (.ref a1), .val (.int (3 : Int32)), .val (.int c1)]) rfl ?_
  refine Owe.iloadN X509.here hx (hb hby d3_37) rfl ?_
  refine Owe.gets X509 hx hZ hown (wd hw 93) Via.refl e509 (S_HI_BYTE_SHIFT.ext Ol.2) (hb hby d3_38) fun T510 X510 e510 => ?_
  refine Owe.ishr X510.here hx (hb hby d3_41) rfl ?_
  refine Owe.i2b X510.here hx (hb hby d3_42) rfl ?_
  refine Owe.bastore X510 hx hZ e510 V_a1 (x := ((c1 >>> ((0 : Int32) &&& 31)).toInt8.toInt32)) 2 rfl (nb rfl) (by decide) (hb hby d3_43) rfl fun T511 h511 X511 e511 W511 (V511 : Arv Z h511 a1 k1 .byte (8 : Int32) [(.int b0), (.int b1), (.int (((c1 >>> ((0 : Int32) &&& 31)).toInt8.toInt32).toInt8.toInt32)), (.int b3), (.int b4), (.int b5), (.int b6), (.int b7)] (.int (0 : Int32))) => ?_
  have K_512 := K0.wr W511 (Or.inl (List.mem_of_getElem? (i := 0) rfl))
  have Ol_513 := Ol.wr W511 ge_a1
  have Z_514 := Nat.le_trans Z0 (Keep.of_wr W511).1
  have N511 := Fr.snoc X511 N0 ge_a1
  refine Owe.aloadN X511.here hx (hb hby d3_44) rfl rfl ?_
  refine Owe.iloadN X511.here hx (hb hby d3_45) rfl ?_
  refine Owe.iloadN X511.here hx (hb hby d3_46) rfl ?_
  refine Owe.gets X511 hx hZ hown (wd hw 94) Via.refl e511 (S_LO_BYTE_SHIFT.ext Ol_513.2) (hb hby d3_47) fun T515 X515 e515 => ?_
  refine Owe.ishr X515.here hx (hb hby d3_50) rfl ?_
  refine Owe.i2b X515.here hx (hb hby d3_51) rfl ?_
  refine Owe.bastore X515 hx hZ e515 V511 (x := ((c1 >>> ((8 : Int32) &&& 31)).toInt8.toInt32)) 3 rfl (nb rfl) (by decide) (hb hby d3_52) rfl fun T516 h516 X516 e516 W516 (V516 : Arv Z h516 a1 k1 .byte (8 : Int32) [(.int b0), (.int b1), (.int (((c1 >>> ((0 : Int32) &&& 31)).toInt8.toInt32).toInt8.toInt32)), (.int (((c1 >>> ((8 : Int32) &&& 31)).toInt8.toInt32).toInt8.toInt32)), (.int b4), (.int b5), (.int b6), (.int b7)] (.int (0 : Int32))) => ?_
  have K_517 := K_512.wr W516 (Or.inl (List.mem_of_getElem? (i := 0) rfl))
  have Ol_518 := Ol_513.wr W516 ge_a1
  have Z_519 := Nat.le_trans Z_514 (Keep.of_wr W516).1
  have N516 := Fr.snoc X516 N511 ge_a1
  refine Owe.ret0 X516 hx hlk hrt (hb hby d3_53) rfl fun fs hE => ?_
  refine hG _ _ ⟨_, _, rfl, ?_, frameMono hE (by decide) (by decide)⟩
  show Qptc4_1 Z a1 k1 c1 b0 b1 b2 b3 b4 b5 b6 b7 h0 n0 _ T516.heap _
  rw [e516]
  exact ⟨rfl, N516, K_517, V516⟩
theorem ef_ptc4_2 (m : MethodId) (x0 : Addr) (x1 : Int32) (x2 : Int32)  : entryFrame m #[(.ref x0), (.int x1), (.int x2)] 3 = mkF m 0 #[.val (.ref x0), .val (.int x1), .val (.int x2)] [] := by first | (simp [entryFrame, mkF, argsToLocals, Value.category]; done) | rfl
def Qptc4_2 (Z : State) (a1 : Addr) (k1 : ClassId) (c1 : Int32) (b0 : Int32) (b1 : Int32) (b2 : Int32) (b3 : Int32) (b4 : Int32) (b5 : Int32) (b6 : Int32) (b7 : Int32) (h0 : Heap) (n0 : Nat) (v : Option Value) (h : Heap) (L : List Loc) : Prop := v = none ∧ Fr n0 L ∧ Keep h0 h [a1] ∧ Arv Z h a1 k1 .byte (8 : Int32) [(.int b0), (.int b1), (.int b2), (.int b3), (.int (lo1 c1)), (.int (hi1 c1)), (.int b6), (.int b7)] (.int (0 : Int32))
set_option maxRecDepth 65536 in
set_option maxHeartbeats 40000000 in
theorem rmptc4_2 (l : Launch) (Z : State) (a0 : Array Value) (hw : Hw Z a0) (ws : List Jvm.Cond) (a1 : Addr) (k1 : ClassId) (c1 : Int32) (b0 : Int32) (b1 : Int32) (b2 : Int32) (b3 : Int32) (b4 : Int32) (b5 : Int32) (b6 : Int32) (b7 : Int32) (h0 : Heap) (n0 : Nat) (Z0 : n0 ≤ h0.size) (V_a1 : Arv Z h0 a1 k1 .byte (8 : Int32) [(.int b0), (.int b1), (.int b2), (.int b3), (.int b4), (.int b5), (.int b6), (.int b7)] (.int (0 : Int32))) (ge_a1 : n0 ≤ a1) (Ol : Old Z n0 h0) (S__assertionsDisabled : Sta Z Z.heap "java/lang/StringUTF16" "$assertionsDisabled" "Z" (.int (1 : Int32))) (S_HI_BYTE_SHIFT : Sta Z Z.heap "java/lang/StringUTF16" "HI_BYTE_SHIFT" "I" (.int (0 : Int32))) (S_LO_BYTE_SHIFT : Sta Z Z.heap "java/lang/StringUTF16" "LO_BYTE_SHIFT" "I" (.int (8 : Int32))) :
    MF l Z Y3 jdk_52_method_4_code 3 none ws ({ frames := 0, cells := 0, slots := 0, locals := 0 } : Room) #[(.ref a1), (.int (2 : Int32)), (.int c1)] h0 (Qptc4_2 Z a1 k1 c1 b0 b1 b2 b3 b4 b5 b6 b7 h0 n0) := by
  refine MF.of pn_0 (fun m => ef_ptc4_2 m a1 (2 : Int32) c1) ?_
  intro p e s m below meth c s₁ G X0 e0 hx hby hml hown hnm hlk hrt hZ hnd hG
  have N0 := Fr.nil n0
  have K0 := Keep.refl h0 [a1]
  refine Owe.gets X0 hx hZ hown (wd hw 92) Via.refl e0 (S__assertionsDisabled.ext Ol.2) (hb hby d3_0) fun T520 X520 e520 => ?_
  refine Owe.ifYes X520.here hx (hb hby d3_3) rfl ((if0 _ _).trans (feq (by decide)).2) (pc' := 28) (by decide) (by decide) ?_
  refine Owe.iloadN X520.here hx (hb hby d3_28) rfl ?_
  refine Owe.iconst X520.here hx (hb hby d3_29) (w := (1 : Int32)) rfl ?_
  refine Owe.ishl X520.here hx (hb hby d3_30) rfl ?_
  refine Owe.istoreN X520.here hx (hb hby d3_31) rfl (l' := #[.val (.ref a1), .val (.int (4 : Int32)), .val (.int c1)]) rfl ?_
  refine Owe.aloadN X520.here hx (hb hby d3_32) rfl rfl ?_
  refine Owe.iloadN X520.here hx (hb hby d3_33) rfl ?_
  refine Owe.iinc X520.here hx (hb hby d3_34) rfl (l' := #[.val (.ref a1), .val (.int (5 : Int32)), .val (.int c1)]) rfl ?_
  refine Owe.iloadN X520.here hx (hb hby d3_37) rfl ?_
  refine Owe.gets X520 hx hZ hown (wd hw 93) Via.refl e520 (S_HI_BYTE_SHIFT.ext Ol.2) (hb hby d3_38) fun T521 X521 e521 => ?_
  refine Owe.ishr X521.here hx (hb hby d3_41) rfl ?_
  refine Owe.i2b X521.here hx (hb hby d3_42) rfl ?_
  refine Owe.bastore X521 hx hZ e521 V_a1 (x := ((c1 >>> ((0 : Int32) &&& 31)).toInt8.toInt32)) 4 rfl (nb rfl) (by decide) (hb hby d3_43) rfl fun T522 h522 X522 e522 W522 (V522 : Arv Z h522 a1 k1 .byte (8 : Int32) [(.int b0), (.int b1), (.int b2), (.int b3), (.int (((c1 >>> ((0 : Int32) &&& 31)).toInt8.toInt32).toInt8.toInt32)), (.int b5), (.int b6), (.int b7)] (.int (0 : Int32))) => ?_
  have K_523 := K0.wr W522 (Or.inl (List.mem_of_getElem? (i := 0) rfl))
  have Ol_524 := Ol.wr W522 ge_a1
  have Z_525 := Nat.le_trans Z0 (Keep.of_wr W522).1
  have N522 := Fr.snoc X522 N0 ge_a1
  refine Owe.aloadN X522.here hx (hb hby d3_44) rfl rfl ?_
  refine Owe.iloadN X522.here hx (hb hby d3_45) rfl ?_
  refine Owe.iloadN X522.here hx (hb hby d3_46) rfl ?_
  refine Owe.gets X522 hx hZ hown (wd hw 94) Via.refl e522 (S_LO_BYTE_SHIFT.ext Ol_524.2) (hb hby d3_47) fun T526 X526 e526 => ?_
  refine Owe.ishr X526.here hx (hb hby d3_50) rfl ?_
  refine Owe.i2b X526.here hx (hb hby d3_51) rfl ?_
  refine Owe.bastore X526 hx hZ e526 V522 (x := ((c1 >>> ((8 : Int32) &&& 31)).toInt8.toInt32)) 5 rfl (nb rfl) (by decide) (hb hby d3_52) rfl fun T527 h527 X527 e527 W527 (V527 : Arv Z h527 a1 k1 .byte (8 : Int32) [(.int b0), (.int b1), (.int b2), (.int b3), (.int (((c1 >>> ((0 : Int32) &&& 31)).toInt8.toInt32).toInt8.toInt32)), (.int (((c1 >>> ((8 : Int32) &&& 31)).toInt8.toInt32).toInt8.toInt32)), (.int b6), (.int b7)] (.int (0 : Int32))) => ?_
  have K_528 := K_523.wr W527 (Or.inl (List.mem_of_getElem? (i := 0) rfl))
  have Ol_529 := Ol_524.wr W527 ge_a1
  have Z_530 := Nat.le_trans Z_525 (Keep.of_wr W527).1
  have N527 := Fr.snoc X527 N522 ge_a1
  refine Owe.ret0 X527 hx hlk hrt (hb hby d3_53) rfl fun fs hE => ?_
  refine hG _ _ ⟨_, _, rfl, ?_, frameMono hE (by decide) (by decide)⟩
  show Qptc4_2 Z a1 k1 c1 b0 b1 b2 b3 b4 b5 b6 b7 h0 n0 _ T527.heap _
  rw [e527]
  exact ⟨rfl, N527, K_528, V527⟩
theorem ef_ptc4_3 (m : MethodId) (x0 : Addr) (x1 : Int32) (x2 : Int32)  : entryFrame m #[(.ref x0), (.int x1), (.int x2)] 3 = mkF m 0 #[.val (.ref x0), .val (.int x1), .val (.int x2)] [] := by first | (simp [entryFrame, mkF, argsToLocals, Value.category]; done) | rfl
def Qptc4_3 (Z : State) (a1 : Addr) (k1 : ClassId) (c1 : Int32) (b0 : Int32) (b1 : Int32) (b2 : Int32) (b3 : Int32) (b4 : Int32) (b5 : Int32) (b6 : Int32) (b7 : Int32) (h0 : Heap) (n0 : Nat) (v : Option Value) (h : Heap) (L : List Loc) : Prop := v = none ∧ Fr n0 L ∧ Keep h0 h [a1] ∧ Arv Z h a1 k1 .byte (8 : Int32) [(.int b0), (.int b1), (.int b2), (.int b3), (.int b4), (.int b5), (.int (lo1 c1)), (.int (hi1 c1))] (.int (0 : Int32))
set_option maxRecDepth 65536 in
set_option maxHeartbeats 40000000 in
theorem rmptc4_3 (l : Launch) (Z : State) (a0 : Array Value) (hw : Hw Z a0) (ws : List Jvm.Cond) (a1 : Addr) (k1 : ClassId) (c1 : Int32) (b0 : Int32) (b1 : Int32) (b2 : Int32) (b3 : Int32) (b4 : Int32) (b5 : Int32) (b6 : Int32) (b7 : Int32) (h0 : Heap) (n0 : Nat) (Z0 : n0 ≤ h0.size) (V_a1 : Arv Z h0 a1 k1 .byte (8 : Int32) [(.int b0), (.int b1), (.int b2), (.int b3), (.int b4), (.int b5), (.int b6), (.int b7)] (.int (0 : Int32))) (ge_a1 : n0 ≤ a1) (Ol : Old Z n0 h0) (S__assertionsDisabled : Sta Z Z.heap "java/lang/StringUTF16" "$assertionsDisabled" "Z" (.int (1 : Int32))) (S_HI_BYTE_SHIFT : Sta Z Z.heap "java/lang/StringUTF16" "HI_BYTE_SHIFT" "I" (.int (0 : Int32))) (S_LO_BYTE_SHIFT : Sta Z Z.heap "java/lang/StringUTF16" "LO_BYTE_SHIFT" "I" (.int (8 : Int32))) :
    MF l Z Y3 jdk_52_method_4_code 3 none ws ({ frames := 0, cells := 0, slots := 0, locals := 0 } : Room) #[(.ref a1), (.int (3 : Int32)), (.int c1)] h0 (Qptc4_3 Z a1 k1 c1 b0 b1 b2 b3 b4 b5 b6 b7 h0 n0) := by
  refine MF.of pn_0 (fun m => ef_ptc4_3 m a1 (3 : Int32) c1) ?_
  intro p e s m below meth c s₁ G X0 e0 hx hby hml hown hnm hlk hrt hZ hnd hG
  have N0 := Fr.nil n0
  have K0 := Keep.refl h0 [a1]
  refine Owe.gets X0 hx hZ hown (wd hw 92) Via.refl e0 (S__assertionsDisabled.ext Ol.2) (hb hby d3_0) fun T531 X531 e531 => ?_
  refine Owe.ifYes X531.here hx (hb hby d3_3) rfl ((if0 _ _).trans (feq (by decide)).2) (pc' := 28) (by decide) (by decide) ?_
  refine Owe.iloadN X531.here hx (hb hby d3_28) rfl ?_
  refine Owe.iconst X531.here hx (hb hby d3_29) (w := (1 : Int32)) rfl ?_
  refine Owe.ishl X531.here hx (hb hby d3_30) rfl ?_
  refine Owe.istoreN X531.here hx (hb hby d3_31) rfl (l' := #[.val (.ref a1), .val (.int (6 : Int32)), .val (.int c1)]) rfl ?_
  refine Owe.aloadN X531.here hx (hb hby d3_32) rfl rfl ?_
  refine Owe.iloadN X531.here hx (hb hby d3_33) rfl ?_
  refine Owe.iinc X531.here hx (hb hby d3_34) rfl (l' := #[.val (.ref a1), .val (.int (7 : Int32)), .val (.int c1)]) rfl ?_
  refine Owe.iloadN X531.here hx (hb hby d3_37) rfl ?_
  refine Owe.gets X531 hx hZ hown (wd hw 93) Via.refl e531 (S_HI_BYTE_SHIFT.ext Ol.2) (hb hby d3_38) fun T532 X532 e532 => ?_
  refine Owe.ishr X532.here hx (hb hby d3_41) rfl ?_
  refine Owe.i2b X532.here hx (hb hby d3_42) rfl ?_
  refine Owe.bastore X532 hx hZ e532 V_a1 (x := ((c1 >>> ((0 : Int32) &&& 31)).toInt8.toInt32)) 6 rfl (nb rfl) (by decide) (hb hby d3_43) rfl fun T533 h533 X533 e533 W533 (V533 : Arv Z h533 a1 k1 .byte (8 : Int32) [(.int b0), (.int b1), (.int b2), (.int b3), (.int b4), (.int b5), (.int (((c1 >>> ((0 : Int32) &&& 31)).toInt8.toInt32).toInt8.toInt32)), (.int b7)] (.int (0 : Int32))) => ?_
  have K_534 := K0.wr W533 (Or.inl (List.mem_of_getElem? (i := 0) rfl))
  have Ol_535 := Ol.wr W533 ge_a1
  have Z_536 := Nat.le_trans Z0 (Keep.of_wr W533).1
  have N533 := Fr.snoc X533 N0 ge_a1
  refine Owe.aloadN X533.here hx (hb hby d3_44) rfl rfl ?_
  refine Owe.iloadN X533.here hx (hb hby d3_45) rfl ?_
  refine Owe.iloadN X533.here hx (hb hby d3_46) rfl ?_
  refine Owe.gets X533 hx hZ hown (wd hw 94) Via.refl e533 (S_LO_BYTE_SHIFT.ext Ol_535.2) (hb hby d3_47) fun T537 X537 e537 => ?_
  refine Owe.ishr X537.here hx (hb hby d3_50) rfl ?_
  refine Owe.i2b X537.here hx (hb hby d3_51) rfl ?_
  refine Owe.bastore X537 hx hZ e537 V533 (x := ((c1 >>> ((8 : Int32) &&& 31)).toInt8.toInt32)) 7 rfl (nb rfl) (by decide) (hb hby d3_52) rfl fun T538 h538 X538 e538 W538 (V538 : Arv Z h538 a1 k1 .byte (8 : Int32) [(.int b0), (.int b1), (.int b2), (.int b3), (.int b4), (.int b5), (.int (((c1 >>> ((0 : Int32) &&& 31)).toInt8.toInt32).toInt8.toInt32)), (.int (((c1 >>> ((8 : Int32) &&& 31)).toInt8.toInt32).toInt8.toInt32))] (.int (0 : Int32))) => ?_
  have K_539 := K_534.wr W538 (Or.inl (List.mem_of_getElem? (i := 0) rfl))
  have Ol_540 := Ol_535.wr W538 ge_a1
  have Z_541 := Nat.le_trans Z_536 (Keep.of_wr W538).1
  have N538 := Fr.snoc X538 N533 ge_a1
  refine Owe.ret0 X538 hx hlk hrt (hb hby d3_53) rfl fun fs hE => ?_
  refine hG _ _ ⟨_, _, rfl, ?_, frameMono hE (by decide) (by decide)⟩
  show Qptc4_3 Z a1 k1 c1 b0 b1 b2 b3 b4 b5 b6 b7 h0 n0 _ T538.heap _
  rw [e538]
  exact ⟨rfl, N538, K_539, V538⟩
theorem ef_tob4 (m : MethodId) (x0 : Addr) (x1 : Int32) (x2 : Int32)  : entryFrame m #[(.ref x0), (.int x1), (.int x2)] 5 = mkF m 0 #[.val (.ref x0), .val (.int x1), .val (.int x2), .unset, .unset] [] := by first | (simp [entryFrame, mkF, argsToLocals, Value.category]; done) | rfl
def Qtob4 (Z : State) (a1 : Addr) (k1 : ClassId) (v0 : Int32) (v1 : Int32) (v2 : Int32) (v3 : Int32) (h0 : Heap) (n0 : Nat) (v : Option Value) (h : Heap) (L : List Loc) : Prop := ∃ (x1 : Addr), ∃ (kb1 : ClassId), v = some (.ref x1) ∧ Fr n0 L ∧ Keep h0 h [] ∧ n0 ≤ x1 ∧ h0.size ≤ x1 ∧ Arv Z h x1 kb1 .byte (8 : Int32) [(.int (lo1 v0)), (.int (hi1 v0)), (.int (lo1 v1)), (.int (hi1 v1)), (.int (lo1 v2)), (.int (hi1 v2)), (.int (lo1 v3)), (.int (hi1 v3))] (.int (0 : Int32))
set_option maxRecDepth 65536 in
set_option maxHeartbeats 40000000 in
theorem rmtob4 (l : Launch) (Z : State) (a0 : Array Value) (hw : Hw Z a0) (ws : List Jvm.Cond) (a1 : Addr) (k1 : ClassId) (v0 : Int32) (v1 : Int32) (v2 : Int32) (v3 : Int32) (h0 : Heap) (n0 : Nat) (Z0 : n0 ≤ h0.size) (V_a1 : Arv Z h0 a1 k1 .char (4 : Int32) [(.int v0), (.int v1), (.int v2), (.int v3)] (.int (0 : Int32))) (Ol : Old Z n0 h0) (S__assertionsDisabled : Sta Z Z.heap "java/lang/StringUTF16" "$assertionsDisabled" "Z" (.int (1 : Int32))) (S_HI_BYTE_SHIFT : Sta Z Z.heap "java/lang/StringUTF16" "HI_BYTE_SHIFT" "I" (.int (0 : Int32))) (S_LO_BYTE_SHIFT : Sta Z Z.heap "java/lang/StringUTF16" "LO_BYTE_SHIFT" "I" (.int (8 : Int32))) :
    MF l Z Y4 jdk_52_method_14_code 5 (some (.array .byte)) ws ({ frames := 2, cells := 1, slots := 8, locals := 24 } : Room) #[(.ref a1), (.int (0 : Int32)), (.int (4 : Int32))] h0 (Qtob4 Z a1 k1 v0 v1 v2 v3 h0 n0) := by
  refine MF.of pn_0 (fun m => ef_tob4 m a1 (0 : Int32) (4 : Int32)) ?_
  intro p e s m below meth c s₁ G X0 e0 hx hby hml hown hnm hlk hrt hZ hnd hG
  have N0 := Fr.nil n0
  have K0 := Keep.refl h0 []
  refine Owe.iloadN X0.here hx (hb hby d4_0) rfl ?_
  refine Owe.stat X0 hx (y := Y2) hown (mvT hZ (wd hw 82)) (mvT hZ (wd hw 83)) (mvT hZ (wd hw 35)) (mvT hZ (wd hw 84)) (by decide) (backOf (W := 0) (rmnbf4 l Z a0 hw []  h0 n0 Z0 ) hZ (wd hw 84) (wd hw 35) (by decide) (by decide)) (by rw [hml]; rfl) (argsL := [(.int (4 : Int32))]) (rest := []) (lenOf pd_1 rfl) rfl (nb rfl) (hb hby d4_1) rfl e0 (by decide) (by decide) fun T542 v542 L542 X542 hQ542 => ?_
  obtain ⟨x1_542, kb1_542, rfl, Nq542, K542, ge_x1_542, fresh_x1_542, V_x1_542⟩ := hQ542
  have N542 := Fr.app N0 Nq542
  have K_543 := K0.trans K542 all0
  have V_a1_544 := V_a1.keep K542 nin0
  have Ol_545 := Ol.keep K542 all0
  have Z_546 := Nat.le_trans Z0 K542.1
  have ne_a1_x1_542 : a1 ≠ x1_542 := Nat.ne_of_lt (Nat.lt_of_lt_of_le V_a1.lt fresh_x1_542)
  have sz_x1_542 := Nat.le_trans K0.1 fresh_x1_542
  refine Owe.astoreN X542.here hx (hb hby d4_4) rfl rfl (l' := #[.val (.ref a1), .val (.int (0 : Int32)), .val (.int (4 : Int32)), .val (.ref x1_542), .unset]) rfl ?_
  refine Owe.iconst X542.here hx (hb hby d4_5) (w := (0 : Int32)) rfl ?_
  refine Owe.istore X542.here hx (hb hby d4_6) rfl (l' := #[.val (.ref a1), .val (.int (0 : Int32)), .val (.int (4 : Int32)), .val (.ref x1_542), .val (.int (0 : Int32))]) rfl ?_
  refine Owe.iload X542.here hx (hb hby d4_8) rfl ?_
  refine Owe.iloadN X542.here hx (hb hby d4_10) rfl ?_
  refine Owe.icmpNo X542.here hx (hb hby d4_11) rfl (tlt (by decide)).2.1 ?_
  refine Owe.aloadN X542.here hx (hb hby d4_14) rfl rfl ?_
  refine Owe.iload X542.here hx (hb hby d4_15) rfl ?_
  refine Owe.aloadN X542.here hx (hb hby d4_17) rfl rfl ?_
  refine Owe.iloadN X542.here hx (hb hby d4_18) rfl ?_
  refine Owe.caload X542 hx hZ rfl V_a1_544 (v := (.int v0)) (by decide) rfl (hb hby d4_19) rfl ?_
  refine Owe.stat X542 hx (y := Y3) hown (mvT hZ (wd hw 89)) (mvT hZ (wd hw 90)) (mvT hZ (wd hw 35)) (mvT hZ (wd hw 91)) (by decide) (backOf (W := 0) (rmptc4_0 l Z a0 hw [] x1_542 kb1_542 v0 (0 : Int32) (0 : Int32) (0 : Int32) (0 : Int32) (0 : Int32) (0 : Int32) (0 : Int32) (0 : Int32) T542.heap n0 Z_546 V_x1_542 ge_x1_542 Ol_545 S__assertionsDisabled S_HI_BYTE_SHIFT S_LO_BYTE_SHIFT) hZ (wd hw 91) (wd hw 35) (by decide) (by decide)) (by rw [hml]; rfl) (argsL := [(.ref x1_542), (.int (0 : Int32)), (.int v0)]) (rest := []) (lenOf pd_2 rfl) rfl (nb rfl) (hb hby d4_20) rfl rfl (by decide) (by decide) fun T547 v547 L547 X547 hQ547 => ?_
  obtain ⟨rfl, Nq547, K547, V_a1_547⟩ := hQ547
  have N547 := Fr.app N542 Nq547
  have K_548 := K_543.trans K547 (allS (Or.inr sz_x1_542) all0)
  have V_a1_549 := V_a1_544.keep K547 (ninS ne_a1_x1_542 nin0)
  have Ol_550 := Ol_545.keep K547 (allS ge_x1_542 all0)
  have Z_551 := Nat.le_trans Z_546 K547.1
  refine Owe.iinc X547.here hx (hb hby d4_23) rfl (l' := #[.val (.ref a1), .val (.int (1 : Int32)), .val (.int (4 : Int32)), .val (.ref x1_542), .val (.int (0 : Int32))]) rfl ?_
  refine Owe.iinc X547.here hx (hb hby d4_26) rfl (l' := #[.val (.ref a1), .val (.int (1 : Int32)), .val (.int (4 : Int32)), .val (.ref x1_542), .val (.int (1 : Int32))]) rfl ?_
  refine Owe.goto X547.here hx (hb hby d4_29) (pc' := 8) (by decide) (by decide) ?_
  refine Owe.iload X547.here hx (hb hby d4_8) rfl ?_
  refine Owe.iloadN X547.here hx (hb hby d4_10) rfl ?_
  refine Owe.icmpNo X547.here hx (hb hby d4_11) rfl (tlt (by decide)).2.1 ?_
  refine Owe.aloadN X547.here hx (hb hby d4_14) rfl rfl ?_
  refine Owe.iload X547.here hx (hb hby d4_15) rfl ?_
  refine Owe.aloadN X547.here hx (hb hby d4_17) rfl rfl ?_
  refine Owe.iloadN X547.here hx (hb hby d4_18) rfl ?_
  refine Owe.caload X547 hx hZ rfl V_a1_549 (v := (.int v1)) (by decide) rfl (hb hby d4_19) rfl ?_
  refine Owe.stat X547 hx (y := Y3) hown (mvT hZ (wd hw 89)) (mvT hZ (wd hw 90)) (mvT hZ (wd hw 35)) (mvT hZ (wd hw 91)) (by decide) (backOf (W := 0) (rmptc4_1 l Z a0 hw [] x1_542 kb1_542 v1 (lo1 v0) (hi1 v0) (0 : Int32) (0 : Int32) (0 : Int32) (0 : Int32) (0 : Int32) (0 : Int32) T547.heap n0 Z_551 V_a1_547 ge_x1_542 Ol_550 S__assertionsDisabled S_HI_BYTE_SHIFT S_LO_BYTE_SHIFT) hZ (wd hw 91) (wd hw 35) (by decide) (by decide)) (by rw [hml]; rfl) (argsL := [(.ref x1_542), (.int (1 : Int32)), (.int v1)]) (rest := []) (lenOf pd_2 rfl) rfl (nb rfl) (hb hby d4_20) rfl rfl (by decide) (by decide) fun T552 v552 L552 X552 hQ552 => ?_
  obtain ⟨rfl, Nq552, K552, V_a1_552⟩ := hQ552
  have N552 := Fr.app N547 Nq552
  have K_553 := K_548.trans K552 (allS (Or.inr sz_x1_542) all0)
  have V_a1_554 := V_a1_549.keep K552 (ninS ne_a1_x1_542 nin0)
  have Ol_555 := Ol_550.keep K552 (allS ge_x1_542 all0)
  have Z_556 := Nat.le_trans Z_551 K552.1
  refine Owe.iinc X552.here hx (hb hby d4_23) rfl (l' := #[.val (.ref a1), .val (.int (2 : Int32)), .val (.int (4 : Int32)), .val (.ref x1_542), .val (.int (1 : Int32))]) rfl ?_
  refine Owe.iinc X552.here hx (hb hby d4_26) rfl (l' := #[.val (.ref a1), .val (.int (2 : Int32)), .val (.int (4 : Int32)), .val (.ref x1_542), .val (.int (2 : Int32))]) rfl ?_
  refine Owe.goto X552.here hx (hb hby d4_29) (pc' := 8) (by decide) (by decide) ?_
  refine Owe.iload X552.here hx (hb hby d4_8) rfl ?_
  refine Owe.iloadN X552.here hx (hb hby d4_10) rfl ?_
  refine Owe.icmpNo X552.here hx (hb hby d4_11) rfl (tlt (by decide)).2.1 ?_
  refine Owe.aloadN X552.here hx (hb hby d4_14) rfl rfl ?_
  refine Owe.iload X552.here hx (hb hby d4_15) rfl ?_
  refine Owe.aloadN X552.here hx (hb hby d4_17) rfl rfl ?_
  refine Owe.iloadN X552.here hx (hb hby d4_18) rfl ?_
  refine Owe.caload X552 hx hZ rfl V_a1_554 (v := (.int v2)) (by decide) rfl (hb hby d4_19) rfl ?_
  refine Owe.stat X552 hx (y := Y3) hown (mvT hZ (wd hw 89)) (mvT hZ (wd hw 90)) (mvT hZ (wd hw 35)) (mvT hZ (wd hw 91)) (by decide) (backOf (W := 0) (rmptc4_2 l Z a0 hw [] x1_542 kb1_542 v2 (lo1 v0) (hi1 v0) (lo1 v1) (hi1 v1) (0 : Int32) (0 : Int32) (0 : Int32) (0 : Int32) T552.heap n0 Z_556 V_a1_552 ge_x1_542 Ol_555 S__assertionsDisabled S_HI_BYTE_SHIFT S_LO_BYTE_SHIFT) hZ (wd hw 91) (wd hw 35) (by decide) (by decide)) (by rw [hml]; rfl) (argsL := [(.ref x1_542), (.int (2 : Int32)), (.int v2)]) (rest := []) (lenOf pd_2 rfl) rfl (nb rfl) (hb hby d4_20) rfl rfl (by decide) (by decide) fun T557 v557 L557 X557 hQ557 => ?_
  obtain ⟨rfl, Nq557, K557, V_a1_557⟩ := hQ557
  have N557 := Fr.app N552 Nq557
  have K_558 := K_553.trans K557 (allS (Or.inr sz_x1_542) all0)
  have V_a1_559 := V_a1_554.keep K557 (ninS ne_a1_x1_542 nin0)
  have Ol_560 := Ol_555.keep K557 (allS ge_x1_542 all0)
  have Z_561 := Nat.le_trans Z_556 K557.1
  refine Owe.iinc X557.here hx (hb hby d4_23) rfl (l' := #[.val (.ref a1), .val (.int (3 : Int32)), .val (.int (4 : Int32)), .val (.ref x1_542), .val (.int (2 : Int32))]) rfl ?_
  refine Owe.iinc X557.here hx (hb hby d4_26) rfl (l' := #[.val (.ref a1), .val (.int (3 : Int32)), .val (.int (4 : Int32)), .val (.ref x1_542), .val (.int (3 : Int32))]) rfl ?_
  refine Owe.goto X557.here hx (hb hby d4_29) (pc' := 8) (by decide) (by decide) ?_
  refine Owe.iload X557.here hx (hb hby d4_8) rfl ?_
  refine Owe.iloadN X557.here hx (hb hby d4_10) rfl ?_
  refine Owe.icmpNo X557.here hx (hb hby d4_11) rfl (tlt (by decide)).2.1 ?_
  refine Owe.aloadN X557.here hx (hb hby d4_14) rfl rfl ?_
  refine Owe.iload X557.here hx (hb hby d4_15) rfl ?_
  refine Owe.aloadN X557.here hx (hb hby d4_17) rfl rfl ?_
  refine Owe.iloadN X557.here hx (hb hby d4_18) rfl ?_
  refine Owe.caload X557 hx hZ rfl V_a1_559 (v := (.int v3)) (by decide) rfl (hb hby d4_19) rfl ?_
  refine Owe.stat X557 hx (y := Y3) hown (mvT hZ (wd hw 89)) (mvT hZ (wd hw 90)) (mvT hZ (wd hw 35)) (mvT hZ (wd hw 91)) (by decide) (backOf (W := 0) (rmptc4_3 l Z a0 hw [] x1_542 kb1_542 v3 (lo1 v0) (hi1 v0) (lo1 v1) (hi1 v1) (lo1 v2) (hi1 v2) (0 : Int32) (0 : Int32) T557.heap n0 Z_561 V_a1_557 ge_x1_542 Ol_560 S__assertionsDisabled S_HI_BYTE_SHIFT S_LO_BYTE_SHIFT) hZ (wd hw 91) (wd hw 35) (by decide) (by decide)) (by rw [hml]; rfl) (argsL := [(.ref x1_542), (.int (3 : Int32)), (.int v3)]) (rest := []) (lenOf pd_2 rfl) rfl (nb rfl) (hb hby d4_20) rfl rfl (by decide) (by decide) fun T562 v562 L562 X562 hQ562 => ?_
  obtain ⟨rfl, Nq562, K562, V_a1_562⟩ := hQ562
  have N562 := Fr.app N557 Nq562
  have K_563 := K_558.trans K562 (allS (Or.inr sz_x1_542) all0)
  have V_a1_564 := V_a1_559.keep K562 (ninS ne_a1_x1_542 nin0)
  have Ol_565 := Ol_560.keep K562 (allS ge_x1_542 all0)
  have Z_566 := Nat.le_trans Z_561 K562.1
  refine Owe.iinc X562.here hx (hb hby d4_23) rfl (l' := #[.val (.ref a1), .val (.int (4 : Int32)), .val (.int (4 : Int32)), .val (.ref x1_542), .val (.int (3 : Int32))]) rfl ?_
  refine Owe.iinc X562.here hx (hb hby d4_26) rfl (l' := #[.val (.ref a1), .val (.int (4 : Int32)), .val (.int (4 : Int32)), .val (.ref x1_542), .val (.int (4 : Int32))]) rfl ?_
  refine Owe.goto X562.here hx (hb hby d4_29) (pc' := 8) (by decide) (by decide) ?_
  refine Owe.iload X562.here hx (hb hby d4_8) rfl ?_
  refine Owe.iloadN X562.here hx (hb hby d4_10) rfl ?_
  refine Owe.icmpYes X562.here hx (hb hby d4_11) rfl (flt (by decide)).2.1 (pc' := 32) (by decide) (by decide) ?_
  refine Owe.aloadN X562.here hx (hb hby d4_32) rfl rfl ?_
  refine Owe.retR X562 hx hlk (t := (.array .byte)) hrt rfl rfl rfl (hb hby d4_33) rfl fun fs hE => ?_
  refine hG _ _ ⟨_, _, rfl, ?_, frameMono hE (by decide) (by decide)⟩
  show Qtob4 Z a1 k1 v0 v1 v2 v3 h0 n0 _ T562.heap _
  exact ⟨x1_542, kb1_542, rfl, N562, K_563, ge_x1_542, sz_x1_542, V_a1_562⟩
theorem ef_cmi4_0 (m : MethodId) (x0 : Addr) (x1 : Int32) (x2 : Addr) (x3 : Int32) (x4 : Int32)  : entryFrame m #[(.ref x0), (.int x1), (.ref x2), (.int x3), (.int x4)] 7 = mkF m 0 #[.val (.ref x0), .val (.int x1), .val (.ref x2), .val (.int x3), .val (.int x4), .unset, .unset] [] := by first | (simp [entryFrame, mkF, argsToLocals, Value.category]; done) | rfl
def Qcmi4_0 (Z : State) (a1 : Addr) (k1 : ClassId) (a2 : Addr) (k2 : ClassId) (v0 : Int32) (v1 : Int32) (v2 : Int32) (v3 : Int32) (h0 : Heap) (n0 : Nat) (v : Option Value) (h : Heap) (L : List Loc) : Prop := v = some (.int (0 : Int32)) ∧ Fr n0 L ∧ Keep h0 h [a2]
set_option maxRecDepth 65536 in
set_option maxHeartbeats 40000000 in
theorem rmcmi4_0 (l : Launch) (Z : State) (a0 : Array Value) (hw : Hw Z a0) (ws : List Jvm.Cond) (a1 : Addr) (k1 : ClassId) (a2 : Addr) (k2 : ClassId) (v0 : Int32) (v1 : Int32) (v2 : Int32) (v3 : Int32) (h0 : Heap) (n0 : Nat) (Z0 : n0 ≤ h0.size) (V_a1 : Arv Z h0 a1 k1 .char (4 : Int32) [(.int v0), (.int v1), (.int v2), (.int v3)] (.int (0 : Int32))) (V_a2 : Arv Z h0 a2 k2 .byte (4 : Int32) [(.int (0 : Int32)), (.int (0 : Int32)), (.int (0 : Int32)), (.int (0 : Int32))] (.int (0 : Int32))) (ge_a2 : n0 ≤ a2) (ne_a1_a2 : a1 ≠ a2) (hg : (255 : Int32) < v0) :
    MF l Z Y5 jdk_52_method_21_code 7 (some .int) ws ({ frames := 0, cells := 0, slots := 0, locals := 0 } : Room) #[(.ref a1), (.int (0 : Int32)), (.ref a2), (.int (0 : Int32)), (.int (4 : Int32))] h0 (Qcmi4_0 Z a1 k1 a2 k2 v0 v1 v2 v3 h0 n0) := by
  refine MF.of pn_0 (fun m => ef_cmi4_0 m a1 (0 : Int32) a2 (0 : Int32) (4 : Int32)) ?_
  intro p e s m below meth c s₁ G X0 e0 hx hby hml hown hnm hlk hrt hZ hnd hG
  have N0 := Fr.nil n0
  have K0 := Keep.refl h0 [a2]
  refine Owe.iconst X0.here hx (hb hby d5_0) (w := (0 : Int32)) rfl ?_
  refine Owe.istore X0.here hx (hb hby d5_1) rfl (l' := #[.val (.ref a1), .val (.int (0 : Int32)), .val (.ref a2), .val (.int (0 : Int32)), .val (.int (4 : Int32)), .val (.int (0 : Int32)), .unset]) rfl ?_
  refine Owe.iload X0.here hx (hb hby d5_3) rfl ?_
  refine Owe.iload X0.here hx (hb hby d5_5) rfl ?_
  refine Owe.icmpNo X0.here hx (hb hby d5_7) rfl (tlt (by decide)).2.1 ?_
  refine Owe.aloadN X0.here hx (hb hby d5_10) rfl rfl ?_
  refine Owe.iloadN X0.here hx (hb hby d5_11) rfl ?_
  refine Owe.caload X0 hx hZ e0 V_a1 (v := (.int v0)) (by decide) rfl (hb hby d5_12) rfl ?_
  refine Owe.istore X0.here hx (hb hby d5_13) rfl (l' := #[.val (.ref a1), .val (.int (0 : Int32)), .val (.ref a2), .val (.int (0 : Int32)), .val (.int (4 : Int32)), .val (.int (0 : Int32)), .val (.int v0)]) rfl ?_
  refine Owe.iload X0.here hx (hb hby d5_15) rfl ?_
  refine Owe.sipush X0.here hx (hb hby d5_17) (w := (255 : Int32)) rfl ?_
  refine Owe.icmpNo X0.here hx (hb hby d5_20) rfl (tlt hg).2.2.2 ?_
  refine Owe.iload X0.here hx (hb hby d5_23) rfl ?_
  refine Owe.retI X0 hx hlk hrt (hb hby d5_25) rfl fun fs hE => ?_
  refine hG _ _ ⟨_, _, rfl, ?_, frameMono hE (by decide) (by decide)⟩
  show Qcmi4_0 Z a1 k1 a2 k2 v0 v1 v2 v3 h0 n0 _ s₁.heap _
  rw [e0]
  exact ⟨rfl, N0, K0⟩
theorem ef_cmi4_1 (m : MethodId) (x0 : Addr) (x1 : Int32) (x2 : Addr) (x3 : Int32) (x4 : Int32)  : entryFrame m #[(.ref x0), (.int x1), (.ref x2), (.int x3), (.int x4)] 7 = mkF m 0 #[.val (.ref x0), .val (.int x1), .val (.ref x2), .val (.int x3), .val (.int x4), .unset, .unset] [] := by first | (simp [entryFrame, mkF, argsToLocals, Value.category]; done) | rfl
def Qcmi4_1 (Z : State) (a1 : Addr) (k1 : ClassId) (a2 : Addr) (k2 : ClassId) (v0 : Int32) (v1 : Int32) (v2 : Int32) (v3 : Int32) (h0 : Heap) (n0 : Nat) (v : Option Value) (h : Heap) (L : List Loc) : Prop := v = some (.int (1 : Int32)) ∧ Fr n0 L ∧ Keep h0 h [a2]
set_option maxRecDepth 65536 in
set_option maxHeartbeats 40000000 in
theorem rmcmi4_1 (l : Launch) (Z : State) (a0 : Array Value) (hw : Hw Z a0) (ws : List Jvm.Cond) (a1 : Addr) (k1 : ClassId) (a2 : Addr) (k2 : ClassId) (v0 : Int32) (v1 : Int32) (v2 : Int32) (v3 : Int32) (h0 : Heap) (n0 : Nat) (Z0 : n0 ≤ h0.size) (V_a1 : Arv Z h0 a1 k1 .char (4 : Int32) [(.int v0), (.int v1), (.int v2), (.int v3)] (.int (0 : Int32))) (V_a2 : Arv Z h0 a2 k2 .byte (4 : Int32) [(.int (0 : Int32)), (.int (0 : Int32)), (.int (0 : Int32)), (.int (0 : Int32))] (.int (0 : Int32))) (ge_a2 : n0 ≤ a2) (ne_a1_a2 : a1 ≠ a2) (hl0 : ¬ (255 : Int32) < v0) (hg : (255 : Int32) < v1) :
    MF l Z Y5 jdk_52_method_21_code 7 (some .int) ws ({ frames := 0, cells := 0, slots := 0, locals := 0 } : Room) #[(.ref a1), (.int (0 : Int32)), (.ref a2), (.int (0 : Int32)), (.int (4 : Int32))] h0 (Qcmi4_1 Z a1 k1 a2 k2 v0 v1 v2 v3 h0 n0) := by
  refine MF.of pn_0 (fun m => ef_cmi4_1 m a1 (0 : Int32) a2 (0 : Int32) (4 : Int32)) ?_
  intro p e s m below meth c s₁ G X0 e0 hx hby hml hown hnm hlk hrt hZ hnd hG
  have N0 := Fr.nil n0
  have K0 := Keep.refl h0 [a2]
  refine Owe.iconst X0.here hx (hb hby d5_0) (w := (0 : Int32)) rfl ?_
  refine Owe.istore X0.here hx (hb hby d5_1) rfl (l' := #[.val (.ref a1), .val (.int (0 : Int32)), .val (.ref a2), .val (.int (0 : Int32)), .val (.int (4 : Int32)), .val (.int (0 : Int32)), .unset]) rfl ?_
  refine Owe.iload X0.here hx (hb hby d5_3) rfl ?_
  refine Owe.iload X0.here hx (hb hby d5_5) rfl ?_
  refine Owe.icmpNo X0.here hx (hb hby d5_7) rfl (tlt (by decide)).2.1 ?_
  refine Owe.aloadN X0.here hx (hb hby d5_10) rfl rfl ?_
  refine Owe.iloadN X0.here hx (hb hby d5_11) rfl ?_
  refine Owe.caload X0 hx hZ e0 V_a1 (v := (.int v0)) (by decide) rfl (hb hby d5_12) rfl ?_
  refine Owe.istore X0.here hx (hb hby d5_13) rfl (l' := #[.val (.ref a1), .val (.int (0 : Int32)), .val (.ref a2), .val (.int (0 : Int32)), .val (.int (4 : Int32)), .val (.int (0 : Int32)), .val (.int v0)]) rfl ?_
  refine Owe.iload X0.here hx (hb hby d5_15) rfl ?_
  refine Owe.sipush X0.here hx (hb hby d5_17) (w := (255 : Int32)) rfl ?_
  refine Owe.icmpYes X0.here hx (hb hby d5_20) rfl (flt hl0).2.2.2 (pc' := 26) (by decide) (by decide) ?_
  refine Owe.aloadN X0.here hx (hb hby d5_26) rfl rfl ?_
  refine Owe.iloadN X0.here hx (hb hby d5_27) rfl ?_
  refine Owe.iload X0.here hx (hb hby d5_28) rfl ?_
  refine Owe.i2b X0.here hx (hb hby d5_30) rfl ?_
  refine Owe.bastore X0 hx hZ e0 V_a2 (x := (v0.toInt8.toInt32)) 0 rfl (nb rfl) (by decide) (hb hby d5_31) rfl fun T567 h567 X567 e567 W567 (V567 : Arv Z h567 a2 k2 .byte (4 : Int32) [(.int ((v0.toInt8.toInt32).toInt8.toInt32)), (.int (0 : Int32)), (.int (0 : Int32)), (.int (0 : Int32))] (.int (0 : Int32))) => ?_
  have K_568 := K0.wr W567 (Or.inl (List.mem_of_getElem? (i := 0) rfl))
  have V_a1_569 := V_a1.other W567 ne_a1_a2
  have Z_570 := Nat.le_trans Z0 (Keep.of_wr W567).1
  have N567 := Fr.snoc X567 N0 ge_a2
  refine Owe.iinc X567.here hx (hb hby d5_32) rfl (l' := #[.val (.ref a1), .val (.int (1 : Int32)), .val (.ref a2), .val (.int (0 : Int32)), .val (.int (4 : Int32)), .val (.int (0 : Int32)), .val (.int v0)]) rfl ?_
  refine Owe.iinc X567.here hx (hb hby d5_35) rfl (l' := #[.val (.ref a1), .val (.int (1 : Int32)), .val (.ref a2), .val (.int (1 : Int32)), .val (.int (4 : Int32)), .val (.int (0 : Int32)), .val (.int v0)]) rfl ?_
  refine Owe.iinc X567.here hx (hb hby d5_38) rfl (l' := #[.val (.ref a1), .val (.int (1 : Int32)), .val (.ref a2), .val (.int (1 : Int32)), .val (.int (4 : Int32)), .val (.int (1 : Int32)), .val (.int v0)]) rfl ?_
  refine Owe.goto X567.here hx (hb hby d5_41) (pc' := 3) (by decide) (by decide) ?_
  refine Owe.iload X567.here hx (hb hby d5_3) rfl ?_
  refine Owe.iload X567.here hx (hb hby d5_5) rfl ?_
  refine Owe.icmpNo X567.here hx (hb hby d5_7) rfl (tlt (by decide)).2.1 ?_
  refine Owe.aloadN X567.here hx (hb hby d5_10) rfl rfl ?_
  refine Owe.iloadN X567.here hx (hb hby d5_11) rfl ?_
  refine Owe.caload X567 hx hZ e567 V_a1_569 (v := (.int v1)) (by decide) rfl (hb hby d5_12) rfl ?_
  refine Owe.istore X567.here hx (hb hby d5_13) rfl (l' := #[.val (.ref a1), .val (.int (1 : Int32)), .val (.ref a2), .val (.int (1 : Int32)), .val (.int (4 : Int32)), .val (.int (1 : Int32)), .val (.int v1)]) rfl ?_
  refine Owe.iload X567.here hx (hb hby d5_15) rfl ?_
  refine Owe.sipush X567.here hx (hb hby d5_17) (w := (255 : Int32)) rfl ?_
  refine Owe.icmpNo X567.here hx (hb hby d5_20) rfl (tlt hg).2.2.2 ?_
  refine Owe.iload X567.here hx (hb hby d5_23) rfl ?_
  refine Owe.retI X567 hx hlk hrt (hb hby d5_25) rfl fun fs hE => ?_
  refine hG _ _ ⟨_, _, rfl, ?_, frameMono hE (by decide) (by decide)⟩
  show Qcmi4_1 Z a1 k1 a2 k2 v0 v1 v2 v3 h0 n0 _ T567.heap _
  rw [e567]
  exact ⟨rfl, N567, K_568⟩
theorem ef_cmi4_2 (m : MethodId) (x0 : Addr) (x1 : Int32) (x2 : Addr) (x3 : Int32) (x4 : Int32)  : entryFrame m #[(.ref x0), (.int x1), (.ref x2), (.int x3), (.int x4)] 7 = mkF m 0 #[.val (.ref x0), .val (.int x1), .val (.ref x2), .val (.int x3), .val (.int x4), .unset, .unset] [] := by first | (simp [entryFrame, mkF, argsToLocals, Value.category]; done) | rfl
def Qcmi4_2 (Z : State) (a1 : Addr) (k1 : ClassId) (a2 : Addr) (k2 : ClassId) (v0 : Int32) (v1 : Int32) (v2 : Int32) (v3 : Int32) (h0 : Heap) (n0 : Nat) (v : Option Value) (h : Heap) (L : List Loc) : Prop := v = some (.int (2 : Int32)) ∧ Fr n0 L ∧ Keep h0 h [a2]
set_option maxRecDepth 65536 in
set_option maxHeartbeats 40000000 in
theorem rmcmi4_2 (l : Launch) (Z : State) (a0 : Array Value) (hw : Hw Z a0) (ws : List Jvm.Cond) (a1 : Addr) (k1 : ClassId) (a2 : Addr) (k2 : ClassId) (v0 : Int32) (v1 : Int32) (v2 : Int32) (v3 : Int32) (h0 : Heap) (n0 : Nat) (Z0 : n0 ≤ h0.size) (V_a1 : Arv Z h0 a1 k1 .char (4 : Int32) [(.int v0), (.int v1), (.int v2), (.int v3)] (.int (0 : Int32))) (V_a2 : Arv Z h0 a2 k2 .byte (4 : Int32) [(.int (0 : Int32)), (.int (0 : Int32)), (.int (0 : Int32)), (.int (0 : Int32))] (.int (0 : Int32))) (ge_a2 : n0 ≤ a2) (ne_a1_a2 : a1 ≠ a2) (hl0 : ¬ (255 : Int32) < v0) (hl1 : ¬ (255 : Int32) < v1) (hg : (255 : Int32) < v2) :
    MF l Z Y5 jdk_52_method_21_code 7 (some .int) ws ({ frames := 0, cells := 0, slots := 0, locals := 0 } : Room) #[(.ref a1), (.int (0 : Int32)), (.ref a2), (.int (0 : Int32)), (.int (4 : Int32))] h0 (Qcmi4_2 Z a1 k1 a2 k2 v0 v1 v2 v3 h0 n0) := by
  refine MF.of pn_0 (fun m => ef_cmi4_2 m a1 (0 : Int32) a2 (0 : Int32) (4 : Int32)) ?_
  intro p e s m below meth c s₁ G X0 e0 hx hby hml hown hnm hlk hrt hZ hnd hG
  have N0 := Fr.nil n0
  have K0 := Keep.refl h0 [a2]
  refine Owe.iconst X0.here hx (hb hby d5_0) (w := (0 : Int32)) rfl ?_
  refine Owe.istore X0.here hx (hb hby d5_1) rfl (l' := #[.val (.ref a1), .val (.int (0 : Int32)), .val (.ref a2), .val (.int (0 : Int32)), .val (.int (4 : Int32)), .val (.int (0 : Int32)), .unset]) rfl ?_
  refine Owe.iload X0.here hx (hb hby d5_3) rfl ?_
  refine Owe.iload X0.here hx (hb hby d5_5) rfl ?_
  refine Owe.icmpNo X0.here hx (hb hby d5_7) rfl (tlt (by decide)).2.1 ?_
  refine Owe.aloadN X0.here hx (hb hby d5_10) rfl rfl ?_
  refine Owe.iloadN X0.here hx (hb hby d5_11) rfl ?_
  refine Owe.caload X0 hx hZ e0 V_a1 (v := (.int v0)) (by decide) rfl (hb hby d5_12) rfl ?_
  refine Owe.istore X0.here hx (hb hby d5_13) rfl (l' := #[.val (.ref a1), .val (.int (0 : Int32)), .val (.ref a2), .val (.int (0 : Int32)), .val (.int (4 : Int32)), .val (.int (0 : Int32)), .val (.int v0)]) rfl ?_
  refine Owe.iload X0.here hx (hb hby d5_15) rfl ?_
  refine Owe.sipush X0.here hx (hb hby d5_17) (w := (255 : Int32)) rfl ?_
  refine Owe.icmpYes X0.here hx (hb hby d5_20) rfl (flt hl0).2.2.2 (pc' := 26) (by decide) (by decide) ?_
  refine Owe.aloadN X0.here hx (hb hby d5_26) rfl rfl ?_
  refine Owe.iloadN X0.here hx (hb hby d5_27) rfl ?_
  refine Owe.iload X0.here hx (hb hby d5_28) rfl ?_
  refine Owe.i2b X0.here hx (hb hby d5_30) rfl ?_
  refine Owe.bastore X0 hx hZ e0 V_a2 (x := (v0.toInt8.toInt32)) 0 rfl (nb rfl) (by decide) (hb hby d5_31) rfl fun T571 h571 X571 e571 W571 (V571 : Arv Z h571 a2 k2 .byte (4 : Int32) [(.int ((v0.toInt8.toInt32).toInt8.toInt32)), (.int (0 : Int32)), (.int (0 : Int32)), (.int (0 : Int32))] (.int (0 : Int32))) => ?_
  have K_572 := K0.wr W571 (Or.inl (List.mem_of_getElem? (i := 0) rfl))
  have V_a1_573 := V_a1.other W571 ne_a1_a2
  have Z_574 := Nat.le_trans Z0 (Keep.of_wr W571).1
  have N571 := Fr.snoc X571 N0 ge_a2
  refine Owe.iinc X571.here hx (hb hby d5_32) rfl (l' := #[.val (.ref a1), .val (.int (1 : Int32)), .val (.ref a2), .val (.int (0 : Int32)), .val (.int (4 : Int32)), .val (.int (0 : Int32)), .val (.int v0)]) rfl ?_
  refine Owe.iinc X571.here hx (hb hby d5_35) rfl (l' := #[.val (.ref a1), .val (.int (1 : Int32)), .val (.ref a2), .val (.int (1 : Int32)), .val (.int (4 : Int32)), .val (.int (0 : Int32)), .val (.int v0)]) rfl ?_
  refine Owe.iinc X571.here hx (hb hby d5_38) rfl (l' := #[.val (.ref a1), .val (.int (1 : Int32)), .val (.ref a2), .val (.int (1 : Int32)), .val (.int (4 : Int32)), .val (.int (1 : Int32)), .val (.int v0)]) rfl ?_
  refine Owe.goto X571.here hx (hb hby d5_41) (pc' := 3) (by decide) (by decide) ?_
  refine Owe.iload X571.here hx (hb hby d5_3) rfl ?_
  refine Owe.iload X571.here hx (hb hby d5_5) rfl ?_
  refine Owe.icmpNo X571.here hx (hb hby d5_7) rfl (tlt (by decide)).2.1 ?_
  refine Owe.aloadN X571.here hx (hb hby d5_10) rfl rfl ?_
  refine Owe.iloadN X571.here hx (hb hby d5_11) rfl ?_
  refine Owe.caload X571 hx hZ e571 V_a1_573 (v := (.int v1)) (by decide) rfl (hb hby d5_12) rfl ?_
  refine Owe.istore X571.here hx (hb hby d5_13) rfl (l' := #[.val (.ref a1), .val (.int (1 : Int32)), .val (.ref a2), .val (.int (1 : Int32)), .val (.int (4 : Int32)), .val (.int (1 : Int32)), .val (.int v1)]) rfl ?_
  refine Owe.iload X571.here hx (hb hby d5_15) rfl ?_
  refine Owe.sipush X571.here hx (hb hby d5_17) (w := (255 : Int32)) rfl ?_
  refine Owe.icmpYes X571.here hx (hb hby d5_20) rfl (flt hl1).2.2.2 (pc' := 26) (by decide) (by decide) ?_
  refine Owe.aloadN X571.here hx (hb hby d5_26) rfl rfl ?_
  refine Owe.iloadN X571.here hx (hb hby d5_27) rfl ?_
  refine Owe.iload X571.here hx (hb hby d5_28) rfl ?_
  refine Owe.i2b X571.here hx (hb hby d5_30) rfl ?_
  refine Owe.bastore X571 hx hZ e571 V571 (x := (v1.toInt8.toInt32)) 1 rfl (nb rfl) (by decide) (hb hby d5_31) rfl fun T575 h575 X575 e575 W575 (V575 : Arv Z h575 a2 k2 .byte (4 : Int32) [(.int ((v0.toInt8.toInt32).toInt8.toInt32)), (.int ((v1.toInt8.toInt32).toInt8.toInt32)), (.int (0 : Int32)), (.int (0 : Int32))] (.int (0 : Int32))) => ?_
  have K_576 := K_572.wr W575 (Or.inl (List.mem_of_getElem? (i := 0) rfl))
  have V_a1_577 := V_a1_573.other W575 ne_a1_a2
  have Z_578 := Nat.le_trans Z_574 (Keep.of_wr W575).1
  have N575 := Fr.snoc X575 N571 ge_a2
  refine Owe.iinc X575.here hx (hb hby d5_32) rfl (l' := #[.val (.ref a1), .val (.int (2 : Int32)), .val (.ref a2), .val (.int (1 : Int32)), .val (.int (4 : Int32)), .val (.int (1 : Int32)), .val (.int v1)]) rfl ?_
  refine Owe.iinc X575.here hx (hb hby d5_35) rfl (l' := #[.val (.ref a1), .val (.int (2 : Int32)), .val (.ref a2), .val (.int (2 : Int32)), .val (.int (4 : Int32)), .val (.int (1 : Int32)), .val (.int v1)]) rfl ?_
  refine Owe.iinc X575.here hx (hb hby d5_38) rfl (l' := #[.val (.ref a1), .val (.int (2 : Int32)), .val (.ref a2), .val (.int (2 : Int32)), .val (.int (4 : Int32)), .val (.int (2 : Int32)), .val (.int v1)]) rfl ?_
  refine Owe.goto X575.here hx (hb hby d5_41) (pc' := 3) (by decide) (by decide) ?_
  refine Owe.iload X575.here hx (hb hby d5_3) rfl ?_
  refine Owe.iload X575.here hx (hb hby d5_5) rfl ?_
  refine Owe.icmpNo X575.here hx (hb hby d5_7) rfl (tlt (by decide)).2.1 ?_
  refine Owe.aloadN X575.here hx (hb hby d5_10) rfl rfl ?_
  refine Owe.iloadN X575.here hx (hb hby d5_11) rfl ?_
  refine Owe.caload X575 hx hZ e575 V_a1_577 (v := (.int v2)) (by decide) rfl (hb hby d5_12) rfl ?_
  refine Owe.istore X575.here hx (hb hby d5_13) rfl (l' := #[.val (.ref a1), .val (.int (2 : Int32)), .val (.ref a2), .val (.int (2 : Int32)), .val (.int (4 : Int32)), .val (.int (2 : Int32)), .val (.int v2)]) rfl ?_
  refine Owe.iload X575.here hx (hb hby d5_15) rfl ?_
  refine Owe.sipush X575.here hx (hb hby d5_17) (w := (255 : Int32)) rfl ?_
  refine Owe.icmpNo X575.here hx (hb hby d5_20) rfl (tlt hg).2.2.2 ?_
  refine Owe.iload X575.here hx (hb hby d5_23) rfl ?_
  refine Owe.retI X575 hx hlk hrt (hb hby d5_25) rfl fun fs hE => ?_
  refine hG _ _ ⟨_, _, rfl, ?_, frameMono hE (by decide) (by decide)⟩
  show Qcmi4_2 Z a1 k1 a2 k2 v0 v1 v2 v3 h0 n0 _ T575.heap _
  rw [e575]
  exact ⟨rfl, N575, K_576⟩
theorem ef_cmi4_3 (m : MethodId) (x0 : Addr) (x1 : Int32) (x2 : Addr) (x3 : Int32) (x4 : Int32)  : entryFrame m #[(.ref x0), (.int x1), (.ref x2), (.int x3), (.int x4)] 7 = mkF m 0 #[.val (.ref x0), .val (.int x1), .val (.ref x2), .val (.int x3), .val (.int x4), .unset, .unset] [] := by first | (simp [entryFrame, mkF, argsToLocals, Value.category]; done) | rfl
def Qcmi4_3 (Z : State) (a1 : Addr) (k1 : ClassId) (a2 : Addr) (k2 : ClassId) (v0 : Int32) (v1 : Int32) (v2 : Int32) (v3 : Int32) (h0 : Heap) (n0 : Nat) (v : Option Value) (h : Heap) (L : List Loc) : Prop := v = some (.int (3 : Int32)) ∧ Fr n0 L ∧ Keep h0 h [a2]
set_option maxRecDepth 65536 in
set_option maxHeartbeats 40000000 in
theorem rmcmi4_3 (l : Launch) (Z : State) (a0 : Array Value) (hw : Hw Z a0) (ws : List Jvm.Cond) (a1 : Addr) (k1 : ClassId) (a2 : Addr) (k2 : ClassId) (v0 : Int32) (v1 : Int32) (v2 : Int32) (v3 : Int32) (h0 : Heap) (n0 : Nat) (Z0 : n0 ≤ h0.size) (V_a1 : Arv Z h0 a1 k1 .char (4 : Int32) [(.int v0), (.int v1), (.int v2), (.int v3)] (.int (0 : Int32))) (V_a2 : Arv Z h0 a2 k2 .byte (4 : Int32) [(.int (0 : Int32)), (.int (0 : Int32)), (.int (0 : Int32)), (.int (0 : Int32))] (.int (0 : Int32))) (ge_a2 : n0 ≤ a2) (ne_a1_a2 : a1 ≠ a2) (hl0 : ¬ (255 : Int32) < v0) (hl1 : ¬ (255 : Int32) < v1) (hl2 : ¬ (255 : Int32) < v2) (hg : (255 : Int32) < v3) :
    MF l Z Y5 jdk_52_method_21_code 7 (some .int) ws ({ frames := 0, cells := 0, slots := 0, locals := 0 } : Room) #[(.ref a1), (.int (0 : Int32)), (.ref a2), (.int (0 : Int32)), (.int (4 : Int32))] h0 (Qcmi4_3 Z a1 k1 a2 k2 v0 v1 v2 v3 h0 n0) := by
  refine MF.of pn_0 (fun m => ef_cmi4_3 m a1 (0 : Int32) a2 (0 : Int32) (4 : Int32)) ?_
  intro p e s m below meth c s₁ G X0 e0 hx hby hml hown hnm hlk hrt hZ hnd hG
  have N0 := Fr.nil n0
  have K0 := Keep.refl h0 [a2]
  refine Owe.iconst X0.here hx (hb hby d5_0) (w := (0 : Int32)) rfl ?_
  refine Owe.istore X0.here hx (hb hby d5_1) rfl (l' := #[.val (.ref a1), .val (.int (0 : Int32)), .val (.ref a2), .val (.int (0 : Int32)), .val (.int (4 : Int32)), .val (.int (0 : Int32)), .unset]) rfl ?_
  refine Owe.iload X0.here hx (hb hby d5_3) rfl ?_
  refine Owe.iload X0.here hx (hb hby d5_5) rfl ?_
  refine Owe.icmpNo X0.here hx (hb hby d5_7) rfl (tlt (by decide)).2.1 ?_
  refine Owe.aloadN X0.here hx (hb hby d5_10) rfl rfl ?_
  refine Owe.iloadN X0.here hx (hb hby d5_11) rfl ?_
  refine Owe.caload X0 hx hZ e0 V_a1 (v := (.int v0)) (by decide) rfl (hb hby d5_12) rfl ?_
  refine Owe.istore X0.here hx (hb hby d5_13) rfl (l' := #[.val (.ref a1), .val (.int (0 : Int32)), .val (.ref a2), .val (.int (0 : Int32)), .val (.int (4 : Int32)), .val (.int (0 : Int32)), .val (.int v0)]) rfl ?_
  refine Owe.iload X0.here hx (hb hby d5_15) rfl ?_
  refine Owe.sipush X0.here hx (hb hby d5_17) (w := (255 : Int32)) rfl ?_
  refine Owe.icmpYes X0.here hx (hb hby d5_20) rfl (flt hl0).2.2.2 (pc' := 26) (by decide) (by decide) ?_
  refine Owe.aloadN X0.here hx (hb hby d5_26) rfl rfl ?_
  refine Owe.iloadN X0.here hx (hb hby d5_27) rfl ?_
  refine Owe.iload X0.here hx (hb hby d5_28) rfl ?_
  refine Owe.i2b X0.here hx (hb hby d5_30) rfl ?_
  refine Owe.bastore X0 hx hZ e0 V_a2 (x := (v0.toInt8.toInt32)) 0 rfl (nb rfl) (by decide) (hb hby d5_31) rfl fun T579 h579 X579 e579 W579 (V579 : Arv Z h579 a2 k2 .byte (4 : Int32) [(.int ((v0.toInt8.toInt32).toInt8.toInt32)), (.int (0 : Int32)), (.int (0 : Int32)), (.int (0 : Int32))] (.int (0 : Int32))) => ?_
  have K_580 := K0.wr W579 (Or.inl (List.mem_of_getElem? (i := 0) rfl))
  have V_a1_581 := V_a1.other W579 ne_a1_a2
  have Z_582 := Nat.le_trans Z0 (Keep.of_wr W579).1
  have N579 := Fr.snoc X579 N0 ge_a2
  refine Owe.iinc X579.here hx (hb hby d5_32) rfl (l' := #[.val (.ref a1), .val (.int (1 : Int32)), .val (.ref a2), .val (.int (0 : Int32)), .val (.int (4 : Int32)), .val (.int (0 : Int32)), .val (.int v0)]) rfl ?_
  refine Owe.iinc X579.here hx (hb hby d5_35) rfl (l' := #[.val (.ref a1), .val (.int (1 : Int32)), .val (.ref a2), .val (.int (1 : Int32)), .val (.int (4 : Int32)), .val (.int (0 : Int32)), .val (.int v0)]) rfl ?_
  refine Owe.iinc X579.here hx (hb hby d5_38) rfl (l' := #[.val (.ref a1), .val (.int (1 : Int32)), .val (.ref a2), .val (.int (1 : Int32)), .val (.int (4 : Int32)), .val (.int (1 : Int32)), .val (.int v0)]) rfl ?_
  refine Owe.goto X579.here hx (hb hby d5_41) (pc' := 3) (by decide) (by decide) ?_
  refine Owe.iload X579.here hx (hb hby d5_3) rfl ?_
  refine Owe.iload X579.here hx (hb hby d5_5) rfl ?_
  refine Owe.icmpNo X579.here hx (hb hby d5_7) rfl (tlt (by decide)).2.1 ?_
  refine Owe.aloadN X579.here hx (hb hby d5_10) rfl rfl ?_
  refine Owe.iloadN X579.here hx (hb hby d5_11) rfl ?_
  refine Owe.caload X579 hx hZ e579 V_a1_581 (v := (.int v1)) (by decide) rfl (hb hby d5_12) rfl ?_
  refine Owe.istore X579.here hx (hb hby d5_13) rfl (l' := #[.val (.ref a1), .val (.int (1 : Int32)), .val (.ref a2), .val (.int (1 : Int32)), .val (.int (4 : Int32)), .val (.int (1 : Int32)), .val (.int v1)]) rfl ?_
  refine Owe.iload X579.here hx (hb hby d5_15) rfl ?_
  refine Owe.sipush X579.here hx (hb hby d5_17) (w := (255 : Int32)) rfl ?_
  refine Owe.icmpYes X579.here hx (hb hby d5_20) rfl (flt hl1).2.2.2 (pc' := 26) (by decide) (by decide) ?_
  refine Owe.aloadN X579.here hx (hb hby d5_26) rfl rfl ?_
  refine Owe.iloadN X579.here hx (hb hby d5_27) rfl ?_
  refine Owe.iload X579.here hx (hb hby d5_28) rfl ?_
  refine Owe.i2b X579.here hx (hb hby d5_30) rfl ?_
  refine Owe.bastore X579 hx hZ e579 V579 (x := (v1.toInt8.toInt32)) 1 rfl (nb rfl) (by decide) (hb hby d5_31) rfl fun T583 h583 X583 e583 W583 (V583 : Arv Z h583 a2 k2 .byte (4 : Int32) [(.int ((v0.toInt8.toInt32).toInt8.toInt32)), (.int ((v1.toInt8.toInt32).toInt8.toInt32)), (.int (0 : Int32)), (.int (0 : Int32))] (.int (0 : Int32))) => ?_
  have K_584 := K_580.wr W583 (Or.inl (List.mem_of_getElem? (i := 0) rfl))
  have V_a1_585 := V_a1_581.other W583 ne_a1_a2
  have Z_586 := Nat.le_trans Z_582 (Keep.of_wr W583).1
  have N583 := Fr.snoc X583 N579 ge_a2
  refine Owe.iinc X583.here hx (hb hby d5_32) rfl (l' := #[.val (.ref a1), .val (.int (2 : Int32)), .val (.ref a2), .val (.int (1 : Int32)), .val (.int (4 : Int32)), .val (.int (1 : Int32)), .val (.int v1)]) rfl ?_
  refine Owe.iinc X583.here hx (hb hby d5_35) rfl (l' := #[.val (.ref a1), .val (.int (2 : Int32)), .val (.ref a2), .val (.int (2 : Int32)), .val (.int (4 : Int32)), .val (.int (1 : Int32)), .val (.int v1)]) rfl ?_
  refine Owe.iinc X583.here hx (hb hby d5_38) rfl (l' := #[.val (.ref a1), .val (.int (2 : Int32)), .val (.ref a2), .val (.int (2 : Int32)), .val (.int (4 : Int32)), .val (.int (2 : Int32)), .val (.int v1)]) rfl ?_
  refine Owe.goto X583.here hx (hb hby d5_41) (pc' := 3) (by decide) (by decide) ?_
  refine Owe.iload X583.here hx (hb hby d5_3) rfl ?_
  refine Owe.iload X583.here hx (hb hby d5_5) rfl ?_
  refine Owe.icmpNo X583.here hx (hb hby d5_7) rfl (tlt (by decide)).2.1 ?_
  refine Owe.aloadN X583.here hx (hb hby d5_10) rfl rfl ?_
  refine Owe.iloadN X583.here hx (hb hby d5_11) rfl ?_
  refine Owe.caload X583 hx hZ e583 V_a1_585 (v := (.int v2)) (by decide) rfl (hb hby d5_12) rfl ?_
  refine Owe.istore X583.here hx (hb hby d5_13) rfl (l' := #[.val (.ref a1), .val (.int (2 : Int32)), .val (.ref a2), .val (.int (2 : Int32)), .val (.int (4 : Int32)), .val (.int (2 : Int32)), .val (.int v2)]) rfl ?_
  refine Owe.iload X583.here hx (hb hby d5_15) rfl ?_
  refine Owe.sipush X583.here hx (hb hby d5_17) (w := (255 : Int32)) rfl ?_
  refine Owe.icmpYes X583.here hx (hb hby d5_20) rfl (flt hl2).2.2.2 (pc' := 26) (by decide) (by decide) ?_
  refine Owe.aloadN X583.here hx (hb hby d5_26) rfl rfl ?_
  refine Owe.iloadN X583.here hx (hb hby d5_27) rfl ?_
  refine Owe.iload X583.here hx (hb hby d5_28) rfl ?_
  refine Owe.i2b X583.here hx (hb hby d5_30) rfl ?_
  refine Owe.bastore X583 hx hZ e583 V583 (x := (v2.toInt8.toInt32)) 2 rfl (nb rfl) (by decide) (hb hby d5_31) rfl fun T587 h587 X587 e587 W587 (V587 : Arv Z h587 a2 k2 .byte (4 : Int32) [(.int ((v0.toInt8.toInt32).toInt8.toInt32)), (.int ((v1.toInt8.toInt32).toInt8.toInt32)), (.int ((v2.toInt8.toInt32).toInt8.toInt32)), (.int (0 : Int32))] (.int (0 : Int32))) => ?_
  have K_588 := K_584.wr W587 (Or.inl (List.mem_of_getElem? (i := 0) rfl))
  have V_a1_589 := V_a1_585.other W587 ne_a1_a2
  have Z_590 := Nat.le_trans Z_586 (Keep.of_wr W587).1
  have N587 := Fr.snoc X587 N583 ge_a2
  refine Owe.iinc X587.here hx (hb hby d5_32) rfl (l' := #[.val (.ref a1), .val (.int (3 : Int32)), .val (.ref a2), .val (.int (2 : Int32)), .val (.int (4 : Int32)), .val (.int (2 : Int32)), .val (.int v2)]) rfl ?_
  refine Owe.iinc X587.here hx (hb hby d5_35) rfl (l' := #[.val (.ref a1), .val (.int (3 : Int32)), .val (.ref a2), .val (.int (3 : Int32)), .val (.int (4 : Int32)), .val (.int (2 : Int32)), .val (.int v2)]) rfl ?_
  refine Owe.iinc X587.here hx (hb hby d5_38) rfl (l' := #[.val (.ref a1), .val (.int (3 : Int32)), .val (.ref a2), .val (.int (3 : Int32)), .val (.int (4 : Int32)), .val (.int (3 : Int32)), .val (.int v2)]) rfl ?_
  refine Owe.goto X587.here hx (hb hby d5_41) (pc' := 3) (by decide) (by decide) ?_
  refine Owe.iload X587.here hx (hb hby d5_3) rfl ?_
  refine Owe.iload X587.here hx (hb hby d5_5) rfl ?_
  refine Owe.icmpNo X587.here hx (hb hby d5_7) rfl (tlt (by decide)).2.1 ?_
  refine Owe.aloadN X587.here hx (hb hby d5_10) rfl rfl ?_
  refine Owe.iloadN X587.here hx (hb hby d5_11) rfl ?_
  refine Owe.caload X587 hx hZ e587 V_a1_589 (v := (.int v3)) (by decide) rfl (hb hby d5_12) rfl ?_
  refine Owe.istore X587.here hx (hb hby d5_13) rfl (l' := #[.val (.ref a1), .val (.int (3 : Int32)), .val (.ref a2), .val (.int (3 : Int32)), .val (.int (4 : Int32)), .val (.int (3 : Int32)), .val (.int v3)]) rfl ?_
  refine Owe.iload X587.here hx (hb hby d5_15) rfl ?_
  refine Owe.sipush X587.here hx (hb hby d5_17) (w := (255 : Int32)) rfl ?_
  refine Owe.icmpNo X587.here hx (hb hby d5_20) rfl (tlt hg).2.2.2 ?_
  refine Owe.iload X587.here hx (hb hby d5_23) rfl ?_
  refine Owe.retI X587 hx hlk hrt (hb hby d5_25) rfl fun fs hE => ?_
  refine hG _ _ ⟨_, _, rfl, ?_, frameMono hE (by decide) (by decide)⟩
  show Qcmi4_3 Z a1 k1 a2 k2 v0 v1 v2 v3 h0 n0 _ T587.heap _
  rw [e587]
  exact ⟨rfl, N587, K_588⟩
theorem ef_cmi4_4 (m : MethodId) (x0 : Addr) (x1 : Int32) (x2 : Addr) (x3 : Int32) (x4 : Int32)  : entryFrame m #[(.ref x0), (.int x1), (.ref x2), (.int x3), (.int x4)] 7 = mkF m 0 #[.val (.ref x0), .val (.int x1), .val (.ref x2), .val (.int x3), .val (.int x4), .unset, .unset] [] := by first | (simp [entryFrame, mkF, argsToLocals, Value.category]; done) | rfl
def Qcmi4_4 (Z : State) (a1 : Addr) (k1 : ClassId) (a2 : Addr) (k2 : ClassId) (v0 : Int32) (v1 : Int32) (v2 : Int32) (v3 : Int32) (h0 : Heap) (n0 : Nat) (v : Option Value) (h : Heap) (L : List Loc) : Prop := v = some (.int (4 : Int32)) ∧ Fr n0 L ∧ Keep h0 h [a2] ∧ Arv Z h a2 k2 .byte (4 : Int32) [(.int (la1 v0)), (.int (la1 v1)), (.int (la1 v2)), (.int (la1 v3))] (.int (0 : Int32))
set_option maxRecDepth 65536 in
set_option maxHeartbeats 40000000 in
theorem rmcmi4_4 (l : Launch) (Z : State) (a0 : Array Value) (hw : Hw Z a0) (ws : List Jvm.Cond) (a1 : Addr) (k1 : ClassId) (a2 : Addr) (k2 : ClassId) (v0 : Int32) (v1 : Int32) (v2 : Int32) (v3 : Int32) (h0 : Heap) (n0 : Nat) (Z0 : n0 ≤ h0.size) (V_a1 : Arv Z h0 a1 k1 .char (4 : Int32) [(.int v0), (.int v1), (.int v2), (.int v3)] (.int (0 : Int32))) (V_a2 : Arv Z h0 a2 k2 .byte (4 : Int32) [(.int (0 : Int32)), (.int (0 : Int32)), (.int (0 : Int32)), (.int (0 : Int32))] (.int (0 : Int32))) (ge_a2 : n0 ≤ a2) (ne_a1_a2 : a1 ≠ a2) (hl0 : ¬ (255 : Int32) < v0) (hl1 : ¬ (255 : Int32) < v1) (hl2 : ¬ (255 : Int32) < v2) (hl3 : ¬ (255 : Int32) < v3) :
    MF l Z Y5 jdk_52_method_21_code 7 (some .int) ws ({ frames := 0, cells := 0, slots := 0, locals := 0 } : Room) #[(.ref a1), (.int (0 : Int32)), (.ref a2), (.int (0 : Int32)), (.int (4 : Int32))] h0 (Qcmi4_4 Z a1 k1 a2 k2 v0 v1 v2 v3 h0 n0) := by
  refine MF.of pn_0 (fun m => ef_cmi4_4 m a1 (0 : Int32) a2 (0 : Int32) (4 : Int32)) ?_
  intro p e s m below meth c s₁ G X0 e0 hx hby hml hown hnm hlk hrt hZ hnd hG
  have N0 := Fr.nil n0
  have K0 := Keep.refl h0 [a2]
  refine Owe.iconst X0.here hx (hb hby d5_0) (w := (0 : Int32)) rfl ?_
  refine Owe.istore X0.here hx (hb hby d5_1) rfl (l' := #[.val (.ref a1), .val (.int (0 : Int32)), .val (.ref a2), .val (.int (0 : Int32)), .val (.int (4 : Int32)), .val (.int (0 : Int32)), .unset]) rfl ?_
  refine Owe.iload X0.here hx (hb hby d5_3) rfl ?_
  refine Owe.iload X0.here hx (hb hby d5_5) rfl ?_
  refine Owe.icmpNo X0.here hx (hb hby d5_7) rfl (tlt (by decide)).2.1 ?_
  refine Owe.aloadN X0.here hx (hb hby d5_10) rfl rfl ?_
  refine Owe.iloadN X0.here hx (hb hby d5_11) rfl ?_
  refine Owe.caload X0 hx hZ e0 V_a1 (v := (.int v0)) (by decide) rfl (hb hby d5_12) rfl ?_
  refine Owe.istore X0.here hx (hb hby d5_13) rfl (l' := #[.val (.ref a1), .val (.int (0 : Int32)), .val (.ref a2), .val (.int (0 : Int32)), .val (.int (4 : Int32)), .val (.int (0 : Int32)), .val (.int v0)]) rfl ?_
  refine Owe.iload X0.here hx (hb hby d5_15) rfl ?_
  refine Owe.sipush X0.here hx (hb hby d5_17) (w := (255 : Int32)) rfl ?_
  refine Owe.icmpYes X0.here hx (hb hby d5_20) rfl (flt hl0).2.2.2 (pc' := 26) (by decide) (by decide) ?_
  refine Owe.aloadN X0.here hx (hb hby d5_26) rfl rfl ?_
  refine Owe.iloadN X0.here hx (hb hby d5_27) rfl ?_
  refine Owe.iload X0.here hx (hb hby d5_28) rfl ?_
  refine Owe.i2b X0.here hx (hb hby d5_30) rfl ?_
  refine Owe.bastore X0 hx hZ e0 V_a2 (x := (v0.toInt8.toInt32)) 0 rfl (nb rfl) (by decide) (hb hby d5_31) rfl fun T591 h591 X591 e591 W591 (V591 : Arv Z h591 a2 k2 .byte (4 : Int32) [(.int ((v0.toInt8.toInt32).toInt8.toInt32)), (.int (0 : Int32)), (.int (0 : Int32)), (.int (0 : Int32))] (.int (0 : Int32))) => ?_
  have K_592 := K0.wr W591 (Or.inl (List.mem_of_getElem? (i := 0) rfl))
  have V_a1_593 := V_a1.other W591 ne_a1_a2
  have Z_594 := Nat.le_trans Z0 (Keep.of_wr W591).1
  have N591 := Fr.snoc X591 N0 ge_a2
  refine Owe.iinc X591.here hx (hb hby d5_32) rfl (l' := #[.val (.ref a1), .val (.int (1 : Int32)), .val (.ref a2), .val (.int (0 : Int32)), .val (.int (4 : Int32)), .val (.int (0 : Int32)), .val (.int v0)]) rfl ?_
  refine Owe.iinc X591.here hx (hb hby d5_35) rfl (l' := #[.val (.ref a1), .val (.int (1 : Int32)), .val (.ref a2), .val (.int (1 : Int32)), .val (.int (4 : Int32)), .val (.int (0 : Int32)), .val (.int v0)]) rfl ?_
  refine Owe.iinc X591.here hx (hb hby d5_38) rfl (l' := #[.val (.ref a1), .val (.int (1 : Int32)), .val (.ref a2), .val (.int (1 : Int32)), .val (.int (4 : Int32)), .val (.int (1 : Int32)), .val (.int v0)]) rfl ?_
  refine Owe.goto X591.here hx (hb hby d5_41) (pc' := 3) (by decide) (by decide) ?_
  refine Owe.iload X591.here hx (hb hby d5_3) rfl ?_
  refine Owe.iload X591.here hx (hb hby d5_5) rfl ?_
  refine Owe.icmpNo X591.here hx (hb hby d5_7) rfl (tlt (by decide)).2.1 ?_
  refine Owe.aloadN X591.here hx (hb hby d5_10) rfl rfl ?_
  refine Owe.iloadN X591.here hx (hb hby d5_11) rfl ?_
  refine Owe.caload X591 hx hZ e591 V_a1_593 (v := (.int v1)) (by decide) rfl (hb hby d5_12) rfl ?_
  refine Owe.istore X591.here hx (hb hby d5_13) rfl (l' := #[.val (.ref a1), .val (.int (1 : Int32)), .val (.ref a2), .val (.int (1 : Int32)), .val (.int (4 : Int32)), .val (.int (1 : Int32)), .val (.int v1)]) rfl ?_
  refine Owe.iload X591.here hx (hb hby d5_15) rfl ?_
  refine Owe.sipush X591.here hx (hb hby d5_17) (w := (255 : Int32)) rfl ?_
  refine Owe.icmpYes X591.here hx (hb hby d5_20) rfl (flt hl1).2.2.2 (pc' := 26) (by decide) (by decide) ?_
  refine Owe.aloadN X591.here hx (hb hby d5_26) rfl rfl ?_
  refine Owe.iloadN X591.here hx (hb hby d5_27) rfl ?_
  refine Owe.iload X591.here hx (hb hby d5_28) rfl ?_
  refine Owe.i2b X591.here hx (hb hby d5_30) rfl ?_
  refine Owe.bastore X591 hx hZ e591 V591 (x := (v1.toInt8.toInt32)) 1 rfl (nb rfl) (by decide) (hb hby d5_31) rfl fun T595 h595 X595 e595 W595 (V595 : Arv Z h595 a2 k2 .byte (4 : Int32) [(.int ((v0.toInt8.toInt32).toInt8.toInt32)), (.int ((v1.toInt8.toInt32).toInt8.toInt32)), (.int (0 : Int32)), (.int (0 : Int32))] (.int (0 : Int32))) => ?_
  have K_596 := K_592.wr W595 (Or.inl (List.mem_of_getElem? (i := 0) rfl))
  have V_a1_597 := V_a1_593.other W595 ne_a1_a2
  have Z_598 := Nat.le_trans Z_594 (Keep.of_wr W595).1
  have N595 := Fr.snoc X595 N591 ge_a2
  refine Owe.iinc X595.here hx (hb hby d5_32) rfl (l' := #[.val (.ref a1), .val (.int (2 : Int32)), .val (.ref a2), .val (.int (1 : Int32)), .val (.int (4 : Int32)), .val (.int (1 : Int32)), .val (.int v1)]) rfl ?_
  refine Owe.iinc X595.here hx (hb hby d5_35) rfl (l' := #[.val (.ref a1), .val (.int (2 : Int32)), .val (.ref a2), .val (.int (2 : Int32)), .val (.int (4 : Int32)), .val (.int (1 : Int32)), .val (.int v1)]) rfl ?_
  refine Owe.iinc X595.here hx (hb hby d5_38) rfl (l' := #[.val (.ref a1), .val (.int (2 : Int32)), .val (.ref a2), .val (.int (2 : Int32)), .val (.int (4 : Int32)), .val (.int (2 : Int32)), .val (.int v1)]) rfl ?_
  refine Owe.goto X595.here hx (hb hby d5_41) (pc' := 3) (by decide) (by decide) ?_
  refine Owe.iload X595.here hx (hb hby d5_3) rfl ?_
  refine Owe.iload X595.here hx (hb hby d5_5) rfl ?_
  refine Owe.icmpNo X595.here hx (hb hby d5_7) rfl (tlt (by decide)).2.1 ?_
  refine Owe.aloadN X595.here hx (hb hby d5_10) rfl rfl ?_
  refine Owe.iloadN X595.here hx (hb hby d5_11) rfl ?_
  refine Owe.caload X595 hx hZ e595 V_a1_597 (v := (.int v2)) (by decide) rfl (hb hby d5_12) rfl ?_
  refine Owe.istore X595.here hx (hb hby d5_13) rfl (l' := #[.val (.ref a1), .val (.int (2 : Int32)), .val (.ref a2), .val (.int (2 : Int32)), .val (.int (4 : Int32)), .val (.int (2 : Int32)), .val (.int v2)]) rfl ?_
  refine Owe.iload X595.here hx (hb hby d5_15) rfl ?_
  refine Owe.sipush X595.here hx (hb hby d5_17) (w := (255 : Int32)) rfl ?_
  refine Owe.icmpYes X595.here hx (hb hby d5_20) rfl (flt hl2).2.2.2 (pc' := 26) (by decide) (by decide) ?_
  refine Owe.aloadN X595.here hx (hb hby d5_26) rfl rfl ?_
  refine Owe.iloadN X595.here hx (hb hby d5_27) rfl ?_
  refine Owe.iload X595.here hx (hb hby d5_28) rfl ?_
  refine Owe.i2b X595.here hx (hb hby d5_30) rfl ?_
  refine Owe.bastore X595 hx hZ e595 V595 (x := (v2.toInt8.toInt32)) 2 rfl (nb rfl) (by decide) (hb hby d5_31) rfl fun T599 h599 X599 e599 W599 (V599 : Arv Z h599 a2 k2 .byte (4 : Int32) [(.int ((v0.toInt8.toInt32).toInt8.toInt32)), (.int ((v1.toInt8.toInt32).toInt8.toInt32)), (.int ((v2.toInt8.toInt32).toInt8.toInt32)), (.int (0 : Int32))] (.int (0 : Int32))) => ?_
  have K_600 := K_596.wr W599 (Or.inl (List.mem_of_getElem? (i := 0) rfl))
  have V_a1_601 := V_a1_597.other W599 ne_a1_a2
  have Z_602 := Nat.le_trans Z_598 (Keep.of_wr W599).1
  have N599 := Fr.snoc X599 N595 ge_a2
  refine Owe.iinc X599.here hx (hb hby d5_32) rfl (l' := #[.val (.ref a1), .val (.int (3 : Int32)), .val (.ref a2), .val (.int (2 : Int32)), .val (.int (4 : Int32)), .val (.int (2 : Int32)), .val (.int v2)]) rfl ?_
  refine Owe.iinc X599.here hx (hb hby d5_35) rfl (l' := #[.val (.ref a1), .val (.int (3 : Int32)), .val (.ref a2), .val (.int (3 : Int32)), .val (.int (4 : Int32)), .val (.int (2 : Int32)), .val (.int v2)]) rfl ?_
  refine Owe.iinc X599.here hx (hb hby d5_38) rfl (l' := #[.val (.ref a1), .val (.int (3 : Int32)), .val (.ref a2), .val (.int (3 : Int32)), .val (.int (4 : Int32)), .val (.int (3 : Int32)), .val (.int v2)]) rfl ?_
  refine Owe.goto X599.here hx (hb hby d5_41) (pc' := 3) (by decide) (by decide) ?_
  refine Owe.iload X599.here hx (hb hby d5_3) rfl ?_
  refine Owe.iload X599.here hx (hb hby d5_5) rfl ?_
  refine Owe.icmpNo X599.here hx (hb hby d5_7) rfl (tlt (by decide)).2.1 ?_
  refine Owe.aloadN X599.here hx (hb hby d5_10) rfl rfl ?_
  refine Owe.iloadN X599.here hx (hb hby d5_11) rfl ?_
  refine Owe.caload X599 hx hZ e599 V_a1_601 (v := (.int v3)) (by decide) rfl (hb hby d5_12) rfl ?_
  refine Owe.istore X599.here hx (hb hby d5_13) rfl (l' := #[.val (.ref a1), .val (.int (3 : Int32)), .val (.ref a2), .val (.int (3 : Int32)), .val (.int (4 : Int32)), .val (.int (3 : Int32)), .val (.int v3)]) rfl ?_
  refine Owe.iload X599.here hx (hb hby d5_15) rfl ?_
  refine Owe.sipush X599.here hx (hb hby d5_17) (w := (255 : Int32)) rfl ?_
  refine Owe.icmpYes X599.here hx (hb hby d5_20) rfl (flt hl3).2.2.2 (pc' := 26) (by decide) (by decide) ?_
  refine Owe.aloadN X599.here hx (hb hby d5_26) rfl rfl ?_
  refine Owe.iloadN X599.here hx (hb hby d5_27) rfl ?_
  refine Owe.iload X599.here hx (hb hby d5_28) rfl ?_
  refine Owe.i2b X599.here hx (hb hby d5_30) rfl ?_
  refine Owe.bastore X599 hx hZ e599 V599 (x := (v3.toInt8.toInt32)) 3 rfl (nb rfl) (by decide) (hb hby d5_31) rfl fun T603 h603 X603 e603 W603 (V603 : Arv Z h603 a2 k2 .byte (4 : Int32) [(.int ((v0.toInt8.toInt32).toInt8.toInt32)), (.int ((v1.toInt8.toInt32).toInt8.toInt32)), (.int ((v2.toInt8.toInt32).toInt8.toInt32)), (.int ((v3.toInt8.toInt32).toInt8.toInt32))] (.int (0 : Int32))) => ?_
  have K_604 := K_600.wr W603 (Or.inl (List.mem_of_getElem? (i := 0) rfl))
  have V_a1_605 := V_a1_601.other W603 ne_a1_a2
  have Z_606 := Nat.le_trans Z_602 (Keep.of_wr W603).1
  have N603 := Fr.snoc X603 N599 ge_a2
  refine Owe.iinc X603.here hx (hb hby d5_32) rfl (l' := #[.val (.ref a1), .val (.int (4 : Int32)), .val (.ref a2), .val (.int (3 : Int32)), .val (.int (4 : Int32)), .val (.int (3 : Int32)), .val (.int v3)]) rfl ?_
  refine Owe.iinc X603.here hx (hb hby d5_35) rfl (l' := #[.val (.ref a1), .val (.int (4 : Int32)), .val (.ref a2), .val (.int (4 : Int32)), .val (.int (4 : Int32)), .val (.int (3 : Int32)), .val (.int v3)]) rfl ?_
  refine Owe.iinc X603.here hx (hb hby d5_38) rfl (l' := #[.val (.ref a1), .val (.int (4 : Int32)), .val (.ref a2), .val (.int (4 : Int32)), .val (.int (4 : Int32)), .val (.int (4 : Int32)), .val (.int v3)]) rfl ?_
  refine Owe.goto X603.here hx (hb hby d5_41) (pc' := 3) (by decide) (by decide) ?_
  refine Owe.iload X603.here hx (hb hby d5_3) rfl ?_
  refine Owe.iload X603.here hx (hb hby d5_5) rfl ?_
  refine Owe.icmpYes X603.here hx (hb hby d5_7) rfl (flt (by decide)).2.1 (pc' := 44) (by decide) (by decide) ?_
  refine Owe.iload X603.here hx (hb hby d5_44) rfl ?_
  refine Owe.retI X603 hx hlk hrt (hb hby d5_46) rfl fun fs hE => ?_
  refine hG _ _ ⟨_, _, rfl, ?_, frameMono hE (by decide) (by decide)⟩
  show Qcmi4_4 Z a1 k1 a2 k2 v0 v1 v2 v3 h0 n0 _ T603.heap _
  rw [e603]
  exact ⟨rfl, N603, K_604, V603⟩
theorem ef_cfa4_0 (m : MethodId) (x0 : Addr) (x1 : Int32)  : entryFrame m #[(.ref x0), (.int x1)] 2 = mkF m 0 #[.val (.ref x0), .val (.int x1)] [] := by first | (simp [entryFrame, mkF, argsToLocals, Value.category]; done) | rfl
def Qcfa4_0 (Z : State) (a1 : Addr) (k1 : ClassId) (vs : List Value) (h0 : Heap) (n0 : Nat) (v : Option Value) (h : Heap) (L : List Loc) : Prop := v = some (.int (0 : Int32)) ∧ Fr n0 L ∧ h = h0
set_option maxRecDepth 65536 in
set_option maxHeartbeats 40000000 in
theorem rmcfa4_0 (l : Launch) (Z : State) (a0 : Array Value) (hw : Hw Z a0) (ws : List Jvm.Cond) (a1 : Addr) (k1 : ClassId) (vs : List Value) (h0 : Heap) (n0 : Nat) (Z0 : n0 ≤ h0.size) (V_a1 : Arv Z h0 a1 k1 .byte (4 : Int32) vs (.int (0 : Int32))) :
    MF l Z Y6 jdk_52_method_15_code 2 (some .byte) ws ({ frames := 0, cells := 0, slots := 0, locals := 0 } : Room) #[(.ref a1), (.int (4 : Int32))] h0 (Qcfa4_0 Z a1 k1 vs h0 n0) := by
  refine MF.of pn_0 (fun m => ef_cfa4_0 m a1 (4 : Int32)) ?_
  intro p e s m below meth c s₁ G X0 e0 hx hby hml hown hnm hlk hrt hZ hnd hG
  have N0 := Fr.nil n0
  refine Owe.iloadN X0.here hx (hb hby d6_0) rfl ?_
  refine Owe.aloadN X0.here hx (hb hby d6_1) rfl rfl ?_
  refine Owe.arrlen X0 hx hZ e0 V_a1 (hb hby d6_2) rfl ?_
  refine Owe.isub X0.here hx (hb hby d6_3) rfl ?_
  refine Owe.bipush X0.here hx (hb hby d6_4) (w := (31 : Int32)) rfl ?_
  refine Owe.iushr X0.here hx (hb hby d6_6) rfl ?_
  refine Owe.i2b X0.here hx (hb hby d6_7) rfl ?_
  refine Owe.retN X0 hx hlk (t := .byte) hrt (by simp) (hb hby d6_8) rfl fun fs hE => ?_
  refine hG _ _ ⟨_, _, rfl, ?_, frameMono hE (by decide) (by decide)⟩
  show Qcfa4_0 Z a1 k1 vs h0 n0 _ s₁.heap _
  rw [e0]
  exact ⟨(congrArg (fun z => some (Value.int z)) (by decide)), N0, rfl⟩
theorem ef_cma4_0 (m : MethodId) (x0 : Addr) (x1 : Int32) (x2 : Int32)  : entryFrame m #[(.ref x0), (.int x1), (.int x2)] 6 = mkF m 0 #[.val (.ref x0), .val (.int x1), .val (.int x2), .unset, .unset, .unset] [] := by first | (simp [entryFrame, mkF, argsToLocals, Value.category]; done) | rfl
def Qcma4_0 (Z : State) (a1 : Addr) (k1 : ClassId) (v0 : Int32) (v1 : Int32) (v2 : Int32) (v3 : Int32) (h0 : Heap) (n0 : Nat) (v : Option Value) (h : Heap) (L : List Loc) : Prop := ∃ (x1 : Addr), ∃ (kb1 : ClassId), v = some (.ref x1) ∧ Fr n0 L ∧ Keep h0 h [] ∧ n0 ≤ x1 ∧ h0.size ≤ x1 ∧ Arv Z h x1 kb1 .byte (4 : Int32) [(.int (la1 v0)), (.int (la1 v1)), (.int (la1 v2)), (.int (la1 v3))] (.int (0 : Int32))
set_option maxRecDepth 65536 in
set_option maxHeartbeats 40000000 in
theorem rmcma4_0 (l : Launch) (Z : State) (a0 : Array Value) (hw : Hw Z a0) (ws : List Jvm.Cond) (a1 : Addr) (k1 : ClassId) (v0 : Int32) (v1 : Int32) (v2 : Int32) (v3 : Int32) (h0 : Heap) (n0 : Nat) (Z0 : n0 ≤ h0.size) (V_a1 : Arv Z h0 a1 k1 .char (4 : Int32) [(.int v0), (.int v1), (.int v2), (.int v3)] (.int (0 : Int32))) (hl0 : ¬ (255 : Int32) < v0) (hl1 : ¬ (255 : Int32) < v1) (hl2 : ¬ (255 : Int32) < v2) (hl3 : ¬ (255 : Int32) < v3) (Ol : Old Z n0 h0) (S__assertionsDisabled : Sta Z Z.heap "java/lang/StringUTF16" "$assertionsDisabled" "Z" (.int (1 : Int32))) (S_HI_BYTE_SHIFT : Sta Z Z.heap "java/lang/StringUTF16" "HI_BYTE_SHIFT" "I" (.int (0 : Int32))) (S_LO_BYTE_SHIFT : Sta Z Z.heap "java/lang/StringUTF16" "LO_BYTE_SHIFT" "I" (.int (8 : Int32))) :
    MF l Z Y7 jdk_52_method_16_code 6 (some (.array .byte)) ws ({ frames := 3, cells := 2, slots := 12, locals := 40 } : Room) #[(.ref a1), (.int (0 : Int32)), (.int (4 : Int32))] h0 (Qcma4_0 Z a1 k1 v0 v1 v2 v3 h0 n0) := by
  refine MF.of pn_0 (fun m => ef_cma4_0 m a1 (0 : Int32) (4 : Int32)) ?_
  intro p e s m below meth c s₁ G X0 e0 hx hby hml hown hnm hlk hrt hZ hnd hG
  have N0 := Fr.nil n0
  have K0 := Keep.refl h0 []
  refine Owe.iloadN X0.here hx (hb hby d7_0) rfl ?_
  refine Owe.newarr X0 hx hZ (aty := .byte) (wd hw 16) e0 (hb hby d7_1) rfl (by decide) (cap := 4) (by decide) (by decide) (by decide) (by decide) fun T607 h607 b607 k607 g607 X607 e607 E607 V607 => ?_
  have ne_a1_b607 : a1 ≠ b607 := Nat.ne_of_lt (Nat.lt_of_lt_of_le V_a1.lt (Nat.le_of_eq g607.symm))
  have sz_b607 := Nat.le_trans K0.1 (Nat.le_of_eq g607.symm)
  have ge_b607 := Nat.le_trans Z0 (Nat.le_of_eq g607.symm)
  have K_608 := K0.ext E607
  have V_a1_609 := V_a1.ext E607
  have Ol_610 := Ol.ext E607
  have Z_611 := Nat.le_trans Z0 E607.1
  have V_b607_607 : Arv Z h607 b607 k607 .byte (4 : Int32) [(.int (0 : Int32)), (.int (0 : Int32)), (.int (0 : Int32)), (.int (0 : Int32))] (.int (0 : Int32)) := V607.pad (pad_rep [] (.int (0 : Int32)) 4)
  refine Owe.astoreN X607.here hx (hb hby d7_3) rfl rfl (l' := #[.val (.ref a1), .val (.int (0 : Int32)), .val (.int (4 : Int32)), .val (.ref b607), .unset, .unset]) rfl ?_
  refine Owe.aloadN X607.here hx (hb hby d7_4) rfl rfl ?_
  refine Owe.iloadN X607.here hx (hb hby d7_5) rfl ?_
  refine Owe.aloadN X607.here hx (hb hby d7_6) rfl rfl ?_
  refine Owe.iconst X607.here hx (hb hby d7_7) (w := (0 : Int32)) rfl ?_
  refine Owe.iloadN X607.here hx (hb hby d7_8) rfl ?_
  refine Owe.stat X607 hx (y := Y5) hown (mvT hZ (wd hw 37)) (mvT hZ (wd hw 38)) (mvT hZ (wd hw 35)) (mvT hZ (wd hw 39)) (by decide) (backOf (W := 0) (rmcmi4_4 l Z a0 hw [] a1 k1 b607 k607 v0 v1 v2 v3 h607 n0 Z_611 V_a1_609 V_b607_607 ge_b607 ne_a1_b607 hl0 hl1 hl2 hl3) hZ (wd hw 39) (wd hw 35) (by decide) (by decide)) (by rw [hml]; rfl) (argsL := [(.ref a1), (.int (0 : Int32)), (.ref b607), (.int (0 : Int32)), (.int (4 : Int32))]) (rest := []) (lenOf pd_3 rfl) rfl (nb rfl) (hb hby d7_9) rfl e607 (by decide) (by decide) fun T612 v612 L612 X612 hQ612 => ?_
  obtain ⟨rfl, Nq612, K612, V_a2_612⟩ := hQ612
  have N612 := Fr.app N0 Nq612
  have K_613 := K_608.trans K612 (allS (Or.inr sz_b607) all0)
  have V_a1_614 := V_a1_609.keep K612 (ninS ne_a1_b607 nin0)
  have Ol_615 := Ol_610.keep K612 (allS ge_b607 all0)
  have Z_616 := Nat.le_trans Z_611 K612.1
  refine Owe.istore X612.here hx (hb hby d7_12) rfl (l' := #[.val (.ref a1), .val (.int (0 : Int32)), .val (.int (4 : Int32)), .val (.ref b607), .val (.int (4 : Int32)), .unset]) rfl ?_
  refine Owe.iload X612.here hx (hb hby d7_14) rfl ?_
  refine Owe.iloadN X612.here hx (hb hby d7_16) rfl ?_
  refine Owe.icmpYes X612.here hx (hb hby d7_17) rfl (teq (by decide)).1 (pc' := 57) (by decide) (by decide) ?_
  refine Owe.aloadN X612.here hx (hb hby d7_57) rfl rfl ?_
  refine Owe.retR X612 hx hlk (t := (.array .byte)) hrt rfl rfl rfl (hb hby d7_58) rfl fun fs hE => ?_
  refine hG _ _ ⟨_, _, rfl, ?_, frameMono hE (by decide) (by decide)⟩
  show Qcma4_0 Z a1 k1 v0 v1 v2 v3 h0 n0 _ T612.heap _
  exact ⟨b607, k607, rfl, N612, K_613, ge_b607, sz_b607, V_a2_612⟩
theorem ef_siv4_0 (m : MethodId) (x0 : Addr) (x1 : Addr) (x2 : Int32) (x3 : Int32)  : entryFrame m #[(.ref x0), (.ref x1), (.int x2), (.int x3), .null] 6 = mkF m 0 #[.val (.ref x0), .val (.ref x1), .val (.int x2), .val (.int x3), .val .null, .unset] [] := by first | (simp [entryFrame, mkF, argsToLocals, Value.category]; done) | rfl
def Qsiv4_0 (Z : State) (a0_ : Addr) (a1 : Addr) (k1 : ClassId) (v0 : Int32) (v1 : Int32) (v2 : Int32) (v3 : Int32) (G1 : Int32) (h0 : Heap) (n0 : Nat) (v : Option Value) (h : Heap) (L : List Loc) : Prop := ∃ (b_ : Addr), ∃ (kb1 : ClassId), v = none ∧ Fr n0 L ∧ Keep h0 h [a0_] ∧ Exa Z h a0_ "java/lang/String" ∧ Fld Z h a0_ "java/lang/String" "value" "[B" (.ref b_) ∧ Fld Z h a0_ "java/lang/String" "coder" "B" (.int (0 : Int32)) ∧ Arv Z h b_ kb1 .byte (4 : Int32) [(.int (la1 v0)), (.int (la1 v1)), (.int (la1 v2)), (.int (la1 v3))] (.int (0 : Int32))
set_option maxRecDepth 65536 in
set_option maxHeartbeats 40000000 in
theorem rmsiv4_0 (l : Launch) (Z : State) (a0 : Array Value) (hw : Hw Z a0) (ws : List Jvm.Cond) (a0_ : Addr) (a1 : Addr) (k1 : ClassId) (v0 : Int32) (v1 : Int32) (v2 : Int32) (v3 : Int32) (G1 : Int32) (h0 : Heap) (n0 : Nat) (Z0 : n0 ≤ h0.size) (E_a0_ : Exa Z h0 a0_ "java/lang/String") (Fvalue_a0_ : Fld Z h0 a0_ "java/lang/String" "value" "[B" .null) (Fcoder_a0_ : Fld Z h0 a0_ "java/lang/String" "coder" "B" (.int (0 : Int32))) (ge_a0_ : n0 ≤ a0_) (V_a1 : Arv Z h0 a1 k1 .char (4 : Int32) [(.int v0), (.int v1), (.int v2), (.int v3)] (.int (0 : Int32))) (ne_a1_a0_ : a1 ≠ a0_) (hl0 : ¬ (255 : Int32) < v0) (hl1 : ¬ (255 : Int32) < v1) (hl2 : ¬ (255 : Int32) < v2) (hl3 : ¬ (255 : Int32) < v3) (S_COMPACT_STRINGS : Sta Z Z.heap "java/lang/String" "COMPACT_STRINGS" "Z" (.int G1)) (cs0 : ¬ (G1 = (0 : Int32))) (Ol : Old Z n0 h0) (S__assertionsDisabled : Sta Z Z.heap "java/lang/StringUTF16" "$assertionsDisabled" "Z" (.int (1 : Int32))) (S_HI_BYTE_SHIFT : Sta Z Z.heap "java/lang/StringUTF16" "HI_BYTE_SHIFT" "I" (.int (0 : Int32))) (S_LO_BYTE_SHIFT : Sta Z Z.heap "java/lang/StringUTF16" "LO_BYTE_SHIFT" "I" (.int (8 : Int32))) :
    MF l Z Y8 jdk_42_method_149_code 6 none ws ({ frames := 4, cells := 2, slots := 12, locals := 58 } : Room) #[(.ref a0_), (.ref a1), (.int (0 : Int32)), (.int (4 : Int32)), .null] h0 (Qsiv4_0 Z a0_ a1 k1 v0 v1 v2 v3 G1 h0 n0) := by
  refine MF.of pn_1 (fun m => ef_siv4_0 m a0_ a1 (0 : Int32) (4 : Int32)) ?_
  intro p e s m below meth c s₁ G X0 e0 hx hby hml hown hnm hlk hrt hZ hnd hG
  have N0 := Fr.nil n0
  have K0 := Keep.refl h0 [a0_]
  refine Owe.aloadN X0.here hx (hb hby d8_0) rfl rfl ?_
  refine Owe.objinit X0 hx hZ hown (wd hw 12) (wd hw 13) (wd hw 14) e0 (by rw [hml]; rfl) rfl (hb hby d8_1) (by decide) (W := 0) (nb rfl) (by decide) fun T617 X617 e617 => ?_
  refine Owe.iloadN X617.here hx (hb hby d8_4) rfl ?_
  refine Owe.ifYes X617.here hx (hb hby d8_5) rfl ((if0 _ _).trans (feq (by decide)).2) (pc' := 27) (by decide) (by decide) ?_
  refine Owe.gets X617 hx hZ hown (wd hw 32) Via.refl e617 (S_COMPACT_STRINGS.ext Ol.2) (hb hby d8_27) fun T618 X618 e618 => ?_
  refine Owe.ifNo X618.here hx (hb hby d8_30) rfl ((if0 _ _).trans (feq cs0).1) ?_
  refine Owe.aloadN X618.here hx (hb hby d8_33) rfl rfl ?_
  refine Owe.iloadN X618.here hx (hb hby d8_34) rfl ?_
  refine Owe.iloadN X618.here hx (hb hby d8_35) rfl ?_
  refine Owe.stat X618 hx (y := Y7) hown (mvT hZ (wd hw 33)) (mvT hZ (wd hw 34)) (mvT hZ (wd hw 35)) (mvT hZ (wd hw 36)) (by decide) (backOf (W := 0) (rmcma4_0 l Z a0 hw [] a1 k1 v0 v1 v2 v3 h0 n0 Z0 V_a1 hl0 hl1 hl2 hl3 Ol S__assertionsDisabled S_HI_BYTE_SHIFT S_LO_BYTE_SHIFT) hZ (wd hw 36) (wd hw 35) (by decide) (by decide)) (by rw [hml]; rfl) (argsL := [(.ref a1), (.int (0 : Int32)), (.int (4 : Int32))]) (rest := []) (lenOf pd_4 rfl) rfl (nb rfl) (hb hby d8_36) rfl e618 (by decide) (by decide) fun T619 v619 L619 X619 hQ619 => ?_
  obtain ⟨x1_619, kb1_619, rfl, Nq619, K619, ge_x1_619, fresh_x1_619, V_x1_619⟩ := hQ619
  have N619 := Fr.app N0 Nq619
  have K_620 := K0.trans K619 all0
  have E_a0__621 := E_a0_.keep K619
  have Fvalue_a0__622 := Fvalue_a0_.keep K619 nin0
  have Fcoder_a0__623 := Fcoder_a0_.keep K619 nin0
  have V_a1_624 := V_a1.keep K619 nin0
  have Ol_625 := Ol.keep K619 all0
  have Z_626 := Nat.le_trans Z0 K619.1
  have ne_a0__x1_619 : a0_ ≠ x1_619 := Nat.ne_of_lt (Nat.lt_of_lt_of_le E_a0_.lt fresh_x1_619)
  have ne_a1_x1_619 : a1 ≠ x1_619 := Nat.ne_of_lt (Nat.lt_of_lt_of_le V_a1.lt fresh_x1_619)
  have sz_x1_619 := Nat.le_trans K0.1 fresh_x1_619
  refine Owe.astore X619.here hx (hb hby d8_39) rfl rfl (l' := #[.val (.ref a0_), .val (.ref a1), .val (.int (0 : Int32)), .val (.int (4 : Int32)), .val .null, .val (.ref x1_619)]) rfl ?_
  refine Owe.aloadN X619.here hx (hb hby d8_41) rfl rfl ?_
  refine Owe.aload X619.here hx (hb hby d8_42) rfl rfl ?_
  refine Owe.iloadN X619.here hx (hb hby d8_44) rfl ?_
  refine Owe.stat X619 hx (y := Y6) hown (mvT hZ (wd hw 40)) (mvT hZ (wd hw 41)) (mvT hZ (wd hw 35)) (mvT hZ (wd hw 42)) (by decide) (backOf (W := 1) (rmcfa4_0 l Z a0 hw [] x1_619 kb1_619 ([(.int (la1 v0)), (.int (la1 v1)), (.int (la1 v2)), (.int (la1 v3))]) T619.heap n0 Z_626 V_x1_619) hZ (wd hw 42) (wd hw 35) (by decide) (by decide)) (by rw [hml]; rfl) (argsL := [(.ref x1_619), (.int (4 : Int32))]) (rest := [(.ref a0_)]) (lenOf pd_5 rfl) rfl (nb rfl) (hb hby d8_45) rfl rfl (by decide) (by decide) fun T627 v627 L627 X627 hQ627 => ?_
  obtain ⟨rfl, Nq627, e627⟩ := hQ627
  have N627 := Fr.app N619 Nq627
  refine Owe.putf X627 hx hZ (host := "") hown (Or.inl (wd hw 22)) Via.refl e627 Fcoder_a0__623 E_a0__621 (Or.inr ⟨(wd hw 18), rfl, hnm⟩) (wd hw 3) (ty := .byte) (by decide) rfl rfl (hb hby d8_48) rfl fun T628 h628 X628 e628 W628 => ?_
  have K_629 := K_620.wr W628 (Or.inl (List.mem_of_getElem? (i := 0) rfl))
  have E_a0__630 := E_a0__621.wr W628
  have Fvalue_a0__631 := Fvalue_a0__622.other W628 (Or.inr (slot_ne (Or.inr (wd hw 17)) (Or.inr (wd hw 18)) (by decide) (t := (.array .byte)) (t' := .byte) (by decide) (by decide)))
  have Fcoder_a0__632 := Fcoder_a0__623.same W628
  have V_a1_633 := V_a1_624.other W628 ne_a1_a0_
  have Ol_634 := Ol_625.wr W628 ge_a0_
  have V_x1_635 := V_x1_619.other W628 (Ne.symm ne_a0__x1_619)
  have Z_636 := Nat.le_trans Z_626 (Keep.of_wr W628).1
  have N628 := Fr.snoc X628 N627 ge_a0_
  refine Owe.aloadN X628.here hx (hb hby d8_51) rfl rfl ?_
  refine Owe.aload X628.here hx (hb hby d8_52) rfl rfl ?_
  refine Owe.putf X628 hx hZ (host := "") hown (Or.inl (wd hw 21)) Via.refl e628 Fvalue_a0__631 E_a0__630 (Or.inr ⟨(wd hw 17), rfl, hnm⟩) (wd hw 3) (ty := (.array .byte)) (by decide) rfl rfl (hb hby d8_54) rfl fun T637 h637 X637 e637 W637 => ?_
  have K_638 := K_629.wr W637 (Or.inl (List.mem_of_getElem? (i := 0) rfl))
  have E_a0__639 := E_a0__630.wr W637
  have Fvalue_a0__640 := Fvalue_a0__631.same W637
  have Fcoder_a0__641 := Fcoder_a0__632.other W637 (Or.inr (slot_ne (Or.inr (wd hw 18)) (Or.inr (wd hw 17)) (by decide) (t := .byte) (t' := (.array .byte)) (by decide) (by decide)))
  have V_a1_642 := V_a1_633.other W637 ne_a1_a0_
  have Ol_643 := Ol_634.wr W637 ge_a0_
  have V_x1_644 := V_x1_635.other W637 (Ne.symm ne_a0__x1_619)
  have Z_645 := Nat.le_trans Z_636 (Keep.of_wr W637).1
  have N637 := Fr.snoc X637 N628 ge_a0_
  refine Owe.ret0 X637 hx hlk hrt (hb hby d8_57) rfl fun fs hE => ?_
  refine hG _ _ ⟨_, _, rfl, ?_, frameMono hE (by decide) (by decide)⟩
  show Qsiv4_0 Z a0_ a1 k1 v0 v1 v2 v3 G1 h0 n0 _ T637.heap _
  rw [e637]
  exact ⟨x1_619, kb1_619, rfl, N637, K_638, E_a0__639, Fvalue_a0__640, Fcoder_a0__641, V_x1_644⟩
theorem ef_si4_0 (m : MethodId) (x0 : Addr) (x1 : Addr)  : entryFrame m #[(.ref x0), (.ref x1)] 2 = mkF m 0 #[.val (.ref x0), .val (.ref x1)] [] := by first | (simp [entryFrame, mkF, argsToLocals, Value.category]; done) | rfl
def Qsi4_0 (Z : State) (a0_ : Addr) (a1 : Addr) (k1 : ClassId) (v0 : Int32) (v1 : Int32) (v2 : Int32) (v3 : Int32) (G1 : Int32) (h0 : Heap) (n0 : Nat) (v : Option Value) (h : Heap) (L : List Loc) : Prop := ∃ (b_ : Addr), ∃ (kb1 : ClassId), v = none ∧ Fr n0 L ∧ Keep h0 h [a0_] ∧ Exa Z h a0_ "java/lang/String" ∧ Fld Z h a0_ "java/lang/String" "value" "[B" (.ref b_) ∧ Fld Z h a0_ "java/lang/String" "coder" "B" (.int (0 : Int32)) ∧ Arv Z h b_ kb1 .byte (4 : Int32) [(.int (la1 v0)), (.int (la1 v1)), (.int (la1 v2)), (.int (la1 v3))] (.int (0 : Int32))
set_option maxRecDepth 65536 in
set_option maxHeartbeats 40000000 in
theorem rmsi4_0 (l : Launch) (Z : State) (a0 : Array Value) (hw : Hw Z a0) (ws : List Jvm.Cond) (a0_ : Addr) (a1 : Addr) (k1 : ClassId) (v0 : Int32) (v1 : Int32) (v2 : Int32) (v3 : Int32) (G1 : Int32) (h0 : Heap) (n0 : Nat) (Z0 : n0 ≤ h0.size) (E_a0_ : Exa Z h0 a0_ "java/lang/String") (Fvalue_a0_ : Fld Z h0 a0_ "java/lang/String" "value" "[B" .null) (Fcoder_a0_ : Fld Z h0 a0_ "java/lang/String" "coder" "B" (.int (0 : Int32))) (ge_a0_ : n0 ≤ a0_) (V_a1 : Arv Z h0 a1 k1 .char (4 : Int32) [(.int v0), (.int v1), (.int v2), (.int v3)] (.int (0 : Int32))) (ne_a1_a0_ : a1 ≠ a0_) (hl0 : ¬ (255 : Int32) < v0) (hl1 : ¬ (255 : Int32) < v1) (hl2 : ¬ (255 : Int32) < v2) (hl3 : ¬ (255 : Int32) < v3) (S_COMPACT_STRINGS : Sta Z Z.heap "java/lang/String" "COMPACT_STRINGS" "Z" (.int G1)) (cs0 : ¬ (G1 = (0 : Int32))) (Ol : Old Z n0 h0) (S__assertionsDisabled : Sta Z Z.heap "java/lang/StringUTF16" "$assertionsDisabled" "Z" (.int (1 : Int32))) (S_HI_BYTE_SHIFT : Sta Z Z.heap "java/lang/StringUTF16" "HI_BYTE_SHIFT" "I" (.int (0 : Int32))) (S_LO_BYTE_SHIFT : Sta Z Z.heap "java/lang/StringUTF16" "LO_BYTE_SHIFT" "I" (.int (8 : Int32))) :
    MF l Z Y9 jdk_42_method_3_code 2 none ws ({ frames := 5, cells := 2, slots := 12, locals := 76 } : Room) #[(.ref a0_), (.ref a1)] h0 (Qsi4_0 Z a0_ a1 k1 v0 v1 v2 v3 G1 h0 n0) := by
  refine MF.of pn_1 (fun m => ef_si4_0 m a0_ a1) ?_
  intro p e s m below meth c s₁ G X0 e0 hx hby hml hown hnm hlk hrt hZ hnd hG
  have N0 := Fr.nil n0
  have K0 := Keep.refl h0 [a0_]
  refine Owe.aloadN X0.here hx (hb hby d9_0) rfl rfl ?_
  refine Owe.aloadN X0.here hx (hb hby d9_1) rfl rfl ?_
  refine Owe.iconst X0.here hx (hb hby d9_2) (w := (0 : Int32)) rfl ?_
  refine Owe.aloadN X0.here hx (hb hby d9_3) rfl rfl ?_
  refine Owe.arrlen X0 hx hZ e0 V_a1 (hb hby d9_4) rfl ?_
  refine Owe.aconstNull X0.here hx (hb hby d9_5)  ?_
  refine Owe.special X0 hx (y := Y8) rfl hown (mvT hZ (wd hw 8)) (mvT hZ (wd hw 9)) (mvT hZ (wd hw 11)) (by decide) (backOf (W := 0) (rmsiv4_0 l Z a0 hw [] a0_ a1 k1 v0 v1 v2 v3 G1 h0 n0 Z0 E_a0_ Fvalue_a0_ Fcoder_a0_ ge_a0_ V_a1 ne_a1_a0_ hl0 hl1 hl2 hl3 S_COMPACT_STRINGS cs0 Ol S__assertionsDisabled S_HI_BYTE_SHIFT S_LO_BYTE_SHIFT) hZ (wd hw 11) (wd hw 4) (by decide) (by decide)) (by rw [hml]; rfl) (a := a0_) (argsL := [(.ref a1), (.int (0 : Int32)), (.int (4 : Int32)), .null]) (rest := []) (lenOf pd_6 rfl) rfl (nb rfl) (hb hby d9_6) rfl e0 (by decide) (by decide) fun T646 v646 L646 X646 hQ646 => ?_
  obtain ⟨b__646, kb1_646, rfl, Nq646, K646, E_a0__646, Fvalue_a0__646, Fcoder_a0__646, V_b__646⟩ := hQ646
  have N646 := Fr.app N0 Nq646
  have K_647 := K0.trans K646 (allS (Or.inl (List.mem_of_getElem? (i := 0) rfl)) all0)
  have E_a0__648 := E_a0_.keep K646
  have V_a1_649 := V_a1.keep K646 (ninS ne_a1_a0_ nin0)
  have Ol_650 := Ol.keep K646 (allS ge_a0_ all0)
  have Z_651 := Nat.le_trans Z0 K646.1
  refine Owe.ret0 X646 hx hlk hrt (hb hby d9_9) rfl fun fs hE => ?_
  refine hG _ _ ⟨_, _, rfl, ?_, frameMono hE (by decide) (by decide)⟩
  show Qsi4_0 Z a0_ a1 k1 v0 v1 v2 v3 G1 h0 n0 _ T646.heap _
  exact ⟨b__646, kb1_646, rfl, N646, K_647, E_a0__646, Fvalue_a0__646, Fcoder_a0__646, V_b__646⟩
theorem ef_cfa4_1 (m : MethodId) (x0 : Addr) (x1 : Int32)  : entryFrame m #[(.ref x0), (.int x1)] 2 = mkF m 0 #[.val (.ref x0), .val (.int x1)] [] := by first | (simp [entryFrame, mkF, argsToLocals, Value.category]; done) | rfl
def Qcfa4_1 (Z : State) (a1 : Addr) (k1 : ClassId) (vs : List Value) (h0 : Heap) (n0 : Nat) (v : Option Value) (h : Heap) (L : List Loc) : Prop := v = some (.int (1 : Int32)) ∧ Fr n0 L ∧ h = h0
set_option maxRecDepth 65536 in
set_option maxHeartbeats 40000000 in
theorem rmcfa4_1 (l : Launch) (Z : State) (a0 : Array Value) (hw : Hw Z a0) (ws : List Jvm.Cond) (a1 : Addr) (k1 : ClassId) (vs : List Value) (h0 : Heap) (n0 : Nat) (Z0 : n0 ≤ h0.size) (V_a1 : Arv Z h0 a1 k1 .byte (8 : Int32) vs (.int (0 : Int32))) :
    MF l Z Y6 jdk_52_method_15_code 2 (some .byte) ws ({ frames := 0, cells := 0, slots := 0, locals := 0 } : Room) #[(.ref a1), (.int (4 : Int32))] h0 (Qcfa4_1 Z a1 k1 vs h0 n0) := by
  refine MF.of pn_0 (fun m => ef_cfa4_1 m a1 (4 : Int32)) ?_
  intro p e s m below meth c s₁ G X0 e0 hx hby hml hown hnm hlk hrt hZ hnd hG
  have N0 := Fr.nil n0
  refine Owe.iloadN X0.here hx (hb hby d6_0) rfl ?_
  refine Owe.aloadN X0.here hx (hb hby d6_1) rfl rfl ?_
  refine Owe.arrlen X0 hx hZ e0 V_a1 (hb hby d6_2) rfl ?_
  refine Owe.isub X0.here hx (hb hby d6_3) rfl ?_
  refine Owe.bipush X0.here hx (hb hby d6_4) (w := (31 : Int32)) rfl ?_
  refine Owe.iushr X0.here hx (hb hby d6_6) rfl ?_
  refine Owe.i2b X0.here hx (hb hby d6_7) rfl ?_
  refine Owe.retN X0 hx hlk (t := .byte) hrt (by simp) (hb hby d6_8) rfl fun fs hE => ?_
  refine hG _ _ ⟨_, _, rfl, ?_, frameMono hE (by decide) (by decide)⟩
  show Qcfa4_1 Z a1 k1 vs h0 n0 _ s₁.heap _
  rw [e0]
  exact ⟨(congrArg (fun z => some (Value.int z)) (by decide)), N0, rfl⟩
theorem ef_cma4_1 (m : MethodId) (x0 : Addr) (x1 : Int32) (x2 : Int32)  : entryFrame m #[(.ref x0), (.int x1), (.int x2)] 6 = mkF m 0 #[.val (.ref x0), .val (.int x1), .val (.int x2), .unset, .unset, .unset] [] := by first | (simp [entryFrame, mkF, argsToLocals, Value.category]; done) | rfl
def Qcma4_1 (Z : State) (a1 : Addr) (k1 : ClassId) (v0 : Int32) (v1 : Int32) (v2 : Int32) (v3 : Int32) (h0 : Heap) (n0 : Nat) (v : Option Value) (h : Heap) (L : List Loc) : Prop := ∃ (x1 : Addr), ∃ (kb1 : ClassId), v = some (.ref x1) ∧ Fr n0 L ∧ Keep h0 h [] ∧ n0 ≤ x1 ∧ h0.size ≤ x1 ∧ Arv Z h x1 kb1 .byte (8 : Int32) [(.int (lo1 v0)), (.int (hi1 v0)), (.int (lo1 v1)), (.int (hi1 v1)), (.int (lo1 v2)), (.int (hi1 v2)), (.int (lo1 v3)), (.int (hi1 v3))] (.int (0 : Int32))
set_option maxRecDepth 65536 in
set_option maxHeartbeats 40000000 in
theorem rmcma4_1 (l : Launch) (Z : State) (a0 : Array Value) (hw : Hw Z a0) (ws : List Jvm.Cond) (a1 : Addr) (k1 : ClassId) (v0 : Int32) (v1 : Int32) (v2 : Int32) (v3 : Int32) (h0 : Heap) (n0 : Nat) (Z0 : n0 ≤ h0.size) (V_a1 : Arv Z h0 a1 k1 .char (4 : Int32) [(.int v0), (.int v1), (.int v2), (.int v3)] (.int (0 : Int32))) (hW : (255 : Int32) < v0 ∨ (255 : Int32) < v1 ∨ (255 : Int32) < v2 ∨ (255 : Int32) < v3) (hr0 : ¬ v0 < 0 ∧ ¬ (65535 : Int32) < v0) (hr1 : ¬ v1 < 0 ∧ ¬ (65535 : Int32) < v1) (hr2 : ¬ v2 < 0 ∧ ¬ (65535 : Int32) < v2) (hr3 : ¬ v3 < 0 ∧ ¬ (65535 : Int32) < v3) (Ol : Old Z n0 h0) (S__assertionsDisabled : Sta Z Z.heap "java/lang/StringUTF16" "$assertionsDisabled" "Z" (.int (1 : Int32))) (S_HI_BYTE_SHIFT : Sta Z Z.heap "java/lang/StringUTF16" "HI_BYTE_SHIFT" "I" (.int (0 : Int32))) (S_LO_BYTE_SHIFT : Sta Z Z.heap "java/lang/StringUTF16" "LO_BYTE_SHIFT" "I" (.int (8 : Int32))) :
    MF l Z Y7 jdk_52_method_16_code 6 (some (.array .byte)) ws ({ frames := 3, cells := 2, slots := 12, locals := 40 } : Room) #[(.ref a1), (.int (0 : Int32)), (.int (4 : Int32))] h0 (Qcma4_1 Z a1 k1 v0 v1 v2 v3 h0 n0) := by
  refine MF.of pn_0 (fun m => ef_cma4_1 m a1 (0 : Int32) (4 : Int32)) ?_
  intro p e s m below meth c s₁ G X0 e0 hx hby hml hown hnm hlk hrt hZ hnd hG
  have N0 := Fr.nil n0
  have K0 := Keep.refl h0 []
  refine Owe.iloadN X0.here hx (hb hby d7_0) rfl ?_
  refine Owe.newarr X0 hx hZ (aty := .byte) (wd hw 16) e0 (hb hby d7_1) rfl (by decide) (cap := 4) (by decide) (by decide) (by decide) (by decide) fun T652 h652 b652 k652 g652 X652 e652 E652 V652 => ?_
  have ne_a1_b652 : a1 ≠ b652 := Nat.ne_of_lt (Nat.lt_of_lt_of_le V_a1.lt (Nat.le_of_eq g652.symm))
  have sz_b652 := Nat.le_trans K0.1 (Nat.le_of_eq g652.symm)
  have ge_b652 := Nat.le_trans Z0 (Nat.le_of_eq g652.symm)
  have K_653 := K0.ext E652
  have V_a1_654 := V_a1.ext E652
  have Ol_655 := Ol.ext E652
  have Z_656 := Nat.le_trans Z0 E652.1
  have V_b652_652 : Arv Z h652 b652 k652 .byte (4 : Int32) [(.int (0 : Int32)), (.int (0 : Int32)), (.int (0 : Int32)), (.int (0 : Int32))] (.int (0 : Int32)) := V652.pad (pad_rep [] (.int (0 : Int32)) 4)
  refine Owe.astoreN X652.here hx (hb hby d7_3) rfl rfl (l' := #[.val (.ref a1), .val (.int (0 : Int32)), .val (.int (4 : Int32)), .val (.ref b652), .unset, .unset]) rfl ?_
  refine Owe.aloadN X652.here hx (hb hby d7_4) rfl rfl ?_
  refine Owe.iloadN X652.here hx (hb hby d7_5) rfl ?_
  refine Owe.aloadN X652.here hx (hb hby d7_6) rfl rfl ?_
  refine Owe.iconst X652.here hx (hb hby d7_7) (w := (0 : Int32)) rfl ?_
  refine Owe.iloadN X652.here hx (hb hby d7_8) rfl ?_
  by_cases hl0_657 : (255 : Int32) < v0
  · skip
    refine Owe.stat X652 hx (y := Y5) hown (mvT hZ (wd hw 37)) (mvT hZ (wd hw 38)) (mvT hZ (wd hw 35)) (mvT hZ (wd hw 39)) (by decide) (backOf (W := 0) (rmcmi4_0 l Z a0 hw [] a1 k1 b652 k652 v0 v1 v2 v3 h652 n0 Z_656 V_a1_654 V_b652_652 ge_b652 ne_a1_b652 hl0_657) hZ (wd hw 39) (wd hw 35) (by decide) (by decide)) (by rw [hml]; rfl) (argsL := [(.ref a1), (.int (0 : Int32)), (.ref b652), (.int (0 : Int32)), (.int (4 : Int32))]) (rest := []) (lenOf pd_3 rfl) rfl (nb rfl) (hb hby d7_9) rfl e652 (by decide) (by decide) fun T658 v658 L658 X658 hQ658 => ?_
    obtain ⟨rfl, Nq658, K658⟩ := hQ658
    have N658 := Fr.app N0 Nq658
    have K_659 := K_653.trans K658 (allS (Or.inr sz_b652) all0)
    have V_a1_660 := V_a1_654.keep K658 (ninS ne_a1_b652 nin0)
    have Ol_661 := Ol_655.keep K658 (allS ge_b652 all0)
    have Z_662 := Nat.le_trans Z_656 K658.1
    refine Owe.istore X658.here hx (hb hby d7_12) rfl (l' := #[.val (.ref a1), .val (.int (0 : Int32)), .val (.int (4 : Int32)), .val (.ref b652), .val (.int (0 : Int32)), .unset]) rfl ?_
    refine Owe.iload X658.here hx (hb hby d7_14) rfl ?_
    refine Owe.iloadN X658.here hx (hb hby d7_16) rfl ?_
    refine Owe.icmpNo X658.here hx (hb hby d7_17) rfl (feq (by decide)).1 ?_
    refine Owe.aloadN X658.here hx (hb hby d7_20) rfl rfl ?_
    refine Owe.iloadN X658.here hx (hb hby d7_21) rfl ?_
    refine Owe.iloadN X658.here hx (hb hby d7_22) rfl ?_
    refine Owe.stat X658 hx (y := Y4) hown (mvT hZ (wd hw 79)) (mvT hZ (wd hw 80)) (mvT hZ (wd hw 35)) (mvT hZ (wd hw 81)) (by decide) (backOf (W := 0) (rmtob4 l Z a0 hw [] a1 k1 v0 v1 v2 v3 T658.heap n0 Z_662 V_a1_660 Ol_661 S__assertionsDisabled S_HI_BYTE_SHIFT S_LO_BYTE_SHIFT) hZ (wd hw 81) (wd hw 35) (by decide) (by decide)) (by rw [hml]; rfl) (argsL := [(.ref a1), (.int (0 : Int32)), (.int (4 : Int32))]) (rest := []) (lenOf pd_4 rfl) rfl (nb rfl) (hb hby d7_23) rfl rfl (by decide) (by decide) fun T663 v663 L663 X663 hQ663 => ?_
    obtain ⟨x1_663, kb1_663, rfl, Nq663, K663, ge_x1_663, fresh_x1_663, V_x1_663⟩ := hQ663
    have N663 := Fr.app N658 Nq663
    have K_664 := K_659.trans K663 all0
    have V_a1_665 := V_a1_660.keep K663 nin0
    have Ol_666 := Ol_661.keep K663 all0
    have Z_667 := Nat.le_trans Z_662 K663.1
    have ne_a1_x1_663 : a1 ≠ x1_663 := Nat.ne_of_lt (Nat.lt_of_lt_of_le V_a1_660.lt fresh_x1_663)
    have sz_x1_663 := Nat.le_trans K_659.1 fresh_x1_663
    refine Owe.astore X663.here hx (hb hby d7_26) rfl rfl (l' := #[.val (.ref a1), .val (.int (0 : Int32)), .val (.int (4 : Int32)), .val (.ref b652), .val (.int (0 : Int32)), .val (.ref x1_663)]) rfl ?_
    refine Owe.aload X663.here hx (hb hby d7_28) rfl rfl ?_
    refine Owe.iload X663.here hx (hb hby d7_30) rfl ?_
    refine Owe.stat X663 hx (y := Y0) hown (mvT hZ (wd hw 95)) (mvT hZ (wd hw 96)) (mvT hZ (wd hw 35)) (mvT hZ (wd hw 97)) (by decide) (backOf (W := 0) (rmgch l Z a0 hw [] x1_663 kb1_663 v0 (0 : Int32) (lo1 v0) (hi1 v0) (8 : Int32) ([(.int (lo1 v0)), (.int (hi1 v0)), (.int (lo1 v1)), (.int (hi1 v1)), (.int (lo1 v2)), (.int (hi1 v2)), (.int (lo1 v3)), (.int (hi1 v3))]) T663.heap n0 Z_667 V_x1_663 (by decide) rfl (by decide) rfl (own_gp _ hr0) (own_narV hr0) Ol_666 S__assertionsDisabled S_HI_BYTE_SHIFT S_LO_BYTE_SHIFT) hZ (wd hw 97) (wd hw 35) (by decide) (by decide)) (by rw [hml]; rfl) (argsL := [(.ref x1_663), (.int (0 : Int32))]) (rest := []) (lenOf pd_7 rfl) rfl (nb rfl) (hb hby d7_32) rfl rfl (by decide) (by decide) fun T668 v668 L668 X668 hQ668 => ?_
    obtain ⟨rfl, Nq668, e668⟩ := hQ668
    have N668 := Fr.app N663 Nq668
    refine Owe.sipush X668.here hx (hb hby d7_35) (w := (255 : Int32)) rfl ?_
    refine Owe.icmpYes X668.here hx (hb hby d7_38) rfl (tlt hl0_657).2.2.1 (pc' := 54) (by decide) (by decide) ?_
    refine Owe.aload X668.here hx (hb hby d7_54) rfl rfl ?_
    refine Owe.retR X668 hx hlk (t := (.array .byte)) hrt rfl rfl rfl (hb hby d7_56) rfl fun fs hE => ?_
    refine hG _ _ ⟨_, _, rfl, ?_, frameMono hE (by decide) (by decide)⟩
    show Qcma4_1 Z a1 k1 v0 v1 v2 v3 h0 n0 _ T668.heap _
    rw [e668]
    exact ⟨x1_663, kb1_663, rfl, N668, K_664, ge_x1_663, sz_x1_663, V_x1_663⟩
  · skip
    by_cases hl1_669 : (255 : Int32) < v1
    · skip
      refine Owe.stat X652 hx (y := Y5) hown (mvT hZ (wd hw 37)) (mvT hZ (wd hw 38)) (mvT hZ (wd hw 35)) (mvT hZ (wd hw 39)) (by decide) (backOf (W := 0) (rmcmi4_1 l Z a0 hw [] a1 k1 b652 k652 v0 v1 v2 v3 h652 n0 Z_656 V_a1_654 V_b652_652 ge_b652 ne_a1_b652 hl0_657 hl1_669) hZ (wd hw 39) (wd hw 35) (by decide) (by decide)) (by rw [hml]; rfl) (argsL := [(.ref a1), (.int (0 : Int32)), (.ref b652), (.int (0 : Int32)), (.int (4 : Int32))]) (rest := []) (lenOf pd_3 rfl) rfl (nb rfl) (hb hby d7_9) rfl e652 (by decide) (by decide) fun T670 v670 L670 X670 hQ670 => ?_
      obtain ⟨rfl, Nq670, K670⟩ := hQ670
      have N670 := Fr.app N0 Nq670
      have K_671 := K_653.trans K670 (allS (Or.inr sz_b652) all0)
      have V_a1_672 := V_a1_654.keep K670 (ninS ne_a1_b652 nin0)
      have Ol_673 := Ol_655.keep K670 (allS ge_b652 all0)
      have Z_674 := Nat.le_trans Z_656 K670.1
      refine Owe.istore X670.here hx (hb hby d7_12) rfl (l' := #[.val (.ref a1), .val (.int (0 : Int32)), .val (.int (4 : Int32)), .val (.ref b652), .val (.int (1 : Int32)), .unset]) rfl ?_
      refine Owe.iload X670.here hx (hb hby d7_14) rfl ?_
      refine Owe.iloadN X670.here hx (hb hby d7_16) rfl ?_
      refine Owe.icmpNo X670.here hx (hb hby d7_17) rfl (feq (by decide)).1 ?_
      refine Owe.aloadN X670.here hx (hb hby d7_20) rfl rfl ?_
      refine Owe.iloadN X670.here hx (hb hby d7_21) rfl ?_
      refine Owe.iloadN X670.here hx (hb hby d7_22) rfl ?_
      refine Owe.stat X670 hx (y := Y4) hown (mvT hZ (wd hw 79)) (mvT hZ (wd hw 80)) (mvT hZ (wd hw 35)) (mvT hZ (wd hw 81)) (by decide) (backOf (W := 0) (rmtob4 l Z a0 hw [] a1 k1 v0 v1 v2 v3 T670.heap n0 Z_674 V_a1_672 Ol_673 S__assertionsDisabled S_HI_BYTE_SHIFT S_LO_BYTE_SHIFT) hZ (wd hw 81) (wd hw 35) (by decide) (by decide)) (by rw [hml]; rfl) (argsL := [(.ref a1), (.int (0 : Int32)), (.int (4 : Int32))]) (rest := []) (lenOf pd_4 rfl) rfl (nb rfl) (hb hby d7_23) rfl rfl (by decide) (by decide) fun T675 v675 L675 X675 hQ675 => ?_
      obtain ⟨x1_675, kb1_675, rfl, Nq675, K675, ge_x1_675, fresh_x1_675, V_x1_675⟩ := hQ675
      have N675 := Fr.app N670 Nq675
      have K_676 := K_671.trans K675 all0
      have V_a1_677 := V_a1_672.keep K675 nin0
      have Ol_678 := Ol_673.keep K675 all0
      have Z_679 := Nat.le_trans Z_674 K675.1
      have ne_a1_x1_675 : a1 ≠ x1_675 := Nat.ne_of_lt (Nat.lt_of_lt_of_le V_a1_672.lt fresh_x1_675)
      have sz_x1_675 := Nat.le_trans K_671.1 fresh_x1_675
      refine Owe.astore X675.here hx (hb hby d7_26) rfl rfl (l' := #[.val (.ref a1), .val (.int (0 : Int32)), .val (.int (4 : Int32)), .val (.ref b652), .val (.int (1 : Int32)), .val (.ref x1_675)]) rfl ?_
      refine Owe.aload X675.here hx (hb hby d7_28) rfl rfl ?_
      refine Owe.iload X675.here hx (hb hby d7_30) rfl ?_
      refine Owe.stat X675 hx (y := Y0) hown (mvT hZ (wd hw 95)) (mvT hZ (wd hw 96)) (mvT hZ (wd hw 35)) (mvT hZ (wd hw 97)) (by decide) (backOf (W := 0) (rmgch l Z a0 hw [] x1_675 kb1_675 v1 (1 : Int32) (lo1 v1) (hi1 v1) (8 : Int32) ([(.int (lo1 v0)), (.int (hi1 v0)), (.int (lo1 v1)), (.int (hi1 v1)), (.int (lo1 v2)), (.int (hi1 v2)), (.int (lo1 v3)), (.int (hi1 v3))]) T675.heap n0 Z_679 V_x1_675 (by decide) rfl (by decide) rfl (own_gp _ hr1) (own_narV hr1) Ol_678 S__assertionsDisabled S_HI_BYTE_SHIFT S_LO_BYTE_SHIFT) hZ (wd hw 97) (wd hw 35) (by decide) (by decide)) (by rw [hml]; rfl) (argsL := [(.ref x1_675), (.int (1 : Int32))]) (rest := []) (lenOf pd_7 rfl) rfl (nb rfl) (hb hby d7_32) rfl rfl (by decide) (by decide) fun T680 v680 L680 X680 hQ680 => ?_
      obtain ⟨rfl, Nq680, e680⟩ := hQ680
      have N680 := Fr.app N675 Nq680
      refine Owe.sipush X680.here hx (hb hby d7_35) (w := (255 : Int32)) rfl ?_
      refine Owe.icmpYes X680.here hx (hb hby d7_38) rfl (tlt hl1_669).2.2.1 (pc' := 54) (by decide) (by decide) ?_
      refine Owe.aload X680.here hx (hb hby d7_54) rfl rfl ?_
      refine Owe.retR X680 hx hlk (t := (.array .byte)) hrt rfl rfl rfl (hb hby d7_56) rfl fun fs hE => ?_
      refine hG _ _ ⟨_, _, rfl, ?_, frameMono hE (by decide) (by decide)⟩
      show Qcma4_1 Z a1 k1 v0 v1 v2 v3 h0 n0 _ T680.heap _
      rw [e680]
      exact ⟨x1_675, kb1_675, rfl, N680, K_676, ge_x1_675, sz_x1_675, V_x1_675⟩
    · skip
      by_cases hl2_681 : (255 : Int32) < v2
      · skip
        refine Owe.stat X652 hx (y := Y5) hown (mvT hZ (wd hw 37)) (mvT hZ (wd hw 38)) (mvT hZ (wd hw 35)) (mvT hZ (wd hw 39)) (by decide) (backOf (W := 0) (rmcmi4_2 l Z a0 hw [] a1 k1 b652 k652 v0 v1 v2 v3 h652 n0 Z_656 V_a1_654 V_b652_652 ge_b652 ne_a1_b652 hl0_657 hl1_669 hl2_681) hZ (wd hw 39) (wd hw 35) (by decide) (by decide)) (by rw [hml]; rfl) (argsL := [(.ref a1), (.int (0 : Int32)), (.ref b652), (.int (0 : Int32)), (.int (4 : Int32))]) (rest := []) (lenOf pd_3 rfl) rfl (nb rfl) (hb hby d7_9) rfl e652 (by decide) (by decide) fun T682 v682 L682 X682 hQ682 => ?_
        obtain ⟨rfl, Nq682, K682⟩ := hQ682
        have N682 := Fr.app N0 Nq682
        have K_683 := K_653.trans K682 (allS (Or.inr sz_b652) all0)
        have V_a1_684 := V_a1_654.keep K682 (ninS ne_a1_b652 nin0)
        have Ol_685 := Ol_655.keep K682 (allS ge_b652 all0)
        have Z_686 := Nat.le_trans Z_656 K682.1
        refine Owe.istore X682.here hx (hb hby d7_12) rfl (l' := #[.val (.ref a1), .val (.int (0 : Int32)), .val (.int (4 : Int32)), .val (.ref b652), .val (.int (2 : Int32)), .unset]) rfl ?_
        refine Owe.iload X682.here hx (hb hby d7_14) rfl ?_
        refine Owe.iloadN X682.here hx (hb hby d7_16) rfl ?_
        refine Owe.icmpNo X682.here hx (hb hby d7_17) rfl (feq (by decide)).1 ?_
        refine Owe.aloadN X682.here hx (hb hby d7_20) rfl rfl ?_
        refine Owe.iloadN X682.here hx (hb hby d7_21) rfl ?_
        refine Owe.iloadN X682.here hx (hb hby d7_22) rfl ?_
        refine Owe.stat X682 hx (y := Y4) hown (mvT hZ (wd hw 79)) (mvT hZ (wd hw 80)) (mvT hZ (wd hw 35)) (mvT hZ (wd hw 81)) (by decide) (backOf (W := 0) (rmtob4 l Z a0 hw [] a1 k1 v0 v1 v2 v3 T682.heap n0 Z_686 V_a1_684 Ol_685 S__assertionsDisabled S_HI_BYTE_SHIFT S_LO_BYTE_SHIFT) hZ (wd hw 81) (wd hw 35) (by decide) (by decide)) (by rw [hml]; rfl) (argsL := [(.ref a1), (.int (0 : Int32)), (.int (4 : Int32))]) (rest := []) (lenOf pd_4 rfl) rfl (nb rfl) (hb hby d7_23) rfl rfl (by decide) (by decide) fun T687 v687 L687 X687 hQ687 => ?_
        obtain ⟨x1_687, kb1_687, rfl, Nq687, K687, ge_x1_687, fresh_x1_687, V_x1_687⟩ := hQ687
        have N687 := Fr.app N682 Nq687
        have K_688 := K_683.trans K687 all0
        have V_a1_689 := V_a1_684.keep K687 nin0
        have Ol_690 := Ol_685.keep K687 all0
        have Z_691 := Nat.le_trans Z_686 K687.1
        have ne_a1_x1_687 : a1 ≠ x1_687 := Nat.ne_of_lt (Nat.lt_of_lt_of_le V_a1_684.lt fresh_x1_687)
        have sz_x1_687 := Nat.le_trans K_683.1 fresh_x1_687
        refine Owe.astore X687.here hx (hb hby d7_26) rfl rfl (l' := #[.val (.ref a1), .val (.int (0 : Int32)), .val (.int (4 : Int32)), .val (.ref b652), .val (.int (2 : Int32)), .val (.ref x1_687)]) rfl ?_
        refine Owe.aload X687.here hx (hb hby d7_28) rfl rfl ?_
        refine Owe.iload X687.here hx (hb hby d7_30) rfl ?_
        refine Owe.stat X687 hx (y := Y0) hown (mvT hZ (wd hw 95)) (mvT hZ (wd hw 96)) (mvT hZ (wd hw 35)) (mvT hZ (wd hw 97)) (by decide) (backOf (W := 0) (rmgch l Z a0 hw [] x1_687 kb1_687 v2 (2 : Int32) (lo1 v2) (hi1 v2) (8 : Int32) ([(.int (lo1 v0)), (.int (hi1 v0)), (.int (lo1 v1)), (.int (hi1 v1)), (.int (lo1 v2)), (.int (hi1 v2)), (.int (lo1 v3)), (.int (hi1 v3))]) T687.heap n0 Z_691 V_x1_687 (by decide) rfl (by decide) rfl (own_gp _ hr2) (own_narV hr2) Ol_690 S__assertionsDisabled S_HI_BYTE_SHIFT S_LO_BYTE_SHIFT) hZ (wd hw 97) (wd hw 35) (by decide) (by decide)) (by rw [hml]; rfl) (argsL := [(.ref x1_687), (.int (2 : Int32))]) (rest := []) (lenOf pd_7 rfl) rfl (nb rfl) (hb hby d7_32) rfl rfl (by decide) (by decide) fun T692 v692 L692 X692 hQ692 => ?_
        obtain ⟨rfl, Nq692, e692⟩ := hQ692
        have N692 := Fr.app N687 Nq692
        refine Owe.sipush X692.here hx (hb hby d7_35) (w := (255 : Int32)) rfl ?_
        refine Owe.icmpYes X692.here hx (hb hby d7_38) rfl (tlt hl2_681).2.2.1 (pc' := 54) (by decide) (by decide) ?_
        refine Owe.aload X692.here hx (hb hby d7_54) rfl rfl ?_
        refine Owe.retR X692 hx hlk (t := (.array .byte)) hrt rfl rfl rfl (hb hby d7_56) rfl fun fs hE => ?_
        refine hG _ _ ⟨_, _, rfl, ?_, frameMono hE (by decide) (by decide)⟩
        show Qcma4_1 Z a1 k1 v0 v1 v2 v3 h0 n0 _ T692.heap _
        rw [e692]
        exact ⟨x1_687, kb1_687, rfl, N692, K_688, ge_x1_687, sz_x1_687, V_x1_687⟩
      · skip
        by_cases hl3_693 : (255 : Int32) < v3
        · skip
          refine Owe.stat X652 hx (y := Y5) hown (mvT hZ (wd hw 37)) (mvT hZ (wd hw 38)) (mvT hZ (wd hw 35)) (mvT hZ (wd hw 39)) (by decide) (backOf (W := 0) (rmcmi4_3 l Z a0 hw [] a1 k1 b652 k652 v0 v1 v2 v3 h652 n0 Z_656 V_a1_654 V_b652_652 ge_b652 ne_a1_b652 hl0_657 hl1_669 hl2_681 hl3_693) hZ (wd hw 39) (wd hw 35) (by decide) (by decide)) (by rw [hml]; rfl) (argsL := [(.ref a1), (.int (0 : Int32)), (.ref b652), (.int (0 : Int32)), (.int (4 : Int32))]) (rest := []) (lenOf pd_3 rfl) rfl (nb rfl) (hb hby d7_9) rfl e652 (by decide) (by decide) fun T694 v694 L694 X694 hQ694 => ?_
          obtain ⟨rfl, Nq694, K694⟩ := hQ694
          have N694 := Fr.app N0 Nq694
          have K_695 := K_653.trans K694 (allS (Or.inr sz_b652) all0)
          have V_a1_696 := V_a1_654.keep K694 (ninS ne_a1_b652 nin0)
          have Ol_697 := Ol_655.keep K694 (allS ge_b652 all0)
          have Z_698 := Nat.le_trans Z_656 K694.1
          refine Owe.istore X694.here hx (hb hby d7_12) rfl (l' := #[.val (.ref a1), .val (.int (0 : Int32)), .val (.int (4 : Int32)), .val (.ref b652), .val (.int (3 : Int32)), .unset]) rfl ?_
          refine Owe.iload X694.here hx (hb hby d7_14) rfl ?_
          refine Owe.iloadN X694.here hx (hb hby d7_16) rfl ?_
          refine Owe.icmpNo X694.here hx (hb hby d7_17) rfl (feq (by decide)).1 ?_
          refine Owe.aloadN X694.here hx (hb hby d7_20) rfl rfl ?_
          refine Owe.iloadN X694.here hx (hb hby d7_21) rfl ?_
          refine Owe.iloadN X694.here hx (hb hby d7_22) rfl ?_
          refine Owe.stat X694 hx (y := Y4) hown (mvT hZ (wd hw 79)) (mvT hZ (wd hw 80)) (mvT hZ (wd hw 35)) (mvT hZ (wd hw 81)) (by decide) (backOf (W := 0) (rmtob4 l Z a0 hw [] a1 k1 v0 v1 v2 v3 T694.heap n0 Z_698 V_a1_696 Ol_697 S__assertionsDisabled S_HI_BYTE_SHIFT S_LO_BYTE_SHIFT) hZ (wd hw 81) (wd hw 35) (by decide) (by decide)) (by rw [hml]; rfl) (argsL := [(.ref a1), (.int (0 : Int32)), (.int (4 : Int32))]) (rest := []) (lenOf pd_4 rfl) rfl (nb rfl) (hb hby d7_23) rfl rfl (by decide) (by decide) fun T699 v699 L699 X699 hQ699 => ?_
          obtain ⟨x1_699, kb1_699, rfl, Nq699, K699, ge_x1_699, fresh_x1_699, V_x1_699⟩ := hQ699
          have N699 := Fr.app N694 Nq699
          have K_700 := K_695.trans K699 all0
          have V_a1_701 := V_a1_696.keep K699 nin0
          have Ol_702 := Ol_697.keep K699 all0
          have Z_703 := Nat.le_trans Z_698 K699.1
          have ne_a1_x1_699 : a1 ≠ x1_699 := Nat.ne_of_lt (Nat.lt_of_lt_of_le V_a1_696.lt fresh_x1_699)
          have sz_x1_699 := Nat.le_trans K_695.1 fresh_x1_699
          refine Owe.astore X699.here hx (hb hby d7_26) rfl rfl (l' := #[.val (.ref a1), .val (.int (0 : Int32)), .val (.int (4 : Int32)), .val (.ref b652), .val (.int (3 : Int32)), .val (.ref x1_699)]) rfl ?_
          refine Owe.aload X699.here hx (hb hby d7_28) rfl rfl ?_
          refine Owe.iload X699.here hx (hb hby d7_30) rfl ?_
          refine Owe.stat X699 hx (y := Y0) hown (mvT hZ (wd hw 95)) (mvT hZ (wd hw 96)) (mvT hZ (wd hw 35)) (mvT hZ (wd hw 97)) (by decide) (backOf (W := 0) (rmgch l Z a0 hw [] x1_699 kb1_699 v3 (3 : Int32) (lo1 v3) (hi1 v3) (8 : Int32) ([(.int (lo1 v0)), (.int (hi1 v0)), (.int (lo1 v1)), (.int (hi1 v1)), (.int (lo1 v2)), (.int (hi1 v2)), (.int (lo1 v3)), (.int (hi1 v3))]) T699.heap n0 Z_703 V_x1_699 (by decide) rfl (by decide) rfl (own_gp _ hr3) (own_narV hr3) Ol_702 S__assertionsDisabled S_HI_BYTE_SHIFT S_LO_BYTE_SHIFT) hZ (wd hw 97) (wd hw 35) (by decide) (by decide)) (by rw [hml]; rfl) (argsL := [(.ref x1_699), (.int (3 : Int32))]) (rest := []) (lenOf pd_7 rfl) rfl (nb rfl) (hb hby d7_32) rfl rfl (by decide) (by decide) fun T704 v704 L704 X704 hQ704 => ?_
          obtain ⟨rfl, Nq704, e704⟩ := hQ704
          have N704 := Fr.app N699 Nq704
          refine Owe.sipush X704.here hx (hb hby d7_35) (w := (255 : Int32)) rfl ?_
          refine Owe.icmpYes X704.here hx (hb hby d7_38) rfl (tlt hl3_693).2.2.1 (pc' := 54) (by decide) (by decide) ?_
          refine Owe.aload X704.here hx (hb hby d7_54) rfl rfl ?_
          refine Owe.retR X704 hx hlk (t := (.array .byte)) hrt rfl rfl rfl (hb hby d7_56) rfl fun fs hE => ?_
          refine hG _ _ ⟨_, _, rfl, ?_, frameMono hE (by decide) (by decide)⟩
          show Qcma4_1 Z a1 k1 v0 v1 v2 v3 h0 n0 _ T704.heap _
          rw [e704]
          exact ⟨x1_699, kb1_699, rfl, N704, K_700, ge_x1_699, sz_x1_699, V_x1_699⟩
        · skip
          exact absurd hW (by simp [hl0_657, hl1_669, hl2_681, hl3_693])
theorem ef_siv4_1 (m : MethodId) (x0 : Addr) (x1 : Addr) (x2 : Int32) (x3 : Int32)  : entryFrame m #[(.ref x0), (.ref x1), (.int x2), (.int x3), .null] 6 = mkF m 0 #[.val (.ref x0), .val (.ref x1), .val (.int x2), .val (.int x3), .val .null, .unset] [] := by first | (simp [entryFrame, mkF, argsToLocals, Value.category]; done) | rfl
def Qsiv4_1 (Z : State) (a0_ : Addr) (a1 : Addr) (k1 : ClassId) (v0 : Int32) (v1 : Int32) (v2 : Int32) (v3 : Int32) (G1 : Int32) (h0 : Heap) (n0 : Nat) (v : Option Value) (h : Heap) (L : List Loc) : Prop := ∃ (b_ : Addr), ∃ (kb1 : ClassId), v = none ∧ Fr n0 L ∧ Keep h0 h [a0_] ∧ Exa Z h a0_ "java/lang/String" ∧ Fld Z h a0_ "java/lang/String" "value" "[B" (.ref b_) ∧ Fld Z h a0_ "java/lang/String" "coder" "B" (.int (1 : Int32)) ∧ Arv Z h b_ kb1 .byte (8 : Int32) [(.int (lo1 v0)), (.int (hi1 v0)), (.int (lo1 v1)), (.int (hi1 v1)), (.int (lo1 v2)), (.int (hi1 v2)), (.int (lo1 v3)), (.int (hi1 v3))] (.int (0 : Int32))
set_option maxRecDepth 65536 in
set_option maxHeartbeats 40000000 in
theorem rmsiv4_1 (l : Launch) (Z : State) (a0 : Array Value) (hw : Hw Z a0) (ws : List Jvm.Cond) (a0_ : Addr) (a1 : Addr) (k1 : ClassId) (v0 : Int32) (v1 : Int32) (v2 : Int32) (v3 : Int32) (G1 : Int32) (h0 : Heap) (n0 : Nat) (Z0 : n0 ≤ h0.size) (E_a0_ : Exa Z h0 a0_ "java/lang/String") (Fvalue_a0_ : Fld Z h0 a0_ "java/lang/String" "value" "[B" .null) (Fcoder_a0_ : Fld Z h0 a0_ "java/lang/String" "coder" "B" (.int (0 : Int32))) (ge_a0_ : n0 ≤ a0_) (V_a1 : Arv Z h0 a1 k1 .char (4 : Int32) [(.int v0), (.int v1), (.int v2), (.int v3)] (.int (0 : Int32))) (ne_a1_a0_ : a1 ≠ a0_) (hW : (255 : Int32) < v0 ∨ (255 : Int32) < v1 ∨ (255 : Int32) < v2 ∨ (255 : Int32) < v3) (hr0 : ¬ v0 < 0 ∧ ¬ (65535 : Int32) < v0) (hr1 : ¬ v1 < 0 ∧ ¬ (65535 : Int32) < v1) (hr2 : ¬ v2 < 0 ∧ ¬ (65535 : Int32) < v2) (hr3 : ¬ v3 < 0 ∧ ¬ (65535 : Int32) < v3) (S_COMPACT_STRINGS : Sta Z Z.heap "java/lang/String" "COMPACT_STRINGS" "Z" (.int G1)) (cs0 : ¬ (G1 = (0 : Int32))) (Ol : Old Z n0 h0) (S__assertionsDisabled : Sta Z Z.heap "java/lang/StringUTF16" "$assertionsDisabled" "Z" (.int (1 : Int32))) (S_HI_BYTE_SHIFT : Sta Z Z.heap "java/lang/StringUTF16" "HI_BYTE_SHIFT" "I" (.int (0 : Int32))) (S_LO_BYTE_SHIFT : Sta Z Z.heap "java/lang/StringUTF16" "LO_BYTE_SHIFT" "I" (.int (8 : Int32))) :
    MF l Z Y8 jdk_42_method_149_code 6 none ws ({ frames := 4, cells := 2, slots := 12, locals := 58 } : Room) #[(.ref a0_), (.ref a1), (.int (0 : Int32)), (.int (4 : Int32)), .null] h0 (Qsiv4_1 Z a0_ a1 k1 v0 v1 v2 v3 G1 h0 n0) := by
  refine MF.of pn_1 (fun m => ef_siv4_1 m a0_ a1 (0 : Int32) (4 : Int32)) ?_
  intro p e s m below meth c s₁ G X0 e0 hx hby hml hown hnm hlk hrt hZ hnd hG
  have N0 := Fr.nil n0
  have K0 := Keep.refl h0 [a0_]
  refine Owe.aloadN X0.here hx (hb hby d8_0) rfl rfl ?_
  refine Owe.objinit X0 hx hZ hown (wd hw 12) (wd hw 13) (wd hw 14) e0 (by rw [hml]; rfl) rfl (hb hby d8_1) (by decide) (W := 0) (nb rfl) (by decide) fun T705 X705 e705 => ?_
  refine Owe.iloadN X705.here hx (hb hby d8_4) rfl ?_
  refine Owe.ifYes X705.here hx (hb hby d8_5) rfl ((if0 _ _).trans (feq (by decide)).2) (pc' := 27) (by decide) (by decide) ?_
  refine Owe.gets X705 hx hZ hown (wd hw 32) Via.refl e705 (S_COMPACT_STRINGS.ext Ol.2) (hb hby d8_27) fun T706 X706 e706 => ?_
  refine Owe.ifNo X706.here hx (hb hby d8_30) rfl ((if0 _ _).trans (feq cs0).1) ?_
  refine Owe.aloadN X706.here hx (hb hby d8_33) rfl rfl ?_
  refine Owe.iloadN X706.here hx (hb hby d8_34) rfl ?_
  refine Owe.iloadN X706.here hx (hb hby d8_35) rfl ?_
  refine Owe.stat X706 hx (y := Y7) hown (mvT hZ (wd hw 33)) (mvT hZ (wd hw 34)) (mvT hZ (wd hw 35)) (mvT hZ (wd hw 36)) (by decide) (backOf (W := 0) (rmcma4_1 l Z a0 hw [] a1 k1 v0 v1 v2 v3 h0 n0 Z0 V_a1 hW hr0 hr1 hr2 hr3 Ol S__assertionsDisabled S_HI_BYTE_SHIFT S_LO_BYTE_SHIFT) hZ (wd hw 36) (wd hw 35) (by decide) (by decide)) (by rw [hml]; rfl) (argsL := [(.ref a1), (.int (0 : Int32)), (.int (4 : Int32))]) (rest := []) (lenOf pd_4 rfl) rfl (nb rfl) (hb hby d8_36) rfl e706 (by decide) (by decide) fun T707 v707 L707 X707 hQ707 => ?_
  obtain ⟨x1_707, kb1_707, rfl, Nq707, K707, ge_x1_707, fresh_x1_707, V_x1_707⟩ := hQ707
  have N707 := Fr.app N0 Nq707
  have K_708 := K0.trans K707 all0
  have E_a0__709 := E_a0_.keep K707
  have Fvalue_a0__710 := Fvalue_a0_.keep K707 nin0
  have Fcoder_a0__711 := Fcoder_a0_.keep K707 nin0
  have V_a1_712 := V_a1.keep K707 nin0
  have Ol_713 := Ol.keep K707 all0
  have Z_714 := Nat.le_trans Z0 K707.1
  have ne_a0__x1_707 : a0_ ≠ x1_707 := Nat.ne_of_lt (Nat.lt_of_lt_of_le E_a0_.lt fresh_x1_707)
  have ne_a1_x1_707 : a1 ≠ x1_707 := Nat.ne_of_lt (Nat.lt_of_lt_of_le V_a1.lt fresh_x1_707)
  have sz_x1_707 := Nat.le_trans K0.1 fresh_x1_707
  refine Owe.astore X707.here hx (hb hby d8_39) rfl rfl (l' := #[.val (.ref a0_), .val (.ref a1), .val (.int (0 : Int32)), .val (.int (4 : Int32)), .val .null, .val (.ref x1_707)]) rfl ?_
  refine Owe.aloadN X707.here hx (hb hby d8_41) rfl rfl ?_
  refine Owe.aload X707.here hx (hb hby d8_42) rfl rfl ?_
  refine Owe.iloadN X707.here hx (hb hby d8_44) rfl ?_
  refine Owe.stat X707 hx (y := Y6) hown (mvT hZ (wd hw 40)) (mvT hZ (wd hw 41)) (mvT hZ (wd hw 35)) (mvT hZ (wd hw 42)) (by decide) (backOf (W := 1) (rmcfa4_1 l Z a0 hw [] x1_707 kb1_707 ([(.int (lo1 v0)), (.int (hi1 v0)), (.int (lo1 v1)), (.int (hi1 v1)), (.int (lo1 v2)), (.int (hi1 v2)), (.int (lo1 v3)), (.int (hi1 v3))]) T707.heap n0 Z_714 V_x1_707) hZ (wd hw 42) (wd hw 35) (by decide) (by decide)) (by rw [hml]; rfl) (argsL := [(.ref x1_707), (.int (4 : Int32))]) (rest := [(.ref a0_)]) (lenOf pd_5 rfl) rfl (nb rfl) (hb hby d8_45) rfl rfl (by decide) (by decide) fun T715 v715 L715 X715 hQ715 => ?_
  obtain ⟨rfl, Nq715, e715⟩ := hQ715
  have N715 := Fr.app N707 Nq715
  refine Owe.putf X715 hx hZ (host := "") hown (Or.inl (wd hw 22)) Via.refl e715 Fcoder_a0__711 E_a0__709 (Or.inr ⟨(wd hw 18), rfl, hnm⟩) (wd hw 3) (ty := .byte) (by decide) rfl rfl (hb hby d8_48) rfl fun T716 h716 X716 e716 W716 => ?_
  have K_717 := K_708.wr W716 (Or.inl (List.mem_of_getElem? (i := 0) rfl))
  have E_a0__718 := E_a0__709.wr W716
  have Fvalue_a0__719 := Fvalue_a0__710.other W716 (Or.inr (slot_ne (Or.inr (wd hw 17)) (Or.inr (wd hw 18)) (by decide) (t := (.array .byte)) (t' := .byte) (by decide) (by decide)))
  have Fcoder_a0__720 := Fcoder_a0__711.same W716
  have V_a1_721 := V_a1_712.other W716 ne_a1_a0_
  have Ol_722 := Ol_713.wr W716 ge_a0_
  have V_x1_723 := V_x1_707.other W716 (Ne.symm ne_a0__x1_707)
  have Z_724 := Nat.le_trans Z_714 (Keep.of_wr W716).1
  have N716 := Fr.snoc X716 N715 ge_a0_
  refine Owe.aloadN X716.here hx (hb hby d8_51) rfl rfl ?_
  refine Owe.aload X716.here hx (hb hby d8_52) rfl rfl ?_
  refine Owe.putf X716 hx hZ (host := "") hown (Or.inl (wd hw 21)) Via.refl e716 Fvalue_a0__719 E_a0__718 (Or.inr ⟨(wd hw 17), rfl, hnm⟩) (wd hw 3) (ty := (.array .byte)) (by decide) rfl rfl (hb hby d8_54) rfl fun T725 h725 X725 e725 W725 => ?_
  have K_726 := K_717.wr W725 (Or.inl (List.mem_of_getElem? (i := 0) rfl))
  have E_a0__727 := E_a0__718.wr W725
  have Fvalue_a0__728 := Fvalue_a0__719.same W725
  have Fcoder_a0__729 := Fcoder_a0__720.other W725 (Or.inr (slot_ne (Or.inr (wd hw 18)) (Or.inr (wd hw 17)) (by decide) (t := .byte) (t' := (.array .byte)) (by decide) (by decide)))
  have V_a1_730 := V_a1_721.other W725 ne_a1_a0_
  have Ol_731 := Ol_722.wr W725 ge_a0_
  have V_x1_732 := V_x1_723.other W725 (Ne.symm ne_a0__x1_707)
  have Z_733 := Nat.le_trans Z_724 (Keep.of_wr W725).1
  have N725 := Fr.snoc X725 N716 ge_a0_
  refine Owe.ret0 X725 hx hlk hrt (hb hby d8_57) rfl fun fs hE => ?_
  refine hG _ _ ⟨_, _, rfl, ?_, frameMono hE (by decide) (by decide)⟩
  show Qsiv4_1 Z a0_ a1 k1 v0 v1 v2 v3 G1 h0 n0 _ T725.heap _
  rw [e725]
  exact ⟨x1_707, kb1_707, rfl, N725, K_726, E_a0__727, Fvalue_a0__728, Fcoder_a0__729, V_x1_732⟩
theorem ef_si4_1 (m : MethodId) (x0 : Addr) (x1 : Addr)  : entryFrame m #[(.ref x0), (.ref x1)] 2 = mkF m 0 #[.val (.ref x0), .val (.ref x1)] [] := by first | (simp [entryFrame, mkF, argsToLocals, Value.category]; done) | rfl
def Qsi4_1 (Z : State) (a0_ : Addr) (a1 : Addr) (k1 : ClassId) (v0 : Int32) (v1 : Int32) (v2 : Int32) (v3 : Int32) (G1 : Int32) (h0 : Heap) (n0 : Nat) (v : Option Value) (h : Heap) (L : List Loc) : Prop := ∃ (b_ : Addr), ∃ (kb1 : ClassId), v = none ∧ Fr n0 L ∧ Keep h0 h [a0_] ∧ Exa Z h a0_ "java/lang/String" ∧ Fld Z h a0_ "java/lang/String" "value" "[B" (.ref b_) ∧ Fld Z h a0_ "java/lang/String" "coder" "B" (.int (1 : Int32)) ∧ Arv Z h b_ kb1 .byte (8 : Int32) [(.int (lo1 v0)), (.int (hi1 v0)), (.int (lo1 v1)), (.int (hi1 v1)), (.int (lo1 v2)), (.int (hi1 v2)), (.int (lo1 v3)), (.int (hi1 v3))] (.int (0 : Int32))
set_option maxRecDepth 65536 in
set_option maxHeartbeats 40000000 in
theorem rmsi4_1 (l : Launch) (Z : State) (a0 : Array Value) (hw : Hw Z a0) (ws : List Jvm.Cond) (a0_ : Addr) (a1 : Addr) (k1 : ClassId) (v0 : Int32) (v1 : Int32) (v2 : Int32) (v3 : Int32) (G1 : Int32) (h0 : Heap) (n0 : Nat) (Z0 : n0 ≤ h0.size) (E_a0_ : Exa Z h0 a0_ "java/lang/String") (Fvalue_a0_ : Fld Z h0 a0_ "java/lang/String" "value" "[B" .null) (Fcoder_a0_ : Fld Z h0 a0_ "java/lang/String" "coder" "B" (.int (0 : Int32))) (ge_a0_ : n0 ≤ a0_) (V_a1 : Arv Z h0 a1 k1 .char (4 : Int32) [(.int v0), (.int v1), (.int v2), (.int v3)] (.int (0 : Int32))) (ne_a1_a0_ : a1 ≠ a0_) (hW : (255 : Int32) < v0 ∨ (255 : Int32) < v1 ∨ (255 : Int32) < v2 ∨ (255 : Int32) < v3) (hr0 : ¬ v0 < 0 ∧ ¬ (65535 : Int32) < v0) (hr1 : ¬ v1 < 0 ∧ ¬ (65535 : Int32) < v1) (hr2 : ¬ v2 < 0 ∧ ¬ (65535 : Int32) < v2) (hr3 : ¬ v3 < 0 ∧ ¬ (65535 : Int32) < v3) (S_COMPACT_STRINGS : Sta Z Z.heap "java/lang/String" "COMPACT_STRINGS" "Z" (.int G1)) (cs0 : ¬ (G1 = (0 : Int32))) (Ol : Old Z n0 h0) (S__assertionsDisabled : Sta Z Z.heap "java/lang/StringUTF16" "$assertionsDisabled" "Z" (.int (1 : Int32))) (S_HI_BYTE_SHIFT : Sta Z Z.heap "java/lang/StringUTF16" "HI_BYTE_SHIFT" "I" (.int (0 : Int32))) (S_LO_BYTE_SHIFT : Sta Z Z.heap "java/lang/StringUTF16" "LO_BYTE_SHIFT" "I" (.int (8 : Int32))) :
    MF l Z Y9 jdk_42_method_3_code 2 none ws ({ frames := 5, cells := 2, slots := 12, locals := 76 } : Room) #[(.ref a0_), (.ref a1)] h0 (Qsi4_1 Z a0_ a1 k1 v0 v1 v2 v3 G1 h0 n0) := by
  refine MF.of pn_1 (fun m => ef_si4_1 m a0_ a1) ?_
  intro p e s m below meth c s₁ G X0 e0 hx hby hml hown hnm hlk hrt hZ hnd hG
  have N0 := Fr.nil n0
  have K0 := Keep.refl h0 [a0_]
  refine Owe.aloadN X0.here hx (hb hby d9_0) rfl rfl ?_
  refine Owe.aloadN X0.here hx (hb hby d9_1) rfl rfl ?_
  refine Owe.iconst X0.here hx (hb hby d9_2) (w := (0 : Int32)) rfl ?_
  refine Owe.aloadN X0.here hx (hb hby d9_3) rfl rfl ?_
  refine Owe.arrlen X0 hx hZ e0 V_a1 (hb hby d9_4) rfl ?_
  refine Owe.aconstNull X0.here hx (hb hby d9_5)  ?_
  refine Owe.special X0 hx (y := Y8) rfl hown (mvT hZ (wd hw 8)) (mvT hZ (wd hw 9)) (mvT hZ (wd hw 11)) (by decide) (backOf (W := 0) (rmsiv4_1 l Z a0 hw [] a0_ a1 k1 v0 v1 v2 v3 G1 h0 n0 Z0 E_a0_ Fvalue_a0_ Fcoder_a0_ ge_a0_ V_a1 ne_a1_a0_ hW hr0 hr1 hr2 hr3 S_COMPACT_STRINGS cs0 Ol S__assertionsDisabled S_HI_BYTE_SHIFT S_LO_BYTE_SHIFT) hZ (wd hw 11) (wd hw 4) (by decide) (by decide)) (by rw [hml]; rfl) (a := a0_) (argsL := [(.ref a1), (.int (0 : Int32)), (.int (4 : Int32)), .null]) (rest := []) (lenOf pd_6 rfl) rfl (nb rfl) (hb hby d9_6) rfl e0 (by decide) (by decide) fun T734 v734 L734 X734 hQ734 => ?_
  obtain ⟨b__734, kb1_734, rfl, Nq734, K734, E_a0__734, Fvalue_a0__734, Fcoder_a0__734, V_b__734⟩ := hQ734
  have N734 := Fr.app N0 Nq734
  have K_735 := K0.trans K734 (allS (Or.inl (List.mem_of_getElem? (i := 0) rfl)) all0)
  have E_a0__736 := E_a0_.keep K734
  have V_a1_737 := V_a1.keep K734 (ninS ne_a1_a0_ nin0)
  have Ol_738 := Ol.keep K734 (allS ge_a0_ all0)
  have Z_739 := Nat.le_trans Z0 K734.1
  refine Owe.ret0 X734 hx hlk hrt (hb hby d9_9) rfl fun fs hE => ?_
  refine hG _ _ ⟨_, _, rfl, ?_, frameMono hE (by decide) (by decide)⟩
  show Qsi4_1 Z a0_ a1 k1 v0 v1 v2 v3 G1 h0 n0 _ T734.heap _
  exact ⟨b__734, kb1_734, rfl, N734, K_735, E_a0__734, Fvalue_a0__734, Fcoder_a0__734, V_b__734⟩
theorem d10_0 : decode jdk_41_method_11_code 0 = .ok (.iload_n 0, 1) := by decide +kernel
theorem d10_1 : decode jdk_41_method_11_code 1 = .ok (.ifCond .lt 8, 3) := by decide +kernel
theorem d10_4 : decode jdk_41_method_11_code 4 = .ok (.iload_n 0, 1) := by decide +kernel
theorem d10_5 : decode jdk_41_method_11_code 5 = .ok (.iload_n 1, 1) := by decide +kernel
theorem d10_6 : decode jdk_41_method_11_code 6 = .ok (.if_icmp .lt 10, 3) := by decide +kernel
theorem d10_9 : decode jdk_41_method_11_code 9 = .ok (.aload_n 2, 1) := by decide +kernel
theorem d10_10 : decode jdk_41_method_11_code 10 = .ok (.iload_n 0, 1) := by decide +kernel
theorem d10_11 : decode jdk_41_method_11_code 11 = .ok (.iload_n 1, 1) := by decide +kernel
theorem d10_12 : decode jdk_41_method_11_code 12 = .ok (.invokestatic 95, 3) := by decide +kernel
theorem d10_15 : decode jdk_41_method_11_code 15 = .ok (.athrow, 1) := by decide +kernel
theorem d10_16 : decode jdk_41_method_11_code 16 = .ok (.iload_n 0, 1) := by decide +kernel
theorem d10_17 : decode jdk_41_method_11_code 17 = .ok (.ireturn, 1) := by decide +kernel
abbrev Y10 : MethodName := ⟨"jdk/internal/util/Preconditions", "checkIndex", "(IILjava/util/function/BiFunction;)I"⟩
theorem pn_2 : plainName "jdk/internal/util/Preconditions" = true := by first | (simp [plainName, overriddenIn]; done) | decide +kernel
theorem ef_pci (m : MethodId) (x0 : Int32) (x1 : Int32) (x2 : Value) (hx2 : x2.category = 1) : entryFrame m #[(.int x0), (.int x1), x2] 3 = mkF m 0 #[.val (.int x0), .val (.int x1), .val x2] [] := by first | (simp [entryFrame, mkF, argsToLocals, Value.category, hx2]; done) | rfl | (cases x2 <;> first | rfl | (cases hx2; done))
def Qpci (Z : State) (i1 : Int32) (n1 : Int32) (fm : Value) (h0 : Heap) (n0 : Nat) (v : Option Value) (h : Heap) (L : List Loc) : Prop := v = some (.int i1) ∧ Fr n0 L ∧ h = h0
set_option maxRecDepth 65536 in
set_option maxHeartbeats 40000000 in
theorem rmpci (l : Launch) (Z : State) (a0 : Array Value) (hw : Hw Z a0) (ws : List Jvm.Cond) (i1 : Int32) (n1 : Int32) (fm : Value) (h0 : Heap) (n0 : Nat) (Z0 : n0 ≤ h0.size) (hi1 : ¬ i1 < 0) (hi2 : i1 < n1) (ir_fm : (fm).isRef = true) :
    MF l Z Y10 jdk_41_method_11_code 3 (some .int) ws ({ frames := 0, cells := 0, slots := 0, locals := 0 } : Room) #[(.int i1), (.int n1), fm] h0 (Qpci Z i1 n1 fm h0 n0) := by
  refine MF.of pn_2 (fun m => ef_pci m i1 n1 fm (own_cat_ref ir_fm)) ?_
  intro p e s m below meth c s₁ G X0 e0 hx hby hml hown hnm hlk hrt hZ hnd hG
  have N0 := Fr.nil n0
  refine Owe.iloadN X0.here hx (hb hby d10_0) rfl ?_
  refine Owe.ifNo X0.here hx (hb hby d10_1) rfl ((if0 _ _).trans (flt hi1).1) ?_
  refine Owe.iloadN X0.here hx (hb hby d10_4) rfl ?_
  refine Owe.iloadN X0.here hx (hb hby d10_5) rfl ?_
  refine Owe.icmpYes X0.here hx (hb hby d10_6) rfl (tlt hi2).1 (pc' := 16) (by decide) (by decide) ?_
  refine Owe.iloadN X0.here hx (hb hby d10_16) rfl ?_
  refine Owe.retI X0 hx hlk hrt (hb hby d10_17) rfl fun fs hE => ?_
  refine hG _ _ ⟨_, _, rfl, ?_, frameMono hE (by decide) (by decide)⟩
  show Qpci Z i1 n1 fm h0 n0 _ s₁.heap _
  rw [e0]
  exact ⟨rfl, N0, rfl⟩
theorem d11_0 : decode jdk_42_method_155_code 0 = .ok (.iload_n 0, 1) := by decide +kernel
theorem d11_1 : decode jdk_42_method_155_code 1 = .ok (.iload_n 1, 1) := by decide +kernel
theorem d11_2 : decode jdk_42_method_155_code 2 = .ok (.getstatic 1053, 3) := by decide +kernel
theorem d11_5 : decode jdk_42_method_155_code 5 = .ok (.invokestatic 1059, 3) := by decide +kernel
theorem d11_8 : decode jdk_42_method_155_code 8 = .ok (.pop, 1) := by decide +kernel
theorem d11_9 : decode jdk_42_method_155_code 9 = .ok (.return_, 1) := by decide +kernel
abbrev Y11 : MethodName := ⟨"java/lang/String", "checkIndex", "(II)V"⟩
theorem ef_sci (m : MethodId) (x0 : Int32) (x1 : Int32)  : entryFrame m #[(.int x0), (.int x1)] 2 = mkF m 0 #[.val (.int x0), .val (.int x1)] [] := by first | (simp [entryFrame, mkF, argsToLocals, Value.category]; done) | rfl
def Qsci (Z : State) (i1 : Int32) (n1 : Int32) (fm : Value) (h0 : Heap) (n0 : Nat) (v : Option Value) (h : Heap) (L : List Loc) : Prop := v = none ∧ Fr n0 L ∧ h = h0
set_option maxRecDepth 65536 in
set_option maxHeartbeats 40000000 in
theorem rmsci (l : Launch) (Z : State) (a0 : Array Value) (hw : Hw Z a0) (ws : List Jvm.Cond) (i1 : Int32) (n1 : Int32) (fm : Value) (h0 : Heap) (n0 : Nat) (Z0 : n0 ≤ h0.size) (hi1 : ¬ i1 < 0) (hi2 : i1 < n1) (Ol : Old Z n0 h0) (S_SIOOBE_FORMATTER : Sta Z Z.heap "jdk/internal/util/Preconditions" "SIOOBE_FORMATTER" "Ljava/util/function/BiFunction;" fm) (ir_fm : (fm).isRef = true) :
    MF l Z Y11 jdk_42_method_155_code 2 none ws ({ frames := 1, cells := 0, slots := 0, locals := 14 } : Room) #[(.int i1), (.int n1)] h0 (Qsci Z i1 n1 fm h0 n0) := by
  refine MF.of pn_1 (fun m => ef_sci m i1 n1) ?_
  intro p e s m below meth c s₁ G X0 e0 hx hby hml hown hnm hlk hrt hZ hnd hG
  have N0 := Fr.nil n0
  refine Owe.iloadN X0.here hx (hb hby d11_0) rfl ?_
  refine Owe.iloadN X0.here hx (hb hby d11_1) rfl ?_
  refine Owe.gets X0 hx hZ hown (wd hw 74) Via.refl e0 (S_SIOOBE_FORMATTER.ext Ol.2) (hb hby d11_2) fun T740 X740 e740 => ?_
  refine Owe.stat X740 hx (y := Y10) hown (mvT hZ (wd hw 76)) (mvT hZ (wd hw 77)) (mvT hZ (wd hw 75)) (mvT hZ (wd hw 78)) (by decide) (backOf (W := 0) (rmpci l Z a0 hw [] i1 n1 fm h0 n0 Z0 hi1 hi2 ir_fm) hZ (wd hw 78) (wd hw 75) (by decide) (by decide)) (by rw [hml]; rfl) (argsL := [(.int i1), (.int n1), fm]) (rest := []) (lenOf pd_8 rfl) rfl (nb rfl) (hb hby d11_5) rfl e740 (by decide) (by decide) fun T741 v741 L741 X741 hQ741 => ?_
  obtain ⟨rfl, Nq741, e741⟩ := hQ741
  have N741 := Fr.app N0 Nq741
  refine Owe.pop X741.here hx (hb hby d11_8) rfl rfl ?_
  refine Owe.ret0 X741 hx hlk hrt (hb hby d11_9) rfl fun fs hE => ?_
  refine hG _ _ ⟨_, _, rfl, ?_, frameMono hE (by decide) (by decide)⟩
  show Qsci Z i1 n1 fm h0 n0 _ T741.heap _
  rw [e741]
  exact ⟨rfl, N741, rfl⟩
theorem d12_0 : decode jdk_42_method_152_code 0 = .ok (.getstatic 38, 3) := by decide +kernel
theorem d12_3 : decode jdk_42_method_152_code 3 = .ok (.ifCond .eq 10, 3) := by decide +kernel
theorem d12_6 : decode jdk_42_method_152_code 6 = .ok (.aload_n 0, 1) := by decide +kernel
theorem d12_7 : decode jdk_42_method_152_code 7 = .ok (.getfield 15, 3) := by decide +kernel
theorem d12_10 : decode jdk_42_method_152_code 10 = .ok (.goto 4, 3) := by decide +kernel
theorem d12_13 : decode jdk_42_method_152_code 13 = .ok (.iconst 1, 1) := by decide +kernel
theorem d12_14 : decode jdk_42_method_152_code 14 = .ok (.ireturn, 1) := by decide +kernel
abbrev Y12 : MethodName := ⟨"java/lang/String", "coder", "()B"⟩
theorem ef_cdr0 (m : MethodId) (x0 : Addr)  : entryFrame m #[(.ref x0)] 1 = mkF m 0 #[.val (.ref x0)] [] := by first | (simp [entryFrame, mkF, argsToLocals, Value.category]; done) | rfl
def Qcdr0 (Z : State) (a1 : Addr) (G1 : Int32) (h0 : Heap) (n0 : Nat) (v : Option Value) (h : Heap) (L : List Loc) : Prop := v = some (.int (0 : Int32)) ∧ Fr n0 L ∧ h = h0
set_option maxRecDepth 65536 in
set_option maxHeartbeats 40000000 in
theorem rmcdr0 (l : Launch) (Z : State) (a0 : Array Value) (hw : Hw Z a0) (ws : List Jvm.Cond) (a1 : Addr) (G1 : Int32) (h0 : Heap) (n0 : Nat) (Z0 : n0 ≤ h0.size) (E_a1 : Exa Z h0 a1 "java/lang/String") (Fcoder_a1 : Fld Z h0 a1 "java/lang/String" "coder" "B" (.int (0 : Int32))) (S_COMPACT_STRINGS : Sta Z Z.heap "java/lang/String" "COMPACT_STRINGS" "Z" (.int G1)) (cs0 : ¬ (G1 = (0 : Int32))) (Ol : Old Z n0 h0) :
    MF l Z Y12 jdk_42_method_152_code 1 (some .byte) ws ({ frames := 0, cells := 0, slots := 0, locals := 0 } : Room) #[(.ref a1)] h0 (Qcdr0 Z a1 G1 h0 n0) := by
  refine MF.of pn_1 (fun m => ef_cdr0 m a1) ?_
  intro p e s m below meth c s₁ G X0 e0 hx hby hml hown hnm hlk hrt hZ hnd hG
  have N0 := Fr.nil n0
  refine Owe.gets X0 hx hZ hown (wd hw 32) Via.refl e0 (S_COMPACT_STRINGS.ext Ol.2) (hb hby d12_0) fun T742 X742 e742 => ?_
  refine Owe.ifNo X742.here hx (hb hby d12_3) rfl ((if0 _ _).trans (feq cs0).1) ?_
  refine Owe.aloadN X742.here hx (hb hby d12_6) rfl rfl ?_
  refine Owe.getf X742 hx hZ (host := "") hown (Or.inl (wd hw 22)) Via.refl e742 Fcoder_a1 (hb hby d12_7) rfl fun T743 X743 e743 => ?_
  refine Owe.goto X743.here hx (hb hby d12_10) (pc' := 14) (by decide) (by decide) ?_
  refine Owe.retN X743 hx hlk (t := .byte) hrt (by simp) (hb hby d12_14) rfl fun fs hE => ?_
  refine hG _ _ ⟨_, _, rfl, ?_, frameMono hE (by decide) (by decide)⟩
  show Qcdr0 Z a1 G1 h0 n0 _ T743.heap _
  rw [e743]
  exact ⟨rfl, N0, rfl⟩
theorem d13_0 : decode jdk_42_method_154_code 0 = .ok (.getstatic 38, 3) := by decide +kernel
theorem d13_3 : decode jdk_42_method_154_code 3 = .ok (.ifCond .eq 14, 3) := by decide +kernel
theorem d13_6 : decode jdk_42_method_154_code 6 = .ok (.aload_n 0, 1) := by decide +kernel
theorem d13_7 : decode jdk_42_method_154_code 7 = .ok (.getfield 15, 3) := by decide +kernel
theorem d13_10 : decode jdk_42_method_154_code 10 = .ok (.ifCond .ne 7, 3) := by decide +kernel
theorem d13_13 : decode jdk_42_method_154_code 13 = .ok (.iconst 1, 1) := by decide +kernel
theorem d13_14 : decode jdk_42_method_154_code 14 = .ok (.goto 4, 3) := by decide +kernel
theorem d13_17 : decode jdk_42_method_154_code 17 = .ok (.iconst 0, 1) := by decide +kernel
theorem d13_18 : decode jdk_42_method_154_code 18 = .ok (.ireturn, 1) := by decide +kernel
abbrev Y13 : MethodName := ⟨"java/lang/String", "isLatin1", "()Z"⟩
theorem ef_isl0 (m : MethodId) (x0 : Addr)  : entryFrame m #[(.ref x0)] 1 = mkF m 0 #[.val (.ref x0)] [] := by first | (simp [entryFrame, mkF, argsToLocals, Value.category]; done) | rfl
def Qisl0 (Z : State) (a1 : Addr) (G1 : Int32) (h0 : Heap) (n0 : Nat) (v : Option Value) (h : Heap) (L : List Loc) : Prop := v = some (.int (1 : Int32)) ∧ Fr n0 L ∧ h = h0
set_option maxRecDepth 65536 in
set_option maxHeartbeats 40000000 in
theorem rmisl0 (l : Launch) (Z : State) (a0 : Array Value) (hw : Hw Z a0) (ws : List Jvm.Cond) (a1 : Addr) (G1 : Int32) (h0 : Heap) (n0 : Nat) (Z0 : n0 ≤ h0.size) (E_a1 : Exa Z h0 a1 "java/lang/String") (Fcoder_a1 : Fld Z h0 a1 "java/lang/String" "coder" "B" (.int (0 : Int32))) (S_COMPACT_STRINGS : Sta Z Z.heap "java/lang/String" "COMPACT_STRINGS" "Z" (.int G1)) (cs0 : ¬ (G1 = (0 : Int32))) (Ol : Old Z n0 h0) :
    MF l Z Y13 jdk_42_method_154_code 1 (some .boolean) ws ({ frames := 0, cells := 0, slots := 0, locals := 0 } : Room) #[(.ref a1)] h0 (Qisl0 Z a1 G1 h0 n0) := by
  refine MF.of pn_1 (fun m => ef_isl0 m a1) ?_
  intro p e s m below meth c s₁ G X0 e0 hx hby hml hown hnm hlk hrt hZ hnd hG
  have N0 := Fr.nil n0
  refine Owe.gets X0 hx hZ hown (wd hw 32) Via.refl e0 (S_COMPACT_STRINGS.ext Ol.2) (hb hby d13_0) fun T744 X744 e744 => ?_
  refine Owe.ifNo X744.here hx (hb hby d13_3) rfl ((if0 _ _).trans (feq cs0).1) ?_
  refine Owe.aloadN X744.here hx (hb hby d13_6) rfl rfl ?_
  refine Owe.getf X744 hx hZ (host := "") hown (Or.inl (wd hw 22)) Via.refl e744 Fcoder_a1 (hb hby d13_7) rfl fun T745 X745 e745 => ?_
  refine Owe.ifNo X745.here hx (hb hby d13_10) rfl ((if0 _ _).trans (teq (by decide)).2) ?_
  refine Owe.iconst X745.here hx (hb hby d13_13) (w := (1 : Int32)) rfl ?_
  refine Owe.goto X745.here hx (hb hby d13_14) (pc' := 18) (by decide) (by decide) ?_
  refine Owe.retN X745 hx hlk (t := .boolean) hrt (by simp) (hb hby d13_18) rfl fun fs hE => ?_
  refine hG _ _ ⟨_, _, rfl, ?_, frameMono hE (by decide) (by decide)⟩
  show Qisl0 Z a1 G1 h0 n0 _ T745.heap _
  rw [e745]
  exact ⟨rfl, N0, rfl⟩
theorem ef_cdr1 (m : MethodId) (x0 : Addr)  : entryFrame m #[(.ref x0)] 1 = mkF m 0 #[.val (.ref x0)] [] := by first | (simp [entryFrame, mkF, argsToLocals, Value.category]; done) | rfl
def Qcdr1 (Z : State) (a1 : Addr) (G1 : Int32) (h0 : Heap) (n0 : Nat) (v : Option Value) (h : Heap) (L : List Loc) : Prop := v = some (.int (1 : Int32)) ∧ Fr n0 L ∧ h = h0
set_option maxRecDepth 65536 in
set_option maxHeartbeats 40000000 in
theorem rmcdr1 (l : Launch) (Z : State) (a0 : Array Value) (hw : Hw Z a0) (ws : List Jvm.Cond) (a1 : Addr) (G1 : Int32) (h0 : Heap) (n0 : Nat) (Z0 : n0 ≤ h0.size) (E_a1 : Exa Z h0 a1 "java/lang/String") (Fcoder_a1 : Fld Z h0 a1 "java/lang/String" "coder" "B" (.int (1 : Int32))) (S_COMPACT_STRINGS : Sta Z Z.heap "java/lang/String" "COMPACT_STRINGS" "Z" (.int G1)) (cs0 : ¬ (G1 = (0 : Int32))) (Ol : Old Z n0 h0) :
    MF l Z Y12 jdk_42_method_152_code 1 (some .byte) ws ({ frames := 0, cells := 0, slots := 0, locals := 0 } : Room) #[(.ref a1)] h0 (Qcdr1 Z a1 G1 h0 n0) := by
  refine MF.of pn_1 (fun m => ef_cdr1 m a1) ?_
  intro p e s m below meth c s₁ G X0 e0 hx hby hml hown hnm hlk hrt hZ hnd hG
  have N0 := Fr.nil n0
  refine Owe.gets X0 hx hZ hown (wd hw 32) Via.refl e0 (S_COMPACT_STRINGS.ext Ol.2) (hb hby d12_0) fun T746 X746 e746 => ?_
  refine Owe.ifNo X746.here hx (hb hby d12_3) rfl ((if0 _ _).trans (feq cs0).1) ?_
  refine Owe.aloadN X746.here hx (hb hby d12_6) rfl rfl ?_
  refine Owe.getf X746 hx hZ (host := "") hown (Or.inl (wd hw 22)) Via.refl e746 Fcoder_a1 (hb hby d12_7) rfl fun T747 X747 e747 => ?_
  refine Owe.goto X747.here hx (hb hby d12_10) (pc' := 14) (by decide) (by decide) ?_
  refine Owe.retN X747 hx hlk (t := .byte) hrt (by simp) (hb hby d12_14) rfl fun fs hE => ?_
  refine hG _ _ ⟨_, _, rfl, ?_, frameMono hE (by decide) (by decide)⟩
  show Qcdr1 Z a1 G1 h0 n0 _ T747.heap _
  rw [e747]
  exact ⟨rfl, N0, rfl⟩
theorem ef_isl1 (m : MethodId) (x0 : Addr)  : entryFrame m #[(.ref x0)] 1 = mkF m 0 #[.val (.ref x0)] [] := by first | (simp [entryFrame, mkF, argsToLocals, Value.category]; done) | rfl
def Qisl1 (Z : State) (a1 : Addr) (G1 : Int32) (h0 : Heap) (n0 : Nat) (v : Option Value) (h : Heap) (L : List Loc) : Prop := v = some (.int (0 : Int32)) ∧ Fr n0 L ∧ h = h0
set_option maxRecDepth 65536 in
set_option maxHeartbeats 40000000 in
theorem rmisl1 (l : Launch) (Z : State) (a0 : Array Value) (hw : Hw Z a0) (ws : List Jvm.Cond) (a1 : Addr) (G1 : Int32) (h0 : Heap) (n0 : Nat) (Z0 : n0 ≤ h0.size) (E_a1 : Exa Z h0 a1 "java/lang/String") (Fcoder_a1 : Fld Z h0 a1 "java/lang/String" "coder" "B" (.int (1 : Int32))) (S_COMPACT_STRINGS : Sta Z Z.heap "java/lang/String" "COMPACT_STRINGS" "Z" (.int G1)) (cs0 : ¬ (G1 = (0 : Int32))) (Ol : Old Z n0 h0) :
    MF l Z Y13 jdk_42_method_154_code 1 (some .boolean) ws ({ frames := 0, cells := 0, slots := 0, locals := 0 } : Room) #[(.ref a1)] h0 (Qisl1 Z a1 G1 h0 n0) := by
  refine MF.of pn_1 (fun m => ef_isl1 m a1) ?_
  intro p e s m below meth c s₁ G X0 e0 hx hby hml hown hnm hlk hrt hZ hnd hG
  have N0 := Fr.nil n0
  refine Owe.gets X0 hx hZ hown (wd hw 32) Via.refl e0 (S_COMPACT_STRINGS.ext Ol.2) (hb hby d13_0) fun T748 X748 e748 => ?_
  refine Owe.ifNo X748.here hx (hb hby d13_3) rfl ((if0 _ _).trans (feq cs0).1) ?_
  refine Owe.aloadN X748.here hx (hb hby d13_6) rfl rfl ?_
  refine Owe.getf X748 hx hZ (host := "") hown (Or.inl (wd hw 22)) Via.refl e748 Fcoder_a1 (hb hby d13_7) rfl fun T749 X749 e749 => ?_
  refine Owe.ifYes X749.here hx (hb hby d13_10) rfl ((if0 _ _).trans (feq (by decide)).2) (pc' := 17) (by decide) (by decide) ?_
  refine Owe.iconst X749.here hx (hb hby d13_17) (w := (0 : Int32)) rfl ?_
  refine Owe.retN X749 hx hlk (t := .boolean) hrt (by simp) (hb hby d13_18) rfl fun fs hE => ?_
  refine hG _ _ ⟨_, _, rfl, ?_, frameMono hE (by decide) (by decide)⟩
  show Qisl1 Z a1 G1 h0 n0 _ T749.heap _
  rw [e749]
  exact ⟨rfl, N0, rfl⟩
theorem d14_0 : decode jdk_42_method_55_code 0 = .ok (.aload_n 0, 1) := by decide +kernel
theorem d14_1 : decode jdk_42_method_55_code 1 = .ok (.getfield 9, 3) := by decide +kernel
theorem d14_4 : decode jdk_42_method_55_code 4 = .ok (.arraylength, 1) := by decide +kernel
theorem d14_5 : decode jdk_42_method_55_code 5 = .ok (.ifCond .ne 7, 3) := by decide +kernel
theorem d14_8 : decode jdk_42_method_55_code 8 = .ok (.iconst 1, 1) := by decide +kernel
theorem d14_9 : decode jdk_42_method_55_code 9 = .ok (.goto 4, 3) := by decide +kernel
theorem d14_12 : decode jdk_42_method_55_code 12 = .ok (.iconst 0, 1) := by decide +kernel
theorem d14_13 : decode jdk_42_method_55_code 13 = .ok (.ireturn, 1) := by decide +kernel
abbrev Y14 : MethodName := ⟨"java/lang/String", "isEmpty", "()Z"⟩
theorem ef_emp0 (m : MethodId) (x0 : Addr)  : entryFrame m #[(.ref x0)] 1 = mkF m 0 #[.val (.ref x0)] [] := by first | (simp [entryFrame, mkF, argsToLocals, Value.category]; done) | rfl
def Qemp0 (Z : State) (a1 : Addr) (t1 : Addr) (kb1 : ClassId) (h0 : Heap) (n0 : Nat) (v : Option Value) (h : Heap) (L : List Loc) : Prop := v = some (.int (1 : Int32)) ∧ Fr n0 L ∧ h = h0
set_option maxRecDepth 65536 in
set_option maxHeartbeats 40000000 in
theorem rmemp0 (l : Launch) (Z : State) (a0 : Array Value) (hw : Hw Z a0) (ws : List Jvm.Cond) (a1 : Addr) (t1 : Addr) (kb1 : ClassId) (h0 : Heap) (n0 : Nat) (Z0 : n0 ≤ h0.size) (E_a1 : Exa Z h0 a1 "java/lang/String") (Fvalue_a1 : Fld Z h0 a1 "java/lang/String" "value" "[B" (.ref t1)) (V_t1 : Arv Z h0 t1 kb1 .byte (0 : Int32) [] (.int (0 : Int32))) :
    MF l Z Y14 jdk_42_method_55_code 1 (some .boolean) ws ({ frames := 0, cells := 0, slots := 0, locals := 0 } : Room) #[(.ref a1)] h0 (Qemp0 Z a1 t1 kb1 h0 n0) := by
  refine MF.of pn_1 (fun m => ef_emp0 m a1) ?_
  intro p e s m below meth c s₁ G X0 e0 hx hby hml hown hnm hlk hrt hZ hnd hG
  have N0 := Fr.nil n0
  refine Owe.aloadN X0.here hx (hb hby d14_0) rfl rfl ?_
  refine Owe.getf X0 hx hZ (host := "") hown (Or.inl (wd hw 21)) Via.refl e0 Fvalue_a1 (hb hby d14_1) rfl fun T750 X750 e750 => ?_
  refine Owe.arrlen X750 hx hZ e750 V_t1 (hb hby d14_4) rfl ?_
  refine Owe.ifNo X750.here hx (hb hby d14_5) rfl ((if0 _ _).trans (teq (by decide)).2) ?_
  refine Owe.iconst X750.here hx (hb hby d14_8) (w := (1 : Int32)) rfl ?_
  refine Owe.goto X750.here hx (hb hby d14_9) (pc' := 13) (by decide) (by decide) ?_
  refine Owe.retN X750 hx hlk (t := .boolean) hrt (by simp) (hb hby d14_13) rfl fun fs hE => ?_
  refine hG _ _ ⟨_, _, rfl, ?_, frameMono hE (by decide) (by decide)⟩
  show Qemp0 Z a1 t1 kb1 h0 n0 _ T750.heap _
  rw [e750]
  exact ⟨rfl, N0, rfl⟩
theorem ef_emp1 (m : MethodId) (x0 : Addr)  : entryFrame m #[(.ref x0)] 1 = mkF m 0 #[.val (.ref x0)] [] := by first | (simp [entryFrame, mkF, argsToLocals, Value.category]; done) | rfl
def Qemp1 (Z : State) (a1 : Addr) (t1 : Addr) (kb1 : ClassId) (N : Int32) (vs : List Value) (h0 : Heap) (n0 : Nat) (v : Option Value) (h : Heap) (L : List Loc) : Prop := v = some (.int (0 : Int32)) ∧ Fr n0 L ∧ h = h0
set_option maxRecDepth 65536 in
set_option maxHeartbeats 40000000 in
theorem rmemp1 (l : Launch) (Z : State) (a0 : Array Value) (hw : Hw Z a0) (ws : List Jvm.Cond) (a1 : Addr) (t1 : Addr) (kb1 : ClassId) (N : Int32) (vs : List Value) (h0 : Heap) (n0 : Nat) (Z0 : n0 ≤ h0.size) (E_a1 : Exa Z h0 a1 "java/lang/String") (Fvalue_a1 : Fld Z h0 a1 "java/lang/String" "value" "[B" (.ref t1)) (V_t1 : Arv Z h0 t1 kb1 .byte N vs (.int (0 : Int32))) (hz : ¬ N = (0 : Int32)) :
    MF l Z Y14 jdk_42_method_55_code 1 (some .boolean) ws ({ frames := 0, cells := 0, slots := 0, locals := 0 } : Room) #[(.ref a1)] h0 (Qemp1 Z a1 t1 kb1 N vs h0 n0) := by
  refine MF.of pn_1 (fun m => ef_emp1 m a1) ?_
  intro p e s m below meth c s₁ G X0 e0 hx hby hml hown hnm hlk hrt hZ hnd hG
  have N0 := Fr.nil n0
  refine Owe.aloadN X0.here hx (hb hby d14_0) rfl rfl ?_
  refine Owe.getf X0 hx hZ (host := "") hown (Or.inl (wd hw 21)) Via.refl e0 Fvalue_a1 (hb hby d14_1) rfl fun T751 X751 e751 => ?_
  refine Owe.arrlen X751 hx hZ e751 V_t1 (hb hby d14_4) rfl ?_
  refine Owe.ifYes X751.here hx (hb hby d14_5) rfl ((if0 _ _).trans (feq hz).2) (pc' := 12) (by decide) (by decide) ?_
  refine Owe.iconst X751.here hx (hb hby d14_12) (w := (0 : Int32)) rfl ?_
  refine Owe.retN X751 hx hlk (t := .boolean) hrt (by simp) (hb hby d14_13) rfl fun fs hE => ?_
  refine hG _ _ ⟨_, _, rfl, ?_, frameMono hE (by decide) (by decide)⟩
  show Qemp1 Z a1 t1 kb1 N vs h0 n0 _ T751.heap _
  rw [e751]
  exact ⟨rfl, N0, rfl⟩
theorem d15_0 : decode jdk_42_method_54_code 0 = .ok (.aload_n 0, 1) := by decide +kernel
theorem d15_1 : decode jdk_42_method_54_code 1 = .ok (.getfield 9, 3) := by decide +kernel
theorem d15_4 : decode jdk_42_method_54_code 4 = .ok (.arraylength, 1) := by decide +kernel
theorem d15_5 : decode jdk_42_method_54_code 5 = .ok (.aload_n 0, 1) := by decide +kernel
theorem d15_6 : decode jdk_42_method_54_code 6 = .ok (.invokevirtual 335, 3) := by decide +kernel
theorem d15_9 : decode jdk_42_method_54_code 9 = .ok (.ishr, 1) := by decide +kernel
theorem d15_10 : decode jdk_42_method_54_code 10 = .ok (.ireturn, 1) := by decide +kernel
abbrev Y15 : MethodName := ⟨"java/lang/String", "length", "()I"⟩
theorem ef_sln0 (m : MethodId) (x0 : Addr)  : entryFrame m #[(.ref x0)] 1 = mkF m 0 #[.val (.ref x0)] [] := by first | (simp [entryFrame, mkF, argsToLocals, Value.category]; done) | rfl
def Qsln0 (Z : State) (a1 : Addr) (t1 : Addr) (kb1 : ClassId) (N : Int32) (vs : List Value) (G1 : Int32) (n1 : Int32) (h0 : Heap) (n0 : Nat) (v : Option Value) (h : Heap) (L : List Loc) : Prop := v = some (.int n1) ∧ Fr n0 L ∧ h = h0
set_option maxRecDepth 65536 in
set_option maxHeartbeats 40000000 in
theorem rmsln0 (l : Launch) (Z : State) (a0 : Array Value) (hw : Hw Z a0) (ws : List Jvm.Cond) (a1 : Addr) (t1 : Addr) (kb1 : ClassId) (N : Int32) (vs : List Value) (G1 : Int32) (n1 : Int32) (h0 : Heap) (n0 : Nat) (Z0 : n0 ≤ h0.size) (Fvalue_a1 : Fld Z h0 a1 "java/lang/String" "value" "[B" (.ref t1)) (V_t1 : Arv Z h0 t1 kb1 .byte N vs (.int (0 : Int32))) (E_a1 : Exa Z h0 a1 "java/lang/String") (Fcoder_a1 : Fld Z h0 a1 "java/lang/String" "coder" "B" (.int (0 : Int32))) (S_COMPACT_STRINGS : Sta Z Z.heap "java/lang/String" "COMPACT_STRINGS" "Z" (.int G1)) (cs0 : ¬ (G1 = (0 : Int32))) (Ol : Old Z n0 h0) (hln : (N >>> ((0 : Int32) &&& 31)) = n1) :
    MF l Z Y15 jdk_42_method_54_code 1 (some .int) ws ({ frames := 1, cells := 0, slots := 0, locals := 14 } : Room) #[(.ref a1)] h0 (Qsln0 Z a1 t1 kb1 N vs G1 n1 h0 n0) := by
  refine MF.of pn_1 (fun m => ef_sln0 m a1) ?_
  intro p e s m below meth c s₁ G X0 e0 hx hby hml hown hnm hlk hrt hZ hnd hG
  have N0 := Fr.nil n0
  refine Owe.aloadN X0.here hx (hb hby d15_0) rfl rfl ?_
  refine Owe.getf X0 hx hZ (host := "") hown (Or.inl (wd hw 21)) Via.refl e0 Fvalue_a1 (hb hby d15_1) rfl fun T752 X752 e752 => ?_
  refine Owe.arrlen X752 hx hZ e752 V_t1 (hb hby d15_4) rfl ?_
  refine Owe.aloadN X752.here hx (hb hby d15_5) rfl rfl ?_
  refine Owe.virt X752 hx hZ (y := Y12) (z := Y12) hown (mvT hZ (wd hw 52)) (mvT hZ (wd hw 53)) (mvT hZ (wd hw 55)) (mvT hZ (wd hw 54)) (notFace_of_selects (args := #[]) (mvT hZ (wd hw 55))) (by decide) (backOf (W := 1) (rmcdr0 l Z a0 hw [] a1 G1 h0 n0 Z0 E_a1 Fcoder_a1 S_COMPACT_STRINGS cs0 Ol) hZ (wd hw 56) (wd hw 4) (by decide) (by decide)) (by rw [hml]; rfl) (a := a1) (argsL := []) (rest := [(.int N)]) E_a1 (lenOf pd_9 rfl) rfl (nb rfl) (hb hby d15_6) rfl e752 (by decide) (by decide) fun T753 v753 L753 X753 hQ753 => ?_
  obtain ⟨rfl, Nq753, e753⟩ := hQ753
  have N753 := Fr.app N0 Nq753
  refine Owe.ishr X753.here hx (hb hby d15_9) rfl ?_
  refine Owe.retI X753 hx hlk hrt (hb hby d15_10) rfl fun fs hE => ?_
  refine hG _ _ ⟨_, _, rfl, ?_, frameMono hE (by decide) (by decide)⟩
  show Qsln0 Z a1 t1 kb1 N vs G1 n1 h0 n0 _ T753.heap _
  rw [e753]
  exact ⟨(congrArg (fun z => some (Value.int z)) hln), N753, rfl⟩
theorem ef_sln1 (m : MethodId) (x0 : Addr)  : entryFrame m #[(.ref x0)] 1 = mkF m 0 #[.val (.ref x0)] [] := by first | (simp [entryFrame, mkF, argsToLocals, Value.category]; done) | rfl
def Qsln1 (Z : State) (a1 : Addr) (t1 : Addr) (kb1 : ClassId) (N : Int32) (vs : List Value) (G1 : Int32) (n1 : Int32) (h0 : Heap) (n0 : Nat) (v : Option Value) (h : Heap) (L : List Loc) : Prop := v = some (.int n1) ∧ Fr n0 L ∧ h = h0
set_option maxRecDepth 65536 in
set_option maxHeartbeats 40000000 in
theorem rmsln1 (l : Launch) (Z : State) (a0 : Array Value) (hw : Hw Z a0) (ws : List Jvm.Cond) (a1 : Addr) (t1 : Addr) (kb1 : ClassId) (N : Int32) (vs : List Value) (G1 : Int32) (n1 : Int32) (h0 : Heap) (n0 : Nat) (Z0 : n0 ≤ h0.size) (Fvalue_a1 : Fld Z h0 a1 "java/lang/String" "value" "[B" (.ref t1)) (V_t1 : Arv Z h0 t1 kb1 .byte N vs (.int (0 : Int32))) (E_a1 : Exa Z h0 a1 "java/lang/String") (Fcoder_a1 : Fld Z h0 a1 "java/lang/String" "coder" "B" (.int (1 : Int32))) (S_COMPACT_STRINGS : Sta Z Z.heap "java/lang/String" "COMPACT_STRINGS" "Z" (.int G1)) (cs0 : ¬ (G1 = (0 : Int32))) (Ol : Old Z n0 h0) (hln : (N >>> ((1 : Int32) &&& 31)) = n1) :
    MF l Z Y15 jdk_42_method_54_code 1 (some .int) ws ({ frames := 1, cells := 0, slots := 0, locals := 14 } : Room) #[(.ref a1)] h0 (Qsln1 Z a1 t1 kb1 N vs G1 n1 h0 n0) := by
  refine MF.of pn_1 (fun m => ef_sln1 m a1) ?_
  intro p e s m below meth c s₁ G X0 e0 hx hby hml hown hnm hlk hrt hZ hnd hG
  have N0 := Fr.nil n0
  refine Owe.aloadN X0.here hx (hb hby d15_0) rfl rfl ?_
  refine Owe.getf X0 hx hZ (host := "") hown (Or.inl (wd hw 21)) Via.refl e0 Fvalue_a1 (hb hby d15_1) rfl fun T754 X754 e754 => ?_
  refine Owe.arrlen X754 hx hZ e754 V_t1 (hb hby d15_4) rfl ?_
  refine Owe.aloadN X754.here hx (hb hby d15_5) rfl rfl ?_
  refine Owe.virt X754 hx hZ (y := Y12) (z := Y12) hown (mvT hZ (wd hw 52)) (mvT hZ (wd hw 53)) (mvT hZ (wd hw 55)) (mvT hZ (wd hw 54)) (notFace_of_selects (args := #[]) (mvT hZ (wd hw 55))) (by decide) (backOf (W := 1) (rmcdr1 l Z a0 hw [] a1 G1 h0 n0 Z0 E_a1 Fcoder_a1 S_COMPACT_STRINGS cs0 Ol) hZ (wd hw 56) (wd hw 4) (by decide) (by decide)) (by rw [hml]; rfl) (a := a1) (argsL := []) (rest := [(.int N)]) E_a1 (lenOf pd_9 rfl) rfl (nb rfl) (hb hby d15_6) rfl e754 (by decide) (by decide) fun T755 v755 L755 X755 hQ755 => ?_
  obtain ⟨rfl, Nq755, e755⟩ := hQ755
  have N755 := Fr.app N0 Nq755
  refine Owe.ishr X755.here hx (hb hby d15_9) rfl ?_
  refine Owe.retI X755 hx hlk hrt (hb hby d15_10) rfl fun fs hE => ?_
  refine hG _ _ ⟨_, _, rfl, ?_, frameMono hE (by decide) (by decide)⟩
  show Qsln1 Z a1 t1 kb1 N vs G1 n1 h0 n0 _ T755.heap _
  rw [e755]
  exact ⟨(congrArg (fun z => some (Value.int z)) hln), N755, rfl⟩
theorem d16_0 : decode jdk_52_method_6_code 0 = .ok (.aload_n 0, 1) := by decide +kernel
theorem d16_1 : decode jdk_52_method_6_code 1 = .ok (.arraylength, 1) := by decide +kernel
theorem d16_2 : decode jdk_52_method_6_code 2 = .ok (.iconst 1, 1) := by decide +kernel
theorem d16_3 : decode jdk_52_method_6_code 3 = .ok (.ishr, 1) := by decide +kernel
theorem d16_4 : decode jdk_52_method_6_code 4 = .ok (.ireturn, 1) := by decide +kernel
abbrev Y16 : MethodName := ⟨"java/lang/StringUTF16", "length", "([B)I"⟩
theorem ef_uln (m : MethodId) (x0 : Addr)  : entryFrame m #[(.ref x0)] 1 = mkF m 0 #[.val (.ref x0)] [] := by first | (simp [entryFrame, mkF, argsToLocals, Value.category]; done) | rfl
def Quln (Z : State) (a1 : Addr) (k1 : ClassId) (N : Int32) (vs : List Value) (h0 : Heap) (n0 : Nat) (v : Option Value) (h : Heap) (L : List Loc) : Prop := v = some (.int (N >>> ((1 : Int32) &&& 31))) ∧ Fr n0 L ∧ h = h0
set_option maxRecDepth 65536 in
set_option maxHeartbeats 40000000 in
theorem rmuln (l : Launch) (Z : State) (a0 : Array Value) (hw : Hw Z a0) (ws : List Jvm.Cond) (a1 : Addr) (k1 : ClassId) (N : Int32) (vs : List Value) (h0 : Heap) (n0 : Nat) (Z0 : n0 ≤ h0.size) (V_a1 : Arv Z h0 a1 k1 .byte N vs (.int (0 : Int32))) :
    MF l Z Y16 jdk_52_method_6_code 1 (some .int) ws ({ frames := 0, cells := 0, slots := 0, locals := 0 } : Room) #[(.ref a1)] h0 (Quln Z a1 k1 N vs h0 n0) := by
  refine MF.of pn_0 (fun m => ef_uln m a1) ?_
  intro p e s m below meth c s₁ G X0 e0 hx hby hml hown hnm hlk hrt hZ hnd hG
  have N0 := Fr.nil n0
  refine Owe.aloadN X0.here hx (hb hby d16_0) rfl rfl ?_
  refine Owe.arrlen X0 hx hZ e0 V_a1 (hb hby d16_1) rfl ?_
  refine Owe.iconst X0.here hx (hb hby d16_2) (w := (1 : Int32)) rfl ?_
  refine Owe.ishr X0.here hx (hb hby d16_3) rfl ?_
  refine Owe.retI X0 hx hlk hrt (hb hby d16_4) rfl fun fs hE => ?_
  refine hG _ _ ⟨_, _, rfl, ?_, frameMono hE (by decide) (by decide)⟩
  show Quln Z a1 k1 N vs h0 n0 _ s₁.heap _
  rw [e0]
  exact ⟨rfl, N0, rfl⟩
theorem d17_0 : decode jdk_43_method_2_code 0 = .ok (.iload_n 1, 1) := by decide +kernel
theorem d17_1 : decode jdk_43_method_2_code 1 = .ok (.aload_n 0, 1) := by decide +kernel
theorem d17_2 : decode jdk_43_method_2_code 2 = .ok (.arraylength, 1) := by decide +kernel
theorem d17_3 : decode jdk_43_method_2_code 3 = .ok (.invokestatic 9, 3) := by decide +kernel
theorem d17_6 : decode jdk_43_method_2_code 6 = .ok (.aload_n 0, 1) := by decide +kernel
theorem d17_7 : decode jdk_43_method_2_code 7 = .ok (.iload_n 1, 1) := by decide +kernel
theorem d17_8 : decode jdk_43_method_2_code 8 = .ok (.baload, 1) := by decide +kernel
theorem d17_9 : decode jdk_43_method_2_code 9 = .ok (.sipush 255, 3) := by decide +kernel
theorem d17_12 : decode jdk_43_method_2_code 12 = .ok (.iand, 1) := by decide +kernel
theorem d17_13 : decode jdk_43_method_2_code 13 = .ok (.i2c, 1) := by decide +kernel
theorem d17_14 : decode jdk_43_method_2_code 14 = .ok (.ireturn, 1) := by decide +kernel
abbrev Y17 : MethodName := ⟨"java/lang/StringLatin1", "charAt", "([BI)C"⟩
theorem pn_3 : plainName "java/lang/StringLatin1" = true := by first | (simp [plainName, overriddenIn]; done) | decide +kernel
theorem ef_l1c (m : MethodId) (x0 : Addr) (x1 : Int32)  : entryFrame m #[(.ref x0), (.int x1)] 2 = mkF m 0 #[.val (.ref x0), .val (.int x1)] [] := by first | (simp [entryFrame, mkF, argsToLocals, Value.category]; done) | rfl
def Ql1c (Z : State) (a1 : Addr) (k1 : ClassId) (fm : Value) (c1 : Int32) (i1 : Int32) (b0 : Int32) (N : Int32) (vs : List Value) (h0 : Heap) (n0 : Nat) (v : Option Value) (h : Heap) (L : List Loc) : Prop := v = some (.int c1) ∧ Fr n0 L ∧ h = h0
set_option maxRecDepth 65536 in
set_option maxHeartbeats 40000000 in
theorem rml1c (l : Launch) (Z : State) (a0 : Array Value) (hw : Hw Z a0) (ws : List Jvm.Cond) (a1 : Addr) (k1 : ClassId) (fm : Value) (c1 : Int32) (i1 : Int32) (b0 : Int32) (N : Int32) (vs : List Value) (h0 : Heap) (n0 : Nat) (Z0 : n0 ≤ h0.size) (V_a1 : Arv Z h0 a1 k1 .byte N vs (.int (0 : Int32))) (hin : ¬ i1 < 0 ∧ i1 < N) (hv : vs.getD i1.toNatClampNeg (.int (0 : Int32)) = .int b0) (hch : (b0 &&& (255 : Int32)).toUInt32.toUInt16.toUInt32.toInt32 = c1) (hnc : nar .char c1 = c1) (Ol : Old Z n0 h0) (S_SIOOBE_FORMATTER : Sta Z Z.heap "jdk/internal/util/Preconditions" "SIOOBE_FORMATTER" "Ljava/util/function/BiFunction;" fm) (ir_fm : (fm).isRef = true) :
    MF l Z Y17 jdk_43_method_2_code 2 (some .char) ws ({ frames := 2, cells := 0, slots := 0, locals := 27 } : Room) #[(.ref a1), (.int i1)] h0 (Ql1c Z a1 k1 fm c1 i1 b0 N vs h0 n0) := by
  refine MF.of pn_3 (fun m => ef_l1c m a1 i1) ?_
  intro p e s m below meth c s₁ G X0 e0 hx hby hml hown hnm hlk hrt hZ hnd hG
  have N0 := Fr.nil n0
  refine Owe.iloadN X0.here hx (hb hby d17_0) rfl ?_
  refine Owe.aloadN X0.here hx (hb hby d17_1) rfl rfl ?_
  refine Owe.arrlen X0 hx hZ e0 V_a1 (hb hby d17_2) rfl ?_
  refine Owe.stat X0 hx (y := Y11) hown (mvT hZ (wd hw 71)) (mvT hZ (wd hw 72)) (mvT hZ (wd hw 4)) (mvT hZ (wd hw 73)) (by decide) (backOf (W := 0) (rmsci l Z a0 hw [] i1 N fm h0 n0 Z0 hin.1 hin.2 Ol S_SIOOBE_FORMATTER ir_fm) hZ (wd hw 73) (wd hw 4) (by decide) (by decide)) (by rw [hml]; rfl) (argsL := [(.int i1), (.int N)]) (rest := []) (lenOf pd_10 rfl) rfl (nb rfl) (hb hby d17_3) rfl e0 (by decide) (by decide) fun T756 v756 L756 X756 hQ756 => ?_
  obtain ⟨rfl, Nq756, e756⟩ := hQ756
  have N756 := Fr.app N0 Nq756
  refine Owe.aloadN X756.here hx (hb hby d17_6) rfl rfl ?_
  refine Owe.iloadN X756.here hx (hb hby d17_7) rfl ?_
  refine Owe.baload X756 hx hZ e756 V_a1 (v := (.int b0)) hin hv (hb hby d17_8) rfl ?_
  refine Owe.sipush X756.here hx (hb hby d17_9) (w := (255 : Int32)) rfl ?_
  refine Owe.iand X756.here hx (hb hby d17_12) rfl ?_
  refine Owe.i2c X756.here hx (hb hby d17_13) rfl ?_
  refine Owe.retN X756 hx hlk (t := .char) hrt (by simp) (hb hby d17_14) rfl fun fs hE => ?_
  refine hG _ _ ⟨_, _, rfl, ?_, frameMono hE (by decide) (by decide)⟩
  show Ql1c Z a1 k1 fm c1 i1 b0 N vs h0 n0 _ T756.heap _
  rw [e756]
  exact ⟨(congrArg (fun z => some (Value.int z)) ((congrArg (nar .char) hch).trans hnc)), N756, rfl⟩
theorem d18_0 : decode jdk_52_method_91_code 0 = .ok (.iload_n 0, 1) := by decide +kernel
theorem d18_1 : decode jdk_52_method_91_code 1 = .ok (.aload_n 1, 1) := by decide +kernel
theorem d18_2 : decode jdk_52_method_91_code 2 = .ok (.invokestatic 48, 3) := by decide +kernel
theorem d18_5 : decode jdk_52_method_91_code 5 = .ok (.invokestatic 414, 3) := by decide +kernel
theorem d18_8 : decode jdk_52_method_91_code 8 = .ok (.return_, 1) := by decide +kernel
abbrev Y18 : MethodName := ⟨"java/lang/StringUTF16", "checkIndex", "(I[B)V"⟩
theorem ef_uck (m : MethodId) (x0 : Int32) (x1 : Addr)  : entryFrame m #[(.int x0), (.ref x1)] 2 = mkF m 0 #[.val (.int x0), .val (.ref x1)] [] := by first | (simp [entryFrame, mkF, argsToLocals, Value.category]; done) | rfl
def Quck (Z : State) (a1 : Addr) (k1 : ClassId) (fm : Value) (i1 : Int32) (N : Int32) (vs : List Value) (h0 : Heap) (n0 : Nat) (v : Option Value) (h : Heap) (L : List Loc) : Prop := v = none ∧ Fr n0 L ∧ h = h0
set_option maxRecDepth 65536 in
set_option maxHeartbeats 40000000 in
theorem rmuck (l : Launch) (Z : State) (a0 : Array Value) (hw : Hw Z a0) (ws : List Jvm.Cond) (a1 : Addr) (k1 : ClassId) (fm : Value) (i1 : Int32) (N : Int32) (vs : List Value) (h0 : Heap) (n0 : Nat) (Z0 : n0 ≤ h0.size) (V_a1 : Arv Z h0 a1 k1 .byte N vs (.int (0 : Int32))) (hck : ¬ i1 < 0 ∧ i1 < (N >>> ((1 : Int32) &&& 31))) (Ol : Old Z n0 h0) (S_SIOOBE_FORMATTER : Sta Z Z.heap "jdk/internal/util/Preconditions" "SIOOBE_FORMATTER" "Ljava/util/function/BiFunction;" fm) (ir_fm : (fm).isRef = true) :
    MF l Z Y18 jdk_52_method_91_code 2 none ws ({ frames := 2, cells := 0, slots := 0, locals := 27 } : Room) #[(.int i1), (.ref a1)] h0 (Quck Z a1 k1 fm i1 N vs h0 n0) := by
  refine MF.of pn_0 (fun m => ef_uck m i1 a1) ?_
  intro p e s m below meth c s₁ G X0 e0 hx hby hml hown hnm hlk hrt hZ hnd hG
  have N0 := Fr.nil n0
  refine Owe.iloadN X0.here hx (hb hby d18_0) rfl ?_
  refine Owe.aloadN X0.here hx (hb hby d18_1) rfl rfl ?_
  refine Owe.stat X0 hx (y := Y16) hown (mvT hZ (wd hw 104)) (mvT hZ (wd hw 105)) (mvT hZ (wd hw 35)) (mvT hZ (wd hw 106)) (by decide) (backOf (W := 1) (rmuln l Z a0 hw [] a1 k1 N vs h0 n0 Z0 V_a1) hZ (wd hw 106) (wd hw 35) (by decide) (by decide)) (by rw [hml]; rfl) (argsL := [(.ref a1)]) (rest := [(.int i1)]) (lenOf pd_11 rfl) rfl (nb rfl) (hb hby d18_2) rfl e0 (by decide) (by decide) fun T757 v757 L757 X757 hQ757 => ?_
  obtain ⟨rfl, Nq757, e757⟩ := hQ757
  have N757 := Fr.app N0 Nq757
  refine Owe.stat X757 hx (y := Y11) hown (mvT hZ (wd hw 107)) (mvT hZ (wd hw 72)) (mvT hZ (wd hw 4)) (mvT hZ (wd hw 73)) (by decide) (backOf (W := 0) (rmsci l Z a0 hw [] i1 (N >>> ((1 : Int32) &&& 31)) fm h0 n0 Z0 hck.1 hck.2 Ol S_SIOOBE_FORMATTER ir_fm) hZ (wd hw 73) (wd hw 4) (by decide) (by decide)) (by rw [hml]; rfl) (argsL := [(.int i1), (.int (N >>> ((1 : Int32) &&& 31)))]) (rest := []) (lenOf pd_10 rfl) rfl (nb rfl) (hb hby d18_5) rfl e757 (by decide) (by decide) fun T758 v758 L758 X758 hQ758 => ?_
  obtain ⟨rfl, Nq758, e758⟩ := hQ758
  have N758 := Fr.app N757 Nq758
  refine Owe.ret0 X758 hx hlk hrt (hb hby d18_8) rfl fun fs hE => ?_
  refine hG _ _ ⟨_, _, rfl, ?_, frameMono hE (by decide) (by decide)⟩
  show Quck Z a1 k1 fm i1 N vs h0 n0 _ T758.heap _
  rw [e758]
  exact ⟨rfl, N758, rfl⟩
theorem d19_0 : decode jdk_52_method_83_code 0 = .ok (.iload_n 1, 1) := by decide +kernel
theorem d19_1 : decode jdk_52_method_83_code 1 = .ok (.aload_n 0, 1) := by decide +kernel
theorem d19_2 : decode jdk_52_method_83_code 2 = .ok (.invokestatic 67, 3) := by decide +kernel
theorem d19_5 : decode jdk_52_method_83_code 5 = .ok (.aload_n 0, 1) := by decide +kernel
theorem d19_6 : decode jdk_52_method_83_code 6 = .ok (.iload_n 1, 1) := by decide +kernel
theorem d19_7 : decode jdk_52_method_83_code 7 = .ok (.invokestatic 71, 3) := by decide +kernel
theorem d19_10 : decode jdk_52_method_83_code 10 = .ok (.ireturn, 1) := by decide +kernel
abbrev Y19 : MethodName := ⟨"java/lang/StringUTF16", "charAt", "([BI)C"⟩
theorem ef_uch (m : MethodId) (x0 : Addr) (x1 : Int32)  : entryFrame m #[(.ref x0), (.int x1)] 2 = mkF m 0 #[.val (.ref x0), .val (.int x1)] [] := by first | (simp [entryFrame, mkF, argsToLocals, Value.category]; done) | rfl
def Quch (Z : State) (a1 : Addr) (k1 : ClassId) (fm : Value) (c1 : Int32) (i1 : Int32) (b0 : Int32) (b1 : Int32) (N : Int32) (vs : List Value) (h0 : Heap) (n0 : Nat) (v : Option Value) (h : Heap) (L : List Loc) : Prop := v = some (.int c1) ∧ Fr n0 L ∧ h = h0
set_option maxRecDepth 65536 in
set_option maxHeartbeats 40000000 in
theorem rmuch (l : Launch) (Z : State) (a0 : Array Value) (hw : Hw Z a0) (ws : List Jvm.Cond) (a1 : Addr) (k1 : ClassId) (fm : Value) (c1 : Int32) (i1 : Int32) (b0 : Int32) (b1 : Int32) (N : Int32) (vs : List Value) (h0 : Heap) (n0 : Nat) (Z0 : n0 ≤ h0.size) (V_a1 : Arv Z h0 a1 k1 .byte N vs (.int (0 : Int32))) (hin0 : ¬ (i1 <<< ((1 : Int32) &&& 31)) < 0 ∧ (i1 <<< ((1 : Int32) &&& 31)) < N) (hv0 : vs.getD (i1 <<< ((1 : Int32) &&& 31)).toNatClampNeg (.int (0 : Int32)) = .int b0) (hin1 : ¬ ((i1 <<< ((1 : Int32) &&& 31)) + (1 : Int32)) < 0 ∧ ((i1 <<< ((1 : Int32) &&& 31)) + (1 : Int32)) < N) (hv1 : vs.getD ((i1 <<< ((1 : Int32) &&& 31)) + (1 : Int32)).toNatClampNeg (.int (0 : Int32)) = .int b1) (hch : getc b0 b1 = c1) (hnc : nar .char c1 = c1) (hck : ¬ i1 < 0 ∧ i1 < (N >>> ((1 : Int32) &&& 31))) (Ol : Old Z n0 h0) (S_SIOOBE_FORMATTER : Sta Z Z.heap "jdk/internal/util/Preconditions" "SIOOBE_FORMATTER" "Ljava/util/function/BiFunction;" fm) (ir_fm : (fm).isRef = true) (S__assertionsDisabled : Sta Z Z.heap "java/lang/StringUTF16" "$assertionsDisabled" "Z" (.int (1 : Int32))) (S_HI_BYTE_SHIFT : Sta Z Z.heap "java/lang/StringUTF16" "HI_BYTE_SHIFT" "I" (.int (0 : Int32))) (S_LO_BYTE_SHIFT : Sta Z Z.heap "java/lang/StringUTF16" "LO_BYTE_SHIFT" "I" (.int (8 : Int32))) :
    MF l Z Y19 jdk_52_method_83_code 2 (some .char) ws ({ frames := 3, cells := 0, slots := 0, locals := 40 } : Room) #[(.ref a1), (.int i1)] h0 (Quch Z a1 k1 fm c1 i1 b0 b1 N vs h0 n0) := by
  refine MF.of pn_0 (fun m => ef_uch m a1 i1) ?_
  intro p e s m below meth c s₁ G X0 e0 hx hby hml hown hnm hlk hrt hZ hnd hG
  have N0 := Fr.nil n0
  refine Owe.iloadN X0.here hx (hb hby d19_0) rfl ?_
  refine Owe.aloadN X0.here hx (hb hby d19_1) rfl rfl ?_
  refine Owe.stat X0 hx (y := Y18) hown (mvT hZ (wd hw 101)) (mvT hZ (wd hw 102)) (mvT hZ (wd hw 35)) (mvT hZ (wd hw 103)) (by decide) (backOf (W := 0) (rmuck l Z a0 hw [] a1 k1 fm i1 N vs h0 n0 Z0 V_a1 hck Ol S_SIOOBE_FORMATTER ir_fm) hZ (wd hw 103) (wd hw 35) (by decide) (by decide)) (by rw [hml]; rfl) (argsL := [(.int i1), (.ref a1)]) (rest := []) (lenOf pd_12 rfl) rfl (nb rfl) (hb hby d19_2) rfl e0 (by decide) (by decide) fun T759 v759 L759 X759 hQ759 => ?_
  obtain ⟨rfl, Nq759, e759⟩ := hQ759
  have N759 := Fr.app N0 Nq759
  refine Owe.aloadN X759.here hx (hb hby d19_5) rfl rfl ?_
  refine Owe.iloadN X759.here hx (hb hby d19_6) rfl ?_
  refine Owe.stat X759 hx (y := Y0) hown (mvT hZ (wd hw 95)) (mvT hZ (wd hw 96)) (mvT hZ (wd hw 35)) (mvT hZ (wd hw 97)) (by decide) (backOf (W := 0) (rmgch l Z a0 hw [] a1 k1 c1 i1 b0 b1 N vs h0 n0 Z0 V_a1 hin0 hv0 hin1 hv1 hch hnc Ol S__assertionsDisabled S_HI_BYTE_SHIFT S_LO_BYTE_SHIFT) hZ (wd hw 97) (wd hw 35) (by decide) (by decide)) (by rw [hml]; rfl) (argsL := [(.ref a1), (.int i1)]) (rest := []) (lenOf pd_7 rfl) rfl (nb rfl) (hb hby d19_7) rfl e759 (by decide) (by decide) fun T760 v760 L760 X760 hQ760 => ?_
  obtain ⟨rfl, Nq760, e760⟩ := hQ760
  have N760 := Fr.app N759 Nq760
  refine Owe.retN X760 hx hlk (t := .char) hrt (by simp) (hb hby d19_10) rfl fun fs hE => ?_
  refine hG _ _ ⟨_, _, rfl, ?_, frameMono hE (by decide) (by decide)⟩
  show Quch Z a1 k1 fm c1 i1 b0 b1 N vs h0 n0 _ T760.heap _
  rw [e760]
  exact ⟨(congrArg (fun z => some (Value.int z)) hnc), N760, rfl⟩
theorem d20_0 : decode jdk_42_method_56_code 0 = .ok (.aload_n 0, 1) := by decide +kernel
theorem d20_1 : decode jdk_42_method_56_code 1 = .ok (.invokevirtual 492, 3) := by decide +kernel
theorem d20_4 : decode jdk_42_method_56_code 4 = .ok (.ifCond .eq 12, 3) := by decide +kernel
theorem d20_7 : decode jdk_42_method_56_code 7 = .ok (.aload_n 0, 1) := by decide +kernel
theorem d20_8 : decode jdk_42_method_56_code 8 = .ok (.getfield 9, 3) := by decide +kernel
theorem d20_11 : decode jdk_42_method_56_code 11 = .ok (.iload_n 1, 1) := by decide +kernel
theorem d20_12 : decode jdk_42_method_56_code 12 = .ok (.invokestatic 495, 3) := by decide +kernel
theorem d20_15 : decode jdk_42_method_56_code 15 = .ok (.ireturn, 1) := by decide +kernel
theorem d20_16 : decode jdk_42_method_56_code 16 = .ok (.aload_n 0, 1) := by decide +kernel
theorem d20_17 : decode jdk_42_method_56_code 17 = .ok (.getfield 9, 3) := by decide +kernel
theorem d20_20 : decode jdk_42_method_56_code 20 = .ok (.iload_n 1, 1) := by decide +kernel
theorem d20_21 : decode jdk_42_method_56_code 21 = .ok (.invokestatic 498, 3) := by decide +kernel
theorem d20_24 : decode jdk_42_method_56_code 24 = .ok (.ireturn, 1) := by decide +kernel
abbrev Y20 : MethodName := ⟨"java/lang/String", "charAt", "(I)C"⟩
theorem ef_sch0 (m : MethodId) (x0 : Addr) (x1 : Int32)  : entryFrame m #[(.ref x0), (.int x1)] 2 = mkF m 0 #[.val (.ref x0), .val (.int x1)] [] := by first | (simp [entryFrame, mkF, argsToLocals, Value.category]; done) | rfl
def Qsch0 (Z : State) (a1 : Addr) (t1 : Addr) (kb1 : ClassId) (fm : Value) (G1 : Int32) (c1 : Int32) (i1 : Int32) (b0 : Int32) (N : Int32) (vs : List Value) (h0 : Heap) (n0 : Nat) (v : Option Value) (h : Heap) (L : List Loc) : Prop := v = some (.int c1) ∧ Fr n0 L ∧ h = h0
set_option maxRecDepth 65536 in
set_option maxHeartbeats 40000000 in
theorem rmsch0 (l : Launch) (Z : State) (a0 : Array Value) (hw : Hw Z a0) (ws : List Jvm.Cond) (a1 : Addr) (t1 : Addr) (kb1 : ClassId) (fm : Value) (G1 : Int32) (c1 : Int32) (i1 : Int32) (b0 : Int32) (N : Int32) (vs : List Value) (h0 : Heap) (n0 : Nat) (Z0 : n0 ≤ h0.size) (Fvalue_a1 : Fld Z h0 a1 "java/lang/String" "value" "[B" (.ref t1)) (V_t1 : Arv Z h0 t1 kb1 .byte N vs (.int (0 : Int32))) (E_a1 : Exa Z h0 a1 "java/lang/String") (Fcoder_a1 : Fld Z h0 a1 "java/lang/String" "coder" "B" (.int (0 : Int32))) (S_COMPACT_STRINGS : Sta Z Z.heap "java/lang/String" "COMPACT_STRINGS" "Z" (.int G1)) (cs0 : ¬ (G1 = (0 : Int32))) (Ol : Old Z n0 h0) (S_SIOOBE_FORMATTER : Sta Z Z.heap "jdk/internal/util/Preconditions" "SIOOBE_FORMATTER" "Ljava/util/function/BiFunction;" fm) (ir_fm : (fm).isRef = true) (S__assertionsDisabled : Sta Z Z.heap "java/lang/StringUTF16" "$assertionsDisabled" "Z" (.int (1 : Int32))) (S_HI_BYTE_SHIFT : Sta Z Z.heap "java/lang/StringUTF16" "HI_BYTE_SHIFT" "I" (.int (0 : Int32))) (S_LO_BYTE_SHIFT : Sta Z Z.heap "java/lang/StringUTF16" "LO_BYTE_SHIFT" "I" (.int (8 : Int32))) (hin : ¬ i1 < 0 ∧ i1 < N) (hv : vs.getD i1.toNatClampNeg (.int (0 : Int32)) = .int b0) (hch : (b0 &&& (255 : Int32)).toUInt32.toUInt16.toUInt32.toInt32 = c1) (hnc : nar .char c1 = c1) :
    MF l Z Y20 jdk_42_method_56_code 2 (some .char) ws ({ frames := 4, cells := 0, slots := 0, locals := 53 } : Room) #[(.ref a1), (.int i1)] h0 (Qsch0 Z a1 t1 kb1 fm G1 c1 i1 b0 N vs h0 n0) := by
  refine MF.of pn_1 (fun m => ef_sch0 m a1 i1) ?_
  intro p e s m below meth c s₁ G X0 e0 hx hby hml hown hnm hlk hrt hZ hnd hG
  have N0 := Fr.nil n0
  refine Owe.aloadN X0.here hx (hb hby d20_0) rfl rfl ?_
  refine Owe.virt X0 hx hZ (y := Y13) (z := Y13) hown (mvT hZ (wd hw 62)) (mvT hZ (wd hw 63)) (mvT hZ (wd hw 65)) (mvT hZ (wd hw 64)) (notFace_of_selects (args := #[]) (mvT hZ (wd hw 65))) (by decide) (backOf (W := 0) (rmisl0 l Z a0 hw [] a1 G1 h0 n0 Z0 E_a1 Fcoder_a1 S_COMPACT_STRINGS cs0 Ol) hZ (wd hw 66) (wd hw 4) (by decide) (by decide)) (by rw [hml]; rfl) (a := a1) (argsL := []) (rest := []) E_a1 (lenOf pd_13 rfl) rfl (nb rfl) (hb hby d20_1) rfl e0 (by decide) (by decide) fun T761 v761 L761 X761 hQ761 => ?_
  obtain ⟨rfl, Nq761, e761⟩ := hQ761
  have N761 := Fr.app N0 Nq761
  refine Owe.ifNo X761.here hx (hb hby d20_4) rfl ((if0 _ _).trans (feq (by decide)).1) ?_
  refine Owe.aloadN X761.here hx (hb hby d20_7) rfl rfl ?_
  refine Owe.getf X761 hx hZ (host := "") hown (Or.inl (wd hw 21)) Via.refl e761 Fvalue_a1 (hb hby d20_8) rfl fun T762 X762 e762 => ?_
  refine Owe.iloadN X762.here hx (hb hby d20_11) rfl ?_
  refine Owe.stat X762 hx (y := Y17) hown (mvT hZ (wd hw 67)) (mvT hZ (wd hw 68)) (mvT hZ (wd hw 69)) (mvT hZ (wd hw 70)) (by decide) (backOf (W := 0) (rml1c l Z a0 hw [] t1 kb1 fm c1 i1 b0 N vs h0 n0 Z0 V_t1 hin hv hch hnc Ol S_SIOOBE_FORMATTER ir_fm) hZ (wd hw 70) (wd hw 69) (by decide) (by decide)) (by rw [hml]; rfl) (argsL := [(.ref t1), (.int i1)]) (rest := []) (lenOf pd_7 rfl) rfl (nb rfl) (hb hby d20_12) rfl e762 (by decide) (by decide) fun T763 v763 L763 X763 hQ763 => ?_
  obtain ⟨rfl, Nq763, e763⟩ := hQ763
  have N763 := Fr.app N761 Nq763
  refine Owe.retN X763 hx hlk (t := .char) hrt (by simp) (hb hby d20_15) rfl fun fs hE => ?_
  refine hG _ _ ⟨_, _, rfl, ?_, frameMono hE (by decide) (by decide)⟩
  show Qsch0 Z a1 t1 kb1 fm G1 c1 i1 b0 N vs h0 n0 _ T763.heap _
  rw [e763]
  exact ⟨(congrArg (fun z => some (Value.int z)) hnc), N763, rfl⟩
theorem ef_sch1 (m : MethodId) (x0 : Addr) (x1 : Int32)  : entryFrame m #[(.ref x0), (.int x1)] 2 = mkF m 0 #[.val (.ref x0), .val (.int x1)] [] := by first | (simp [entryFrame, mkF, argsToLocals, Value.category]; done) | rfl
def Qsch1 (Z : State) (a1 : Addr) (t1 : Addr) (kb1 : ClassId) (fm : Value) (G1 : Int32) (c1 : Int32) (i1 : Int32) (b0 : Int32) (b1 : Int32) (N : Int32) (vs : List Value) (h0 : Heap) (n0 : Nat) (v : Option Value) (h : Heap) (L : List Loc) : Prop := v = some (.int c1) ∧ Fr n0 L ∧ h = h0
set_option maxRecDepth 65536 in
set_option maxHeartbeats 40000000 in
theorem rmsch1 (l : Launch) (Z : State) (a0 : Array Value) (hw : Hw Z a0) (ws : List Jvm.Cond) (a1 : Addr) (t1 : Addr) (kb1 : ClassId) (fm : Value) (G1 : Int32) (c1 : Int32) (i1 : Int32) (b0 : Int32) (b1 : Int32) (N : Int32) (vs : List Value) (h0 : Heap) (n0 : Nat) (Z0 : n0 ≤ h0.size) (Fvalue_a1 : Fld Z h0 a1 "java/lang/String" "value" "[B" (.ref t1)) (V_t1 : Arv Z h0 t1 kb1 .byte N vs (.int (0 : Int32))) (E_a1 : Exa Z h0 a1 "java/lang/String") (Fcoder_a1 : Fld Z h0 a1 "java/lang/String" "coder" "B" (.int (1 : Int32))) (S_COMPACT_STRINGS : Sta Z Z.heap "java/lang/String" "COMPACT_STRINGS" "Z" (.int G1)) (cs0 : ¬ (G1 = (0 : Int32))) (Ol : Old Z n0 h0) (S_SIOOBE_FORMATTER : Sta Z Z.heap "jdk/internal/util/Preconditions" "SIOOBE_FORMATTER" "Ljava/util/function/BiFunction;" fm) (ir_fm : (fm).isRef = true) (S__assertionsDisabled : Sta Z Z.heap "java/lang/StringUTF16" "$assertionsDisabled" "Z" (.int (1 : Int32))) (S_HI_BYTE_SHIFT : Sta Z Z.heap "java/lang/StringUTF16" "HI_BYTE_SHIFT" "I" (.int (0 : Int32))) (S_LO_BYTE_SHIFT : Sta Z Z.heap "java/lang/StringUTF16" "LO_BYTE_SHIFT" "I" (.int (8 : Int32))) (hin0 : ¬ (i1 <<< ((1 : Int32) &&& 31)) < 0 ∧ (i1 <<< ((1 : Int32) &&& 31)) < N) (hv0 : vs.getD (i1 <<< ((1 : Int32) &&& 31)).toNatClampNeg (.int (0 : Int32)) = .int b0) (hin1 : ¬ ((i1 <<< ((1 : Int32) &&& 31)) + (1 : Int32)) < 0 ∧ ((i1 <<< ((1 : Int32) &&& 31)) + (1 : Int32)) < N) (hv1 : vs.getD ((i1 <<< ((1 : Int32) &&& 31)) + (1 : Int32)).toNatClampNeg (.int (0 : Int32)) = .int b1) (hch : getc b0 b1 = c1) (hnc : nar .char c1 = c1) (hck : ¬ i1 < 0 ∧ i1 < (N >>> ((1 : Int32) &&& 31))) :
    MF l Z Y20 jdk_42_method_56_code 2 (some .char) ws ({ frames := 4, cells := 0, slots := 0, locals := 53 } : Room) #[(.ref a1), (.int i1)] h0 (Qsch1 Z a1 t1 kb1 fm G1 c1 i1 b0 b1 N vs h0 n0) := by
  refine MF.of pn_1 (fun m => ef_sch1 m a1 i1) ?_
  intro p e s m below meth c s₁ G X0 e0 hx hby hml hown hnm hlk hrt hZ hnd hG
  have N0 := Fr.nil n0
  refine Owe.aloadN X0.here hx (hb hby d20_0) rfl rfl ?_
  refine Owe.virt X0 hx hZ (y := Y13) (z := Y13) hown (mvT hZ (wd hw 62)) (mvT hZ (wd hw 63)) (mvT hZ (wd hw 65)) (mvT hZ (wd hw 64)) (notFace_of_selects (args := #[]) (mvT hZ (wd hw 65))) (by decide) (backOf (W := 0) (rmisl1 l Z a0 hw [] a1 G1 h0 n0 Z0 E_a1 Fcoder_a1 S_COMPACT_STRINGS cs0 Ol) hZ (wd hw 66) (wd hw 4) (by decide) (by decide)) (by rw [hml]; rfl) (a := a1) (argsL := []) (rest := []) E_a1 (lenOf pd_13 rfl) rfl (nb rfl) (hb hby d20_1) rfl e0 (by decide) (by decide) fun T764 v764 L764 X764 hQ764 => ?_
  obtain ⟨rfl, Nq764, e764⟩ := hQ764
  have N764 := Fr.app N0 Nq764
  refine Owe.ifYes X764.here hx (hb hby d20_4) rfl ((if0 _ _).trans (teq (by decide)).1) (pc' := 16) (by decide) (by decide) ?_
  refine Owe.aloadN X764.here hx (hb hby d20_16) rfl rfl ?_
  refine Owe.getf X764 hx hZ (host := "") hown (Or.inl (wd hw 21)) Via.refl e764 Fvalue_a1 (hb hby d20_17) rfl fun T765 X765 e765 => ?_
  refine Owe.iloadN X765.here hx (hb hby d20_20) rfl ?_
  refine Owe.stat X765 hx (y := Y19) hown (mvT hZ (wd hw 98)) (mvT hZ (wd hw 99)) (mvT hZ (wd hw 35)) (mvT hZ (wd hw 100)) (by decide) (backOf (W := 0) (rmuch l Z a0 hw [] t1 kb1 fm c1 i1 b0 b1 N vs h0 n0 Z0 V_t1 hin0 hv0 hin1 hv1 hch hnc hck Ol S_SIOOBE_FORMATTER ir_fm S__assertionsDisabled S_HI_BYTE_SHIFT S_LO_BYTE_SHIFT) hZ (wd hw 100) (wd hw 35) (by decide) (by decide)) (by rw [hml]; rfl) (argsL := [(.ref t1), (.int i1)]) (rest := []) (lenOf pd_7 rfl) rfl (nb rfl) (hb hby d20_21) rfl e765 (by decide) (by decide) fun T766 v766 L766 X766 hQ766 => ?_
  obtain ⟨rfl, Nq766, e766⟩ := hQ766
  have N766 := Fr.app N764 Nq766
  refine Owe.retN X766 hx hlk (t := .char) hrt (by simp) (hb hby d20_24) rfl fun fs hE => ?_
  refine hG _ _ ⟨_, _, rfl, ?_, frameMono hE (by decide) (by decide)⟩
  show Qsch1 Z a1 t1 kb1 fm G1 c1 i1 b0 b1 N vs h0 n0 _ T766.heap _
  rw [e766]
  exact ⟨(congrArg (fun z => some (Value.int z)) hnc), N766, rfl⟩
theorem d21_0 : decode prog_1_method_3_code 0 = .ok (.aload_n 0, 1) := by decide +kernel
theorem d21_1 : decode prog_1_method_3_code 1 = .ok (.invokevirtual 19, 3) := by decide +kernel
theorem d21_4 : decode prog_1_method_3_code 4 = .ok (.ifCond .ne 17, 3) := by decide +kernel
theorem d21_7 : decode prog_1_method_3_code 7 = .ok (.aload_n 0, 1) := by decide +kernel
theorem d21_8 : decode prog_1_method_3_code 8 = .ok (.invokevirtual 25, 3) := by decide +kernel
theorem d21_11 : decode prog_1_method_3_code 11 = .ok (.sipush 255, 3) := by decide +kernel
theorem d21_14 : decode prog_1_method_3_code 14 = .ok (.if_icmp .gt 7, 3) := by decide +kernel
theorem d21_17 : decode prog_1_method_3_code 17 = .ok (.iconst 1, 1) := by decide +kernel
theorem d21_18 : decode prog_1_method_3_code 18 = .ok (.goto 4, 3) := by decide +kernel
theorem d21_21 : decode prog_1_method_3_code 21 = .ok (.iconst 0, 1) := by decide +kernel
theorem d21_22 : decode prog_1_method_3_code 22 = .ok (.istore_n 1, 1) := by decide +kernel
theorem d21_23 : decode prog_1_method_3_code 23 = .ok (.iconst 0, 1) := by decide +kernel
theorem d21_24 : decode prog_1_method_3_code 24 = .ok (.istore_n 2, 1) := by decide +kernel
theorem d21_25 : decode prog_1_method_3_code 25 = .ok (.iload_n 1, 1) := by decide +kernel
theorem d21_26 : decode prog_1_method_3_code 26 = .ok (.ifCond .eq 59, 3) := by decide +kernel
theorem d21_29 : decode prog_1_method_3_code 29 = .ok (.iload_n 2, 1) := by decide +kernel
theorem d21_30 : decode prog_1_method_3_code 30 = .ok (.aload_n 0, 1) := by decide +kernel
theorem d21_31 : decode prog_1_method_3_code 31 = .ok (.invokevirtual 25, 3) := by decide +kernel
theorem d21_34 : decode prog_1_method_3_code 34 = .ok (.if_icmp .ge 51, 3) := by decide +kernel
theorem d21_37 : decode prog_1_method_3_code 37 = .ok (.aload_n 0, 1) := by decide +kernel
theorem d21_38 : decode prog_1_method_3_code 38 = .ok (.iload_n 2, 1) := by decide +kernel
theorem d21_39 : decode prog_1_method_3_code 39 = .ok (.invokevirtual 60, 3) := by decide +kernel
theorem d21_42 : decode prog_1_method_3_code 42 = .ok (.istore_n 3, 1) := by decide +kernel
theorem d21_43 : decode prog_1_method_3_code 43 = .ok (.iload_n 3, 1) := by decide +kernel
theorem d21_44 : decode prog_1_method_3_code 44 = .ok (.bipush 65, 2) := by decide +kernel
theorem d21_46 : decode prog_1_method_3_code 46 = .ok (.if_icmp .lt 9, 3) := by decide +kernel
theorem d21_49 : decode prog_1_method_3_code 49 = .ok (.iload_n 3, 1) := by decide +kernel
theorem d21_50 : decode prog_1_method_3_code 50 = .ok (.bipush 90, 2) := by decide +kernel
theorem d21_52 : decode prog_1_method_3_code 52 = .ok (.if_icmp .le 21, 3) := by decide +kernel
theorem d21_55 : decode prog_1_method_3_code 55 = .ok (.iload_n 3, 1) := by decide +kernel
theorem d21_56 : decode prog_1_method_3_code 56 = .ok (.bipush 48, 2) := by decide +kernel
theorem d21_58 : decode prog_1_method_3_code 58 = .ok (.if_icmp .lt 9, 3) := by decide +kernel
theorem d21_61 : decode prog_1_method_3_code 61 = .ok (.iload_n 3, 1) := by decide +kernel
theorem d21_62 : decode prog_1_method_3_code 62 = .ok (.bipush 57, 2) := by decide +kernel
theorem d21_64 : decode prog_1_method_3_code 64 = .ok (.if_icmp .le 9, 3) := by decide +kernel
theorem d21_67 : decode prog_1_method_3_code 67 = .ok (.iload_n 3, 1) := by decide +kernel
theorem d21_68 : decode prog_1_method_3_code 68 = .ok (.bipush 95, 2) := by decide +kernel
theorem d21_70 : decode prog_1_method_3_code 70 = .ok (.if_icmp .ne 7, 3) := by decide +kernel
theorem d21_73 : decode prog_1_method_3_code 73 = .ok (.iconst 1, 1) := by decide +kernel
theorem d21_74 : decode prog_1_method_3_code 74 = .ok (.goto 4, 3) := by decide +kernel
theorem d21_77 : decode prog_1_method_3_code 77 = .ok (.iconst 0, 1) := by decide +kernel
theorem d21_78 : decode prog_1_method_3_code 78 = .ok (.istore_n 1, 1) := by decide +kernel
theorem d21_79 : decode prog_1_method_3_code 79 = .ok (.iinc 2 1, 3) := by decide +kernel
theorem d21_82 : decode prog_1_method_3_code 82 = .ok (.goto (-57), 3) := by decide +kernel
theorem d21_85 : decode prog_1_method_3_code 85 = .ok (.iload_n 1, 1) := by decide +kernel
theorem d21_86 : decode prog_1_method_3_code 86 = .ok (.ireturn, 1) := by decide +kernel
abbrev Y21 : MethodName := ⟨"com/example/redelivery/redelivery/Classification", "isReasonCode", "(Ljava/lang/String;)Z"⟩
set_option maxRecDepth 65536 in
set_option maxHeartbeats 40000000 in
theorem segY {p : Program} {l : Launch} {e : Env} {R : Room} {s : State} {m : MethodId} {args : Array Value} {below : List Frame} {meth : Method} {c : Code} {G : Outcome → State → Prop} (hx : p.tables.exec = Jvm.exec) (hby : c.code = prog_1_method_3_code) {a1 : Addr} {Tt : State} {ii cc : Int32} {locst : List Loc} {kc ks : Nat} (Xt : Stand p l e R s m args below meth c Tt locst kc ks) (hk : okb cc = true) (hgo : Owe p.tables e below G Tt (mkF m 78 #[.val (.ref a1), .val (.int (1 : Int32)), .val (.int ii), .val (.int cc)] [(.int (1 : Int32))])) : Owe p.tables e below G Tt (mkF m 43 #[.val (.ref a1), .val (.int (1 : Int32)), .val (.int ii), .val (.int cc)] []) := by
  refine Owe.iloadN Xt.here hx (hb hby d21_43) rfl ?_
  refine Owe.bipush Xt.here hx (hb hby d21_44) (w := (65 : Int32)) rfl ?_
  by_cases hc46_767 : cc < (65 : Int32)
  · skip
    refine Owe.icmpYes Xt.here hx (hb hby d21_46) rfl (tlt hc46_767).1 (pc' := 55) (by decide) (by decide) ?_
    refine Owe.iloadN Xt.here hx (hb hby d21_55) rfl ?_
    refine Owe.bipush Xt.here hx (hb hby d21_56) (w := (48 : Int32)) rfl ?_
    by_cases hc58_768 : cc < (48 : Int32)
    · skip
      refine Owe.icmpYes Xt.here hx (hb hby d21_58) rfl (tlt hc58_768).1 (pc' := 67) (by decide) (by decide) ?_
      refine Owe.iloadN Xt.here hx (hb hby d21_67) rfl ?_
      refine Owe.bipush Xt.here hx (hb hby d21_68) (w := (95 : Int32)) rfl ?_
      by_cases hc70_769 : cc = (95 : Int32)
      · skip
        refine Owe.icmpNo Xt.here hx (hb hby d21_70) rfl (teq hc70_769).2 ?_
        refine Owe.iconst Xt.here hx (hb hby d21_73) (w := (1 : Int32)) rfl ?_
        refine Owe.goto Xt.here hx (hb hby d21_74) (pc' := 78) (by decide) (by decide) ?_
        exact hgo
      · skip
        refine Owe.icmpYes Xt.here hx (hb hby d21_70) rfl (feq hc70_769).2 (pc' := 77) (by decide) (by decide) ?_
        refine Owe.iconst Xt.here hx (hb hby d21_77) (w := (0 : Int32)) rfl ?_
        exfalso
        simp only [okb_iff, Int32.lt_iff_toInt_lt, ← Int32.toInt_inj, n48, n57, n65, n90, n95] at hk hc46_767 hc58_768 hc70_769
        omega
    · skip
      refine Owe.icmpNo Xt.here hx (hb hby d21_58) rfl (flt hc58_768).1 ?_
      refine Owe.iloadN Xt.here hx (hb hby d21_61) rfl ?_
      refine Owe.bipush Xt.here hx (hb hby d21_62) (w := (57 : Int32)) rfl ?_
      by_cases hc64_770 : (57 : Int32) < cc
      · skip
        refine Owe.icmpNo Xt.here hx (hb hby d21_64) rfl (tlt hc64_770).2.2.2 ?_
        refine Owe.iloadN Xt.here hx (hb hby d21_67) rfl ?_
        refine Owe.bipush Xt.here hx (hb hby d21_68) (w := (95 : Int32)) rfl ?_
        by_cases hc70_771 : cc = (95 : Int32)
        · skip
          refine Owe.icmpNo Xt.here hx (hb hby d21_70) rfl (teq hc70_771).2 ?_
          refine Owe.iconst Xt.here hx (hb hby d21_73) (w := (1 : Int32)) rfl ?_
          refine Owe.goto Xt.here hx (hb hby d21_74) (pc' := 78) (by decide) (by decide) ?_
          exact hgo
        · skip
          refine Owe.icmpYes Xt.here hx (hb hby d21_70) rfl (feq hc70_771).2 (pc' := 77) (by decide) (by decide) ?_
          refine Owe.iconst Xt.here hx (hb hby d21_77) (w := (0 : Int32)) rfl ?_
          exfalso
          simp only [okb_iff, Int32.lt_iff_toInt_lt, ← Int32.toInt_inj, n48, n57, n65, n90, n95] at hk hc46_767 hc58_768 hc64_770 hc70_771
          omega
      · skip
        refine Owe.icmpYes Xt.here hx (hb hby d21_64) rfl (flt hc64_770).2.2.2 (pc' := 73) (by decide) (by decide) ?_
        refine Owe.iconst Xt.here hx (hb hby d21_73) (w := (1 : Int32)) rfl ?_
        refine Owe.goto Xt.here hx (hb hby d21_74) (pc' := 78) (by decide) (by decide) ?_
        exact hgo
  · skip
    refine Owe.icmpNo Xt.here hx (hb hby d21_46) rfl (flt hc46_767).1 ?_
    refine Owe.iloadN Xt.here hx (hb hby d21_49) rfl ?_
    refine Owe.bipush Xt.here hx (hb hby d21_50) (w := (90 : Int32)) rfl ?_
    by_cases hc52_772 : (90 : Int32) < cc
    · skip
      refine Owe.icmpNo Xt.here hx (hb hby d21_52) rfl (tlt hc52_772).2.2.2 ?_
      refine Owe.iloadN Xt.here hx (hb hby d21_55) rfl ?_
      refine Owe.bipush Xt.here hx (hb hby d21_56) (w := (48 : Int32)) rfl ?_
      by_cases hc58_773 : cc < (48 : Int32)
      · skip
        refine Owe.icmpYes Xt.here hx (hb hby d21_58) rfl (tlt hc58_773).1 (pc' := 67) (by decide) (by decide) ?_
        refine Owe.iloadN Xt.here hx (hb hby d21_67) rfl ?_
        refine Owe.bipush Xt.here hx (hb hby d21_68) (w := (95 : Int32)) rfl ?_
        by_cases hc70_774 : cc = (95 : Int32)
        · skip
          refine Owe.icmpNo Xt.here hx (hb hby d21_70) rfl (teq hc70_774).2 ?_
          refine Owe.iconst Xt.here hx (hb hby d21_73) (w := (1 : Int32)) rfl ?_
          refine Owe.goto Xt.here hx (hb hby d21_74) (pc' := 78) (by decide) (by decide) ?_
          exact hgo
        · skip
          refine Owe.icmpYes Xt.here hx (hb hby d21_70) rfl (feq hc70_774).2 (pc' := 77) (by decide) (by decide) ?_
          refine Owe.iconst Xt.here hx (hb hby d21_77) (w := (0 : Int32)) rfl ?_
          exfalso
          simp only [okb_iff, Int32.lt_iff_toInt_lt, ← Int32.toInt_inj, n48, n57, n65, n90, n95] at hk hc46_767 hc52_772 hc58_773 hc70_774
          omega
      · skip
        refine Owe.icmpNo Xt.here hx (hb hby d21_58) rfl (flt hc58_773).1 ?_
        refine Owe.iloadN Xt.here hx (hb hby d21_61) rfl ?_
        refine Owe.bipush Xt.here hx (hb hby d21_62) (w := (57 : Int32)) rfl ?_
        by_cases hc64_775 : (57 : Int32) < cc
        · skip
          refine Owe.icmpNo Xt.here hx (hb hby d21_64) rfl (tlt hc64_775).2.2.2 ?_
          refine Owe.iloadN Xt.here hx (hb hby d21_67) rfl ?_
          refine Owe.bipush Xt.here hx (hb hby d21_68) (w := (95 : Int32)) rfl ?_
          by_cases hc70_776 : cc = (95 : Int32)
          · skip
            refine Owe.icmpNo Xt.here hx (hb hby d21_70) rfl (teq hc70_776).2 ?_
            refine Owe.iconst Xt.here hx (hb hby d21_73) (w := (1 : Int32)) rfl ?_
            refine Owe.goto Xt.here hx (hb hby d21_74) (pc' := 78) (by decide) (by decide) ?_
            exact hgo
          · skip
            refine Owe.icmpYes Xt.here hx (hb hby d21_70) rfl (feq hc70_776).2 (pc' := 77) (by decide) (by decide) ?_
            refine Owe.iconst Xt.here hx (hb hby d21_77) (w := (0 : Int32)) rfl ?_
            exfalso
            simp only [okb_iff, Int32.lt_iff_toInt_lt, ← Int32.toInt_inj, n48, n57, n65, n90, n95] at hk hc46_767 hc52_772 hc58_773 hc64_775 hc70_776
            omega
        · skip
          refine Owe.icmpYes Xt.here hx (hb hby d21_64) rfl (flt hc64_775).2.2.2 (pc' := 73) (by decide) (by decide) ?_
          refine Owe.iconst Xt.here hx (hb hby d21_73) (w := (1 : Int32)) rfl ?_
          refine Owe.goto Xt.here hx (hb hby d21_74) (pc' := 78) (by decide) (by decide) ?_
          exact hgo
    · skip
      refine Owe.icmpYes Xt.here hx (hb hby d21_52) rfl (flt hc52_772).2.2.2 (pc' := 73) (by decide) (by decide) ?_
      refine Owe.iconst Xt.here hx (hb hby d21_73) (w := (1 : Int32)) rfl ?_
      refine Owe.goto Xt.here hx (hb hby d21_74) (pc' := 78) (by decide) (by decide) ?_
      exact hgo
set_option maxRecDepth 65536 in
set_option maxHeartbeats 40000000 in
theorem segN {p : Program} {l : Launch} {e : Env} {R : Room} {s : State} {m : MethodId} {args : Array Value} {below : List Frame} {meth : Method} {c : Code} {G : Outcome → State → Prop} (hx : p.tables.exec = Jvm.exec) (hby : c.code = prog_1_method_3_code) {a1 : Addr} {Tt : State} {ii cc : Int32} {locst : List Loc} {kc ks : Nat} (Xt : Stand p l e R s m args below meth c Tt locst kc ks) (hk : ¬ okb cc = true) (hgo : Owe p.tables e below G Tt (mkF m 78 #[.val (.ref a1), .val (.int (1 : Int32)), .val (.int ii), .val (.int cc)] [(.int (0 : Int32))])) : Owe p.tables e below G Tt (mkF m 43 #[.val (.ref a1), .val (.int (1 : Int32)), .val (.int ii), .val (.int cc)] []) := by
  refine Owe.iloadN Xt.here hx (hb hby d21_43) rfl ?_
  refine Owe.bipush Xt.here hx (hb hby d21_44) (w := (65 : Int32)) rfl ?_
  by_cases hc46_777 : cc < (65 : Int32)
  · skip
    refine Owe.icmpYes Xt.here hx (hb hby d21_46) rfl (tlt hc46_777).1 (pc' := 55) (by decide) (by decide) ?_
    refine Owe.iloadN Xt.here hx (hb hby d21_55) rfl ?_
    refine Owe.bipush Xt.here hx (hb hby d21_56) (w := (48 : Int32)) rfl ?_
    by_cases hc58_778 : cc < (48 : Int32)
    · skip
      refine Owe.icmpYes Xt.here hx (hb hby d21_58) rfl (tlt hc58_778).1 (pc' := 67) (by decide) (by decide) ?_
      refine Owe.iloadN Xt.here hx (hb hby d21_67) rfl ?_
      refine Owe.bipush Xt.here hx (hb hby d21_68) (w := (95 : Int32)) rfl ?_
      by_cases hc70_779 : cc = (95 : Int32)
      · skip
        refine Owe.icmpNo Xt.here hx (hb hby d21_70) rfl (teq hc70_779).2 ?_
        refine Owe.iconst Xt.here hx (hb hby d21_73) (w := (1 : Int32)) rfl ?_
        refine Owe.goto Xt.here hx (hb hby d21_74) (pc' := 78) (by decide) (by decide) ?_
        exfalso
        simp only [okb_iff, Int32.lt_iff_toInt_lt, ← Int32.toInt_inj, n48, n57, n65, n90, n95] at hk hc46_777 hc58_778 hc70_779
        omega
      · skip
        refine Owe.icmpYes Xt.here hx (hb hby d21_70) rfl (feq hc70_779).2 (pc' := 77) (by decide) (by decide) ?_
        refine Owe.iconst Xt.here hx (hb hby d21_77) (w := (0 : Int32)) rfl ?_
        exact hgo
    · skip
      refine Owe.icmpNo Xt.here hx (hb hby d21_58) rfl (flt hc58_778).1 ?_
      refine Owe.iloadN Xt.here hx (hb hby d21_61) rfl ?_
      refine Owe.bipush Xt.here hx (hb hby d21_62) (w := (57 : Int32)) rfl ?_
      by_cases hc64_780 : (57 : Int32) < cc
      · skip
        refine Owe.icmpNo Xt.here hx (hb hby d21_64) rfl (tlt hc64_780).2.2.2 ?_
        refine Owe.iloadN Xt.here hx (hb hby d21_67) rfl ?_
        refine Owe.bipush Xt.here hx (hb hby d21_68) (w := (95 : Int32)) rfl ?_
        by_cases hc70_781 : cc = (95 : Int32)
        · skip
          refine Owe.icmpNo Xt.here hx (hb hby d21_70) rfl (teq hc70_781).2 ?_
          refine Owe.iconst Xt.here hx (hb hby d21_73) (w := (1 : Int32)) rfl ?_
          refine Owe.goto Xt.here hx (hb hby d21_74) (pc' := 78) (by decide) (by decide) ?_
          exfalso
          simp only [okb_iff, Int32.lt_iff_toInt_lt, ← Int32.toInt_inj, n48, n57, n65, n90, n95] at hk hc46_777 hc58_778 hc64_780 hc70_781
          omega
        · skip
          refine Owe.icmpYes Xt.here hx (hb hby d21_70) rfl (feq hc70_781).2 (pc' := 77) (by decide) (by decide) ?_
          refine Owe.iconst Xt.here hx (hb hby d21_77) (w := (0 : Int32)) rfl ?_
          exact hgo
      · skip
        refine Owe.icmpYes Xt.here hx (hb hby d21_64) rfl (flt hc64_780).2.2.2 (pc' := 73) (by decide) (by decide) ?_
        refine Owe.iconst Xt.here hx (hb hby d21_73) (w := (1 : Int32)) rfl ?_
        refine Owe.goto Xt.here hx (hb hby d21_74) (pc' := 78) (by decide) (by decide) ?_
        exfalso
        simp only [okb_iff, Int32.lt_iff_toInt_lt, ← Int32.toInt_inj, n48, n57, n65, n90, n95] at hk hc46_777 hc58_778 hc64_780
        omega
  · skip
    refine Owe.icmpNo Xt.here hx (hb hby d21_46) rfl (flt hc46_777).1 ?_
    refine Owe.iloadN Xt.here hx (hb hby d21_49) rfl ?_
    refine Owe.bipush Xt.here hx (hb hby d21_50) (w := (90 : Int32)) rfl ?_
    by_cases hc52_782 : (90 : Int32) < cc
    · skip
      refine Owe.icmpNo Xt.here hx (hb hby d21_52) rfl (tlt hc52_782).2.2.2 ?_
      refine Owe.iloadN Xt.here hx (hb hby d21_55) rfl ?_
      refine Owe.bipush Xt.here hx (hb hby d21_56) (w := (48 : Int32)) rfl ?_
      by_cases hc58_783 : cc < (48 : Int32)
      · skip
        refine Owe.icmpYes Xt.here hx (hb hby d21_58) rfl (tlt hc58_783).1 (pc' := 67) (by decide) (by decide) ?_
        refine Owe.iloadN Xt.here hx (hb hby d21_67) rfl ?_
        refine Owe.bipush Xt.here hx (hb hby d21_68) (w := (95 : Int32)) rfl ?_
        by_cases hc70_784 : cc = (95 : Int32)
        · skip
          refine Owe.icmpNo Xt.here hx (hb hby d21_70) rfl (teq hc70_784).2 ?_
          refine Owe.iconst Xt.here hx (hb hby d21_73) (w := (1 : Int32)) rfl ?_
          refine Owe.goto Xt.here hx (hb hby d21_74) (pc' := 78) (by decide) (by decide) ?_
          exfalso
          simp only [okb_iff, Int32.lt_iff_toInt_lt, ← Int32.toInt_inj, n48, n57, n65, n90, n95] at hk hc46_777 hc52_782 hc58_783 hc70_784
          omega
        · skip
          refine Owe.icmpYes Xt.here hx (hb hby d21_70) rfl (feq hc70_784).2 (pc' := 77) (by decide) (by decide) ?_
          refine Owe.iconst Xt.here hx (hb hby d21_77) (w := (0 : Int32)) rfl ?_
          exact hgo
      · skip
        refine Owe.icmpNo Xt.here hx (hb hby d21_58) rfl (flt hc58_783).1 ?_
        refine Owe.iloadN Xt.here hx (hb hby d21_61) rfl ?_
        refine Owe.bipush Xt.here hx (hb hby d21_62) (w := (57 : Int32)) rfl ?_
        by_cases hc64_785 : (57 : Int32) < cc
        · skip
          refine Owe.icmpNo Xt.here hx (hb hby d21_64) rfl (tlt hc64_785).2.2.2 ?_
          refine Owe.iloadN Xt.here hx (hb hby d21_67) rfl ?_
          refine Owe.bipush Xt.here hx (hb hby d21_68) (w := (95 : Int32)) rfl ?_
          by_cases hc70_786 : cc = (95 : Int32)
          · skip
            refine Owe.icmpNo Xt.here hx (hb hby d21_70) rfl (teq hc70_786).2 ?_
            refine Owe.iconst Xt.here hx (hb hby d21_73) (w := (1 : Int32)) rfl ?_
            refine Owe.goto Xt.here hx (hb hby d21_74) (pc' := 78) (by decide) (by decide) ?_
            exfalso
            simp only [okb_iff, Int32.lt_iff_toInt_lt, ← Int32.toInt_inj, n48, n57, n65, n90, n95] at hk hc46_777 hc52_782 hc58_783 hc64_785 hc70_786
            omega
          · skip
            refine Owe.icmpYes Xt.here hx (hb hby d21_70) rfl (feq hc70_786).2 (pc' := 77) (by decide) (by decide) ?_
            refine Owe.iconst Xt.here hx (hb hby d21_77) (w := (0 : Int32)) rfl ?_
            exact hgo
        · skip
          refine Owe.icmpYes Xt.here hx (hb hby d21_64) rfl (flt hc64_785).2.2.2 (pc' := 73) (by decide) (by decide) ?_
          refine Owe.iconst Xt.here hx (hb hby d21_73) (w := (1 : Int32)) rfl ?_
          refine Owe.goto Xt.here hx (hb hby d21_74) (pc' := 78) (by decide) (by decide) ?_
          exfalso
          simp only [okb_iff, Int32.lt_iff_toInt_lt, ← Int32.toInt_inj, n48, n57, n65, n90, n95] at hk hc46_777 hc52_782 hc58_783 hc64_785
          omega
    · skip
      refine Owe.icmpYes Xt.here hx (hb hby d21_52) rfl (flt hc52_782).2.2.2 (pc' := 73) (by decide) (by decide) ?_
      refine Owe.iconst Xt.here hx (hb hby d21_73) (w := (1 : Int32)) rfl ?_
      refine Owe.goto Xt.here hx (hb hby d21_74) (pc' := 78) (by decide) (by decide) ?_
      exfalso
      simp only [okb_iff, Int32.lt_iff_toInt_lt, ← Int32.toInt_inj, n48, n57, n65, n90, n95] at hk hc46_777 hc52_782
      omega
theorem pn_4 : plainName "com/example/redelivery/redelivery/Classification" = true := by first | (simp [plainName, overriddenIn]; done) | decide +kernel
theorem ef_irc0_0 (m : MethodId) (x0 : Addr)  : entryFrame m #[(.ref x0)] 4 = mkF m 0 #[.val (.ref x0), .unset, .unset, .unset] [] := by first | (simp [entryFrame, mkF, argsToLocals, Value.category]; done) | rfl
def Qirc0_0 (Z : State) (a1 : Addr) (t1 : Addr) (kb1 : ClassId) (fm : Value) (G1 : Int32) (h0 : Heap) (n0 : Nat) (v : Option Value) (h : Heap) (L : List Loc) : Prop := v = some (.int (0 : Int32)) ∧ Fr n0 L ∧ h = h0
set_option maxRecDepth 65536 in
set_option maxHeartbeats 40000000 in
theorem rmirc0_0 (l : Launch) (Z : State) (a0 : Array Value) (hw : Hw Z a0) (ws : List Jvm.Cond) (a1 : Addr) (t1 : Addr) (kb1 : ClassId) (fm : Value) (G1 : Int32) (h0 : Heap) (n0 : Nat) (Z0 : n0 ≤ h0.size) (Fvalue_a1 : Fld Z h0 a1 "java/lang/String" "value" "[B" (.ref t1)) (V_t1 : Arv Z h0 t1 kb1 .byte (0 : Int32) [] (.int (0 : Int32))) (E_a1 : Exa Z h0 a1 "java/lang/String") (Fcoder_a1 : Fld Z h0 a1 "java/lang/String" "coder" "B" (.int (0 : Int32))) (S_COMPACT_STRINGS : Sta Z Z.heap "java/lang/String" "COMPACT_STRINGS" "Z" (.int G1)) (cs0 : ¬ (G1 = (0 : Int32))) (Ol : Old Z n0 h0) (S_SIOOBE_FORMATTER : Sta Z Z.heap "jdk/internal/util/Preconditions" "SIOOBE_FORMATTER" "Ljava/util/function/BiFunction;" fm) (ir_fm : (fm).isRef = true) (S__assertionsDisabled : Sta Z Z.heap "java/lang/StringUTF16" "$assertionsDisabled" "Z" (.int (1 : Int32))) (S_HI_BYTE_SHIFT : Sta Z Z.heap "java/lang/StringUTF16" "HI_BYTE_SHIFT" "I" (.int (0 : Int32))) (S_LO_BYTE_SHIFT : Sta Z Z.heap "java/lang/StringUTF16" "LO_BYTE_SHIFT" "I" (.int (8 : Int32))) :
    MF l Z Y21 prog_1_method_3_code 4 (some .boolean) ws ({ frames := 5, cells := 0, slots := 0, locals := 70 } : Room) #[(.ref a1)] h0 (Qirc0_0 Z a1 t1 kb1 fm G1 h0 n0) := by
  refine MF.of pn_4 (fun m => ef_irc0_0 m a1) ?_
  intro p e s m below meth c s₁ G X0 e0 hx hby hml hown hnm hlk hrt hZ hnd hG
  have N0 := Fr.nil n0
  refine Owe.aloadN X0.here hx (hb hby d21_0) rfl rfl ?_
  refine Owe.virt X0 hx hZ (y := Y14) (z := Y14) hown (mvT hZ (wd hw 27)) (mvT hZ (wd hw 28)) (mvT hZ (wd hw 30)) (mvT hZ (wd hw 29)) (notFace_of_selects (args := #[]) (mvT hZ (wd hw 30))) (by decide) (backOf (W := 0) (rmemp0 l Z a0 hw [] a1 t1 kb1 h0 n0 Z0 E_a1 Fvalue_a1 V_t1) hZ (wd hw 31) (wd hw 4) (by decide) (by decide)) (by rw [hml]; rfl) (a := a1) (argsL := []) (rest := []) E_a1 (lenOf pd_13 rfl) rfl (nb rfl) (hb hby d21_1) rfl e0 (by decide) (by decide) fun T787 v787 L787 X787 hQ787 => ?_
  obtain ⟨rfl, Nq787, e787⟩ := hQ787
  have N787 := Fr.app N0 Nq787
  refine Owe.ifYes X787.here hx (hb hby d21_4) rfl ((if0 _ _).trans (feq (by decide)).2) (pc' := 21) (by decide) (by decide) ?_
  refine Owe.iconst X787.here hx (hb hby d21_21) (w := (0 : Int32)) rfl ?_
  refine Owe.istoreN X787.here hx (hb hby d21_22) rfl (l' := #[.val (.ref a1), .val (.int (0 : Int32)), .unset, .unset]) rfl ?_
  refine Owe.iconst X787.here hx (hb hby d21_23) (w := (0 : Int32)) rfl ?_
  refine Owe.istoreN X787.here hx (hb hby d21_24) rfl (l' := #[.val (.ref a1), .val (.int (0 : Int32)), .val (.int (0 : Int32)), .unset]) rfl ?_
  refine Owe.iloadN X787.here hx (hb hby d21_25) rfl ?_
  refine Owe.ifYes X787.here hx (hb hby d21_26) rfl ((if0 _ _).trans (teq (by decide)).1) (pc' := 85) (by decide) (by decide) ?_
  refine Owe.iloadN X787.here hx (hb hby d21_85) rfl ?_
  refine Owe.retN X787 hx hlk (t := .boolean) hrt (by simp) (hb hby d21_86) rfl fun fs hE => ?_
  refine hG _ _ ⟨_, _, rfl, ?_, frameMono hE (by decide) (by decide)⟩
  show Qirc0_0 Z a1 t1 kb1 fm G1 h0 n0 _ T787.heap _
  rw [e787]
  exact ⟨rfl, N787, rfl⟩
theorem ef_irc1_0 (m : MethodId) (x0 : Addr)  : entryFrame m #[(.ref x0)] 4 = mkF m 0 #[.val (.ref x0), .unset, .unset, .unset] [] := by first | (simp [entryFrame, mkF, argsToLocals, Value.category]; done) | rfl
def Qirc1_0 (Z : State) (a1 : Addr) (t1 : Addr) (kb1 : ClassId) (fm : Value) (G1 : Int32) (v0 : Int32) (c0 : Int32) (h0 : Heap) (n0 : Nat) (v : Option Value) (h : Heap) (L : List Loc) : Prop := v = some (.int (rc [c0])) ∧ Fr n0 L ∧ h = h0
set_option maxRecDepth 65536 in
set_option maxHeartbeats 40000000 in
theorem rmirc1_0 (l : Launch) (Z : State) (a0 : Array Value) (hw : Hw Z a0) (ws : List Jvm.Cond) (a1 : Addr) (t1 : Addr) (kb1 : ClassId) (fm : Value) (G1 : Int32) (v0 : Int32) (c0 : Int32) (h0 : Heap) (n0 : Nat) (Z0 : n0 ≤ h0.size) (Fvalue_a1 : Fld Z h0 a1 "java/lang/String" "value" "[B" (.ref t1)) (V_t1 : Arv Z h0 t1 kb1 .byte (1 : Int32) [(.int (la1 v0))] (.int (0 : Int32))) (E_a1 : Exa Z h0 a1 "java/lang/String") (Fcoder_a1 : Fld Z h0 a1 "java/lang/String" "coder" "B" (.int (0 : Int32))) (S_COMPACT_STRINGS : Sta Z Z.heap "java/lang/String" "COMPACT_STRINGS" "Z" (.int G1)) (cs0 : ¬ (G1 = (0 : Int32))) (Ol : Old Z n0 h0) (S_SIOOBE_FORMATTER : Sta Z Z.heap "jdk/internal/util/Preconditions" "SIOOBE_FORMATTER" "Ljava/util/function/BiFunction;" fm) (ir_fm : (fm).isRef = true) (S__assertionsDisabled : Sta Z Z.heap "java/lang/StringUTF16" "$assertionsDisabled" "Z" (.int (1 : Int32))) (S_HI_BYTE_SHIFT : Sta Z Z.heap "java/lang/StringUTF16" "HI_BYTE_SHIFT" "I" (.int (0 : Int32))) (S_LO_BYTE_SHIFT : Sta Z Z.heap "java/lang/StringUTF16" "LO_BYTE_SHIFT" "I" (.int (8 : Int32))) (hch0 : own_dl v0 = c0) (hnc0 : nar .char c0 = c0) :
    MF l Z Y21 prog_1_method_3_code 4 (some .boolean) ws ({ frames := 5, cells := 0, slots := 0, locals := 70 } : Room) #[(.ref a1)] h0 (Qirc1_0 Z a1 t1 kb1 fm G1 v0 c0 h0 n0) := by
  refine MF.of pn_4 (fun m => ef_irc1_0 m a1) ?_
  intro p e s m below meth c s₁ G X0 e0 hx hby hml hown hnm hlk hrt hZ hnd hG
  have N0 := Fr.nil n0
  refine Owe.aloadN X0.here hx (hb hby d21_0) rfl rfl ?_
  refine Owe.virt X0 hx hZ (y := Y14) (z := Y14) hown (mvT hZ (wd hw 27)) (mvT hZ (wd hw 28)) (mvT hZ (wd hw 30)) (mvT hZ (wd hw 29)) (notFace_of_selects (args := #[]) (mvT hZ (wd hw 30))) (by decide) (backOf (W := 0) (rmemp1 l Z a0 hw [] a1 t1 kb1 (1 : Int32) ([(.int (la1 v0))]) h0 n0 Z0 E_a1 Fvalue_a1 V_t1 (by decide)) hZ (wd hw 31) (wd hw 4) (by decide) (by decide)) (by rw [hml]; rfl) (a := a1) (argsL := []) (rest := []) E_a1 (lenOf pd_13 rfl) rfl (nb rfl) (hb hby d21_1) rfl e0 (by decide) (by decide) fun T788 v788 L788 X788 hQ788 => ?_
  obtain ⟨rfl, Nq788, e788⟩ := hQ788
  have N788 := Fr.app N0 Nq788
  refine Owe.ifNo X788.here hx (hb hby d21_4) rfl ((if0 _ _).trans (teq (by decide)).2) ?_
  refine Owe.aloadN X788.here hx (hb hby d21_7) rfl rfl ?_
  refine Owe.virt X788 hx hZ (y := Y15) (z := Y15) hown (mvT hZ (wd hw 47)) (mvT hZ (wd hw 48)) (mvT hZ (wd hw 50)) (mvT hZ (wd hw 49)) (notFace_of_selects (args := #[]) (mvT hZ (wd hw 50))) (by decide) (backOf (W := 0) (rmsln0 l Z a0 hw [] a1 t1 kb1 (1 : Int32) ([(.int (la1 v0))]) G1 (1 : Int32) h0 n0 Z0 Fvalue_a1 V_t1 E_a1 Fcoder_a1 S_COMPACT_STRINGS cs0 Ol (by decide)) hZ (wd hw 51) (wd hw 4) (by decide) (by decide)) (by rw [hml]; rfl) (a := a1) (argsL := []) (rest := []) E_a1 (lenOf pd_14 rfl) rfl (nb rfl) (hb hby d21_8) rfl e788 (by decide) (by decide) fun T789 v789 L789 X789 hQ789 => ?_
  obtain ⟨rfl, Nq789, e789⟩ := hQ789
  have N789 := Fr.app N788 Nq789
  refine Owe.sipush X789.here hx (hb hby d21_11) (w := (255 : Int32)) rfl ?_
  refine Owe.icmpNo X789.here hx (hb hby d21_14) rfl (flt (by decide)).2.2.1 ?_
  refine Owe.iconst X789.here hx (hb hby d21_17) (w := (1 : Int32)) rfl ?_
  refine Owe.goto X789.here hx (hb hby d21_18) (pc' := 22) (by decide) (by decide) ?_
  refine Owe.istoreN X789.here hx (hb hby d21_22) rfl (l' := #[.val (.ref a1), .val (.int (1 : Int32)), .unset, .unset]) rfl ?_
  refine Owe.iconst X789.here hx (hb hby d21_23) (w := (0 : Int32)) rfl ?_
  refine Owe.istoreN X789.here hx (hb hby d21_24) rfl (l' := #[.val (.ref a1), .val (.int (1 : Int32)), .val (.int (0 : Int32)), .unset]) rfl ?_
  refine Owe.iloadN X789.here hx (hb hby d21_25) rfl ?_
  refine Owe.ifNo X789.here hx (hb hby d21_26) rfl ((if0 _ _).trans (feq (by decide)).1) ?_
  refine Owe.iloadN X789.here hx (hb hby d21_29) rfl ?_
  refine Owe.aloadN X789.here hx (hb hby d21_30) rfl rfl ?_
  refine Owe.virt X789 hx hZ (y := Y15) (z := Y15) hown (mvT hZ (wd hw 47)) (mvT hZ (wd hw 48)) (mvT hZ (wd hw 50)) (mvT hZ (wd hw 49)) (notFace_of_selects (args := #[]) (mvT hZ (wd hw 50))) (by decide) (backOf (W := 1) (rmsln0 l Z a0 hw [] a1 t1 kb1 (1 : Int32) ([(.int (la1 v0))]) G1 (1 : Int32) h0 n0 Z0 Fvalue_a1 V_t1 E_a1 Fcoder_a1 S_COMPACT_STRINGS cs0 Ol (by decide)) hZ (wd hw 51) (wd hw 4) (by decide) (by decide)) (by rw [hml]; rfl) (a := a1) (argsL := []) (rest := [(.int (0 : Int32))]) E_a1 (lenOf pd_14 rfl) rfl (nb rfl) (hb hby d21_31) rfl e789 (by decide) (by decide) fun T790 v790 L790 X790 hQ790 => ?_
  obtain ⟨rfl, Nq790, e790⟩ := hQ790
  have N790 := Fr.app N789 Nq790
  refine Owe.icmpNo X790.here hx (hb hby d21_34) rfl (tlt (by decide)).2.1 ?_
  refine Owe.aloadN X790.here hx (hb hby d21_37) rfl rfl ?_
  refine Owe.iloadN X790.here hx (hb hby d21_38) rfl ?_
  refine Owe.virt X790 hx hZ (y := Y20) (z := Y20) hown (mvT hZ (wd hw 57)) (mvT hZ (wd hw 58)) (mvT hZ (wd hw 60)) (mvT hZ (wd hw 59)) (notFace_of_selects (args := #[]) (mvT hZ (wd hw 60))) (by decide) (backOf (W := 0) (rmsch0 l Z a0 hw [] a1 t1 kb1 fm G1 c0 (0 : Int32) (la1 v0) (1 : Int32) ([(.int (la1 v0))]) h0 n0 Z0 Fvalue_a1 V_t1 E_a1 Fcoder_a1 S_COMPACT_STRINGS cs0 Ol S_SIOOBE_FORMATTER ir_fm S__assertionsDisabled S_HI_BYTE_SHIFT S_LO_BYTE_SHIFT (by decide) rfl hch0 hnc0) hZ (wd hw 61) (wd hw 4) (by decide) (by decide)) (by rw [hml]; rfl) (a := a1) (argsL := [(.int (0 : Int32))]) (rest := []) E_a1 (lenOf pd_15 rfl) rfl (nb rfl) (hb hby d21_39) rfl e790 (by decide) (by decide) fun T791 v791 L791 X791 hQ791 => ?_
  obtain ⟨rfl, Nq791, e791⟩ := hQ791
  have N791 := Fr.app N790 Nq791
  refine Owe.istoreN X791.here hx (hb hby d21_42) rfl (l' := #[.val (.ref a1), .val (.int (1 : Int32)), .val (.int (0 : Int32)), .val (.int c0)]) rfl ?_
  by_cases hok0 : okb c0 = true
  · refine segY hx hby X791 hok0 ?_
    refine Owe.istoreN X791.here hx (hb hby d21_78) rfl (l' := #[.val (.ref a1), .val (.int (1 : Int32)), .val (.int (0 : Int32)), .val (.int c0)]) rfl ?_
    refine Owe.iinc X791.here hx (hb hby d21_79) rfl (l' := #[.val (.ref a1), .val (.int (1 : Int32)), .val (.int (1 : Int32)), .val (.int c0)]) rfl ?_
    refine Owe.goto X791.here hx (hb hby d21_82) (pc' := 25) (by decide) (by decide) ?_
    refine Owe.iloadN X791.here hx (hb hby d21_25) rfl ?_
    refine Owe.ifNo X791.here hx (hb hby d21_26) rfl ((if0 _ _).trans (feq (by decide)).1) ?_
    refine Owe.iloadN X791.here hx (hb hby d21_29) rfl ?_
    refine Owe.aloadN X791.here hx (hb hby d21_30) rfl rfl ?_
    refine Owe.virt X791 hx hZ (y := Y15) (z := Y15) hown (mvT hZ (wd hw 47)) (mvT hZ (wd hw 48)) (mvT hZ (wd hw 50)) (mvT hZ (wd hw 49)) (notFace_of_selects (args := #[]) (mvT hZ (wd hw 50))) (by decide) (backOf (W := 1) (rmsln0 l Z a0 hw [] a1 t1 kb1 (1 : Int32) ([(.int (la1 v0))]) G1 (1 : Int32) h0 n0 Z0 Fvalue_a1 V_t1 E_a1 Fcoder_a1 S_COMPACT_STRINGS cs0 Ol (by decide)) hZ (wd hw 51) (wd hw 4) (by decide) (by decide)) (by rw [hml]; rfl) (a := a1) (argsL := []) (rest := [(.int (1 : Int32))]) E_a1 (lenOf pd_14 rfl) rfl (nb rfl) (hb hby d21_31) rfl e791 (by decide) (by decide) fun T792 v792 L792 X792 hQ792 => ?_
    obtain ⟨rfl, Nq792, e792⟩ := hQ792
    have N792 := Fr.app N791 Nq792
    refine Owe.icmpYes X792.here hx (hb hby d21_34) rfl (flt (by decide)).2.1 (pc' := 85) (by decide) (by decide) ?_
    refine Owe.iloadN X792.here hx (hb hby d21_85) rfl ?_
    refine Owe.retN X792 hx hlk (t := .boolean) hrt (by simp) (hb hby d21_86) rfl fun fs hE => ?_
    refine hG _ _ ⟨_, _, rfl, ?_, frameMono hE (by decide) (by decide)⟩
    show Qirc1_0 Z a1 t1 kb1 fm G1 v0 c0 h0 n0 _ T792.heap _
    rw [e792]
    exact ⟨(by simp [rc, nb0, nb1, hok0]), N792, rfl⟩
  · refine segN hx hby X791 hok0 ?_
    refine Owe.istoreN X791.here hx (hb hby d21_78) rfl (l' := #[.val (.ref a1), .val (.int (0 : Int32)), .val (.int (0 : Int32)), .val (.int c0)]) rfl ?_
    refine Owe.iinc X791.here hx (hb hby d21_79) rfl (l' := #[.val (.ref a1), .val (.int (0 : Int32)), .val (.int (1 : Int32)), .val (.int c0)]) rfl ?_
    refine Owe.goto X791.here hx (hb hby d21_82) (pc' := 25) (by decide) (by decide) ?_
    refine Owe.iloadN X791.here hx (hb hby d21_25) rfl ?_
    refine Owe.ifYes X791.here hx (hb hby d21_26) rfl ((if0 _ _).trans (teq (by decide)).1) (pc' := 85) (by decide) (by decide) ?_
    refine Owe.iloadN X791.here hx (hb hby d21_85) rfl ?_
    refine Owe.retN X791 hx hlk (t := .boolean) hrt (by simp) (hb hby d21_86) rfl fun fs hE => ?_
    refine hG _ _ ⟨_, _, rfl, ?_, frameMono hE (by decide) (by decide)⟩
    show Qirc1_0 Z a1 t1 kb1 fm G1 v0 c0 h0 n0 _ T791.heap _
    rw [e791]
    exact ⟨(by simp [rc, nb0, nb1, hok0]), N791, rfl⟩
theorem ef_irc1_1 (m : MethodId) (x0 : Addr)  : entryFrame m #[(.ref x0)] 4 = mkF m 0 #[.val (.ref x0), .unset, .unset, .unset] [] := by first | (simp [entryFrame, mkF, argsToLocals, Value.category]; done) | rfl
def Qirc1_1 (Z : State) (a1 : Addr) (t1 : Addr) (kb1 : ClassId) (fm : Value) (G1 : Int32) (v0 : Int32) (c0 : Int32) (h0 : Heap) (n0 : Nat) (v : Option Value) (h : Heap) (L : List Loc) : Prop := v = some (.int (rc [c0])) ∧ Fr n0 L ∧ h = h0
set_option maxRecDepth 65536 in
set_option maxHeartbeats 40000000 in
theorem rmirc1_1 (l : Launch) (Z : State) (a0 : Array Value) (hw : Hw Z a0) (ws : List Jvm.Cond) (a1 : Addr) (t1 : Addr) (kb1 : ClassId) (fm : Value) (G1 : Int32) (v0 : Int32) (c0 : Int32) (h0 : Heap) (n0 : Nat) (Z0 : n0 ≤ h0.size) (Fvalue_a1 : Fld Z h0 a1 "java/lang/String" "value" "[B" (.ref t1)) (V_t1 : Arv Z h0 t1 kb1 .byte (2 : Int32) [(.int (lo1 v0)), (.int (hi1 v0))] (.int (0 : Int32))) (E_a1 : Exa Z h0 a1 "java/lang/String") (Fcoder_a1 : Fld Z h0 a1 "java/lang/String" "coder" "B" (.int (1 : Int32))) (S_COMPACT_STRINGS : Sta Z Z.heap "java/lang/String" "COMPACT_STRINGS" "Z" (.int G1)) (cs0 : ¬ (G1 = (0 : Int32))) (Ol : Old Z n0 h0) (S_SIOOBE_FORMATTER : Sta Z Z.heap "jdk/internal/util/Preconditions" "SIOOBE_FORMATTER" "Ljava/util/function/BiFunction;" fm) (ir_fm : (fm).isRef = true) (S__assertionsDisabled : Sta Z Z.heap "java/lang/StringUTF16" "$assertionsDisabled" "Z" (.int (1 : Int32))) (S_HI_BYTE_SHIFT : Sta Z Z.heap "java/lang/StringUTF16" "HI_BYTE_SHIFT" "I" (.int (0 : Int32))) (S_LO_BYTE_SHIFT : Sta Z Z.heap "java/lang/StringUTF16" "LO_BYTE_SHIFT" "I" (.int (8 : Int32))) (hch0 : getc (lo1 v0) (hi1 v0) = c0) (hnc0 : nar .char c0 = c0) :
    MF l Z Y21 prog_1_method_3_code 4 (some .boolean) ws ({ frames := 5, cells := 0, slots := 0, locals := 70 } : Room) #[(.ref a1)] h0 (Qirc1_1 Z a1 t1 kb1 fm G1 v0 c0 h0 n0) := by
  refine MF.of pn_4 (fun m => ef_irc1_1 m a1) ?_
  intro p e s m below meth c s₁ G X0 e0 hx hby hml hown hnm hlk hrt hZ hnd hG
  have N0 := Fr.nil n0
  refine Owe.aloadN X0.here hx (hb hby d21_0) rfl rfl ?_
  refine Owe.virt X0 hx hZ (y := Y14) (z := Y14) hown (mvT hZ (wd hw 27)) (mvT hZ (wd hw 28)) (mvT hZ (wd hw 30)) (mvT hZ (wd hw 29)) (notFace_of_selects (args := #[]) (mvT hZ (wd hw 30))) (by decide) (backOf (W := 0) (rmemp1 l Z a0 hw [] a1 t1 kb1 (2 : Int32) ([(.int (lo1 v0)), (.int (hi1 v0))]) h0 n0 Z0 E_a1 Fvalue_a1 V_t1 (by decide)) hZ (wd hw 31) (wd hw 4) (by decide) (by decide)) (by rw [hml]; rfl) (a := a1) (argsL := []) (rest := []) E_a1 (lenOf pd_13 rfl) rfl (nb rfl) (hb hby d21_1) rfl e0 (by decide) (by decide) fun T793 v793 L793 X793 hQ793 => ?_
  obtain ⟨rfl, Nq793, e793⟩ := hQ793
  have N793 := Fr.app N0 Nq793
  refine Owe.ifNo X793.here hx (hb hby d21_4) rfl ((if0 _ _).trans (teq (by decide)).2) ?_
  refine Owe.aloadN X793.here hx (hb hby d21_7) rfl rfl ?_
  refine Owe.virt X793 hx hZ (y := Y15) (z := Y15) hown (mvT hZ (wd hw 47)) (mvT hZ (wd hw 48)) (mvT hZ (wd hw 50)) (mvT hZ (wd hw 49)) (notFace_of_selects (args := #[]) (mvT hZ (wd hw 50))) (by decide) (backOf (W := 0) (rmsln1 l Z a0 hw [] a1 t1 kb1 (2 : Int32) ([(.int (lo1 v0)), (.int (hi1 v0))]) G1 (1 : Int32) h0 n0 Z0 Fvalue_a1 V_t1 E_a1 Fcoder_a1 S_COMPACT_STRINGS cs0 Ol (by decide)) hZ (wd hw 51) (wd hw 4) (by decide) (by decide)) (by rw [hml]; rfl) (a := a1) (argsL := []) (rest := []) E_a1 (lenOf pd_14 rfl) rfl (nb rfl) (hb hby d21_8) rfl e793 (by decide) (by decide) fun T794 v794 L794 X794 hQ794 => ?_
  obtain ⟨rfl, Nq794, e794⟩ := hQ794
  have N794 := Fr.app N793 Nq794
  refine Owe.sipush X794.here hx (hb hby d21_11) (w := (255 : Int32)) rfl ?_
  refine Owe.icmpNo X794.here hx (hb hby d21_14) rfl (flt (by decide)).2.2.1 ?_
  refine Owe.iconst X794.here hx (hb hby d21_17) (w := (1 : Int32)) rfl ?_
  refine Owe.goto X794.here hx (hb hby d21_18) (pc' := 22) (by decide) (by decide) ?_
  refine Owe.istoreN X794.here hx (hb hby d21_22) rfl (l' := #[.val (.ref a1), .val (.int (1 : Int32)), .unset, .unset]) rfl ?_
  refine Owe.iconst X794.here hx (hb hby d21_23) (w := (0 : Int32)) rfl ?_
  refine Owe.istoreN X794.here hx (hb hby d21_24) rfl (l' := #[.val (.ref a1), .val (.int (1 : Int32)), .val (.int (0 : Int32)), .unset]) rfl ?_
  refine Owe.iloadN X794.here hx (hb hby d21_25) rfl ?_
  refine Owe.ifNo X794.here hx (hb hby d21_26) rfl ((if0 _ _).trans (feq (by decide)).1) ?_
  refine Owe.iloadN X794.here hx (hb hby d21_29) rfl ?_
  refine Owe.aloadN X794.here hx (hb hby d21_30) rfl rfl ?_
  refine Owe.virt X794 hx hZ (y := Y15) (z := Y15) hown (mvT hZ (wd hw 47)) (mvT hZ (wd hw 48)) (mvT hZ (wd hw 50)) (mvT hZ (wd hw 49)) (notFace_of_selects (args := #[]) (mvT hZ (wd hw 50))) (by decide) (backOf (W := 1) (rmsln1 l Z a0 hw [] a1 t1 kb1 (2 : Int32) ([(.int (lo1 v0)), (.int (hi1 v0))]) G1 (1 : Int32) h0 n0 Z0 Fvalue_a1 V_t1 E_a1 Fcoder_a1 S_COMPACT_STRINGS cs0 Ol (by decide)) hZ (wd hw 51) (wd hw 4) (by decide) (by decide)) (by rw [hml]; rfl) (a := a1) (argsL := []) (rest := [(.int (0 : Int32))]) E_a1 (lenOf pd_14 rfl) rfl (nb rfl) (hb hby d21_31) rfl e794 (by decide) (by decide) fun T795 v795 L795 X795 hQ795 => ?_
  obtain ⟨rfl, Nq795, e795⟩ := hQ795
  have N795 := Fr.app N794 Nq795
  refine Owe.icmpNo X795.here hx (hb hby d21_34) rfl (tlt (by decide)).2.1 ?_
  refine Owe.aloadN X795.here hx (hb hby d21_37) rfl rfl ?_
  refine Owe.iloadN X795.here hx (hb hby d21_38) rfl ?_
  refine Owe.virt X795 hx hZ (y := Y20) (z := Y20) hown (mvT hZ (wd hw 57)) (mvT hZ (wd hw 58)) (mvT hZ (wd hw 60)) (mvT hZ (wd hw 59)) (notFace_of_selects (args := #[]) (mvT hZ (wd hw 60))) (by decide) (backOf (W := 0) (rmsch1 l Z a0 hw [] a1 t1 kb1 fm G1 c0 (0 : Int32) (lo1 v0) (hi1 v0) (2 : Int32) ([(.int (lo1 v0)), (.int (hi1 v0))]) h0 n0 Z0 Fvalue_a1 V_t1 E_a1 Fcoder_a1 S_COMPACT_STRINGS cs0 Ol S_SIOOBE_FORMATTER ir_fm S__assertionsDisabled S_HI_BYTE_SHIFT S_LO_BYTE_SHIFT (by decide) rfl (by decide) rfl hch0 hnc0 (by decide)) hZ (wd hw 61) (wd hw 4) (by decide) (by decide)) (by rw [hml]; rfl) (a := a1) (argsL := [(.int (0 : Int32))]) (rest := []) E_a1 (lenOf pd_15 rfl) rfl (nb rfl) (hb hby d21_39) rfl e795 (by decide) (by decide) fun T796 v796 L796 X796 hQ796 => ?_
  obtain ⟨rfl, Nq796, e796⟩ := hQ796
  have N796 := Fr.app N795 Nq796
  refine Owe.istoreN X796.here hx (hb hby d21_42) rfl (l' := #[.val (.ref a1), .val (.int (1 : Int32)), .val (.int (0 : Int32)), .val (.int c0)]) rfl ?_
  by_cases hok0 : okb c0 = true
  · refine segY hx hby X796 hok0 ?_
    refine Owe.istoreN X796.here hx (hb hby d21_78) rfl (l' := #[.val (.ref a1), .val (.int (1 : Int32)), .val (.int (0 : Int32)), .val (.int c0)]) rfl ?_
    refine Owe.iinc X796.here hx (hb hby d21_79) rfl (l' := #[.val (.ref a1), .val (.int (1 : Int32)), .val (.int (1 : Int32)), .val (.int c0)]) rfl ?_
    refine Owe.goto X796.here hx (hb hby d21_82) (pc' := 25) (by decide) (by decide) ?_
    refine Owe.iloadN X796.here hx (hb hby d21_25) rfl ?_
    refine Owe.ifNo X796.here hx (hb hby d21_26) rfl ((if0 _ _).trans (feq (by decide)).1) ?_
    refine Owe.iloadN X796.here hx (hb hby d21_29) rfl ?_
    refine Owe.aloadN X796.here hx (hb hby d21_30) rfl rfl ?_
    refine Owe.virt X796 hx hZ (y := Y15) (z := Y15) hown (mvT hZ (wd hw 47)) (mvT hZ (wd hw 48)) (mvT hZ (wd hw 50)) (mvT hZ (wd hw 49)) (notFace_of_selects (args := #[]) (mvT hZ (wd hw 50))) (by decide) (backOf (W := 1) (rmsln1 l Z a0 hw [] a1 t1 kb1 (2 : Int32) ([(.int (lo1 v0)), (.int (hi1 v0))]) G1 (1 : Int32) h0 n0 Z0 Fvalue_a1 V_t1 E_a1 Fcoder_a1 S_COMPACT_STRINGS cs0 Ol (by decide)) hZ (wd hw 51) (wd hw 4) (by decide) (by decide)) (by rw [hml]; rfl) (a := a1) (argsL := []) (rest := [(.int (1 : Int32))]) E_a1 (lenOf pd_14 rfl) rfl (nb rfl) (hb hby d21_31) rfl e796 (by decide) (by decide) fun T797 v797 L797 X797 hQ797 => ?_
    obtain ⟨rfl, Nq797, e797⟩ := hQ797
    have N797 := Fr.app N796 Nq797
    refine Owe.icmpYes X797.here hx (hb hby d21_34) rfl (flt (by decide)).2.1 (pc' := 85) (by decide) (by decide) ?_
    refine Owe.iloadN X797.here hx (hb hby d21_85) rfl ?_
    refine Owe.retN X797 hx hlk (t := .boolean) hrt (by simp) (hb hby d21_86) rfl fun fs hE => ?_
    refine hG _ _ ⟨_, _, rfl, ?_, frameMono hE (by decide) (by decide)⟩
    show Qirc1_1 Z a1 t1 kb1 fm G1 v0 c0 h0 n0 _ T797.heap _
    rw [e797]
    exact ⟨(by simp [rc, nb0, nb1, hok0]), N797, rfl⟩
  · refine segN hx hby X796 hok0 ?_
    refine Owe.istoreN X796.here hx (hb hby d21_78) rfl (l' := #[.val (.ref a1), .val (.int (0 : Int32)), .val (.int (0 : Int32)), .val (.int c0)]) rfl ?_
    refine Owe.iinc X796.here hx (hb hby d21_79) rfl (l' := #[.val (.ref a1), .val (.int (0 : Int32)), .val (.int (1 : Int32)), .val (.int c0)]) rfl ?_
    refine Owe.goto X796.here hx (hb hby d21_82) (pc' := 25) (by decide) (by decide) ?_
    refine Owe.iloadN X796.here hx (hb hby d21_25) rfl ?_
    refine Owe.ifYes X796.here hx (hb hby d21_26) rfl ((if0 _ _).trans (teq (by decide)).1) (pc' := 85) (by decide) (by decide) ?_
    refine Owe.iloadN X796.here hx (hb hby d21_85) rfl ?_
    refine Owe.retN X796 hx hlk (t := .boolean) hrt (by simp) (hb hby d21_86) rfl fun fs hE => ?_
    refine hG _ _ ⟨_, _, rfl, ?_, frameMono hE (by decide) (by decide)⟩
    show Qirc1_1 Z a1 t1 kb1 fm G1 v0 c0 h0 n0 _ T796.heap _
    rw [e796]
    exact ⟨(by simp [rc, nb0, nb1, hok0]), N796, rfl⟩
theorem ef_irc2_0 (m : MethodId) (x0 : Addr)  : entryFrame m #[(.ref x0)] 4 = mkF m 0 #[.val (.ref x0), .unset, .unset, .unset] [] := by first | (simp [entryFrame, mkF, argsToLocals, Value.category]; done) | rfl
def Qirc2_0 (Z : State) (a1 : Addr) (t1 : Addr) (kb1 : ClassId) (fm : Value) (G1 : Int32) (v0 : Int32) (v1 : Int32) (c0 : Int32) (c1 : Int32) (h0 : Heap) (n0 : Nat) (v : Option Value) (h : Heap) (L : List Loc) : Prop := v = some (.int (rc [c0, c1])) ∧ Fr n0 L ∧ h = h0
set_option maxRecDepth 65536 in
set_option maxHeartbeats 40000000 in
theorem rmirc2_0 (l : Launch) (Z : State) (a0 : Array Value) (hw : Hw Z a0) (ws : List Jvm.Cond) (a1 : Addr) (t1 : Addr) (kb1 : ClassId) (fm : Value) (G1 : Int32) (v0 : Int32) (v1 : Int32) (c0 : Int32) (c1 : Int32) (h0 : Heap) (n0 : Nat) (Z0 : n0 ≤ h0.size) (Fvalue_a1 : Fld Z h0 a1 "java/lang/String" "value" "[B" (.ref t1)) (V_t1 : Arv Z h0 t1 kb1 .byte (2 : Int32) [(.int (la1 v0)), (.int (la1 v1))] (.int (0 : Int32))) (E_a1 : Exa Z h0 a1 "java/lang/String") (Fcoder_a1 : Fld Z h0 a1 "java/lang/String" "coder" "B" (.int (0 : Int32))) (S_COMPACT_STRINGS : Sta Z Z.heap "java/lang/String" "COMPACT_STRINGS" "Z" (.int G1)) (cs0 : ¬ (G1 = (0 : Int32))) (Ol : Old Z n0 h0) (S_SIOOBE_FORMATTER : Sta Z Z.heap "jdk/internal/util/Preconditions" "SIOOBE_FORMATTER" "Ljava/util/function/BiFunction;" fm) (ir_fm : (fm).isRef = true) (S__assertionsDisabled : Sta Z Z.heap "java/lang/StringUTF16" "$assertionsDisabled" "Z" (.int (1 : Int32))) (S_HI_BYTE_SHIFT : Sta Z Z.heap "java/lang/StringUTF16" "HI_BYTE_SHIFT" "I" (.int (0 : Int32))) (S_LO_BYTE_SHIFT : Sta Z Z.heap "java/lang/StringUTF16" "LO_BYTE_SHIFT" "I" (.int (8 : Int32))) (hch0 : own_dl v0 = c0) (hch1 : own_dl v1 = c1) (hnc0 : nar .char c0 = c0) (hnc1 : nar .char c1 = c1) :
    MF l Z Y21 prog_1_method_3_code 4 (some .boolean) ws ({ frames := 5, cells := 0, slots := 0, locals := 70 } : Room) #[(.ref a1)] h0 (Qirc2_0 Z a1 t1 kb1 fm G1 v0 v1 c0 c1 h0 n0) := by
  refine MF.of pn_4 (fun m => ef_irc2_0 m a1) ?_
  intro p e s m below meth c s₁ G X0 e0 hx hby hml hown hnm hlk hrt hZ hnd hG
  have N0 := Fr.nil n0
  refine Owe.aloadN X0.here hx (hb hby d21_0) rfl rfl ?_
  refine Owe.virt X0 hx hZ (y := Y14) (z := Y14) hown (mvT hZ (wd hw 27)) (mvT hZ (wd hw 28)) (mvT hZ (wd hw 30)) (mvT hZ (wd hw 29)) (notFace_of_selects (args := #[]) (mvT hZ (wd hw 30))) (by decide) (backOf (W := 0) (rmemp1 l Z a0 hw [] a1 t1 kb1 (2 : Int32) ([(.int (la1 v0)), (.int (la1 v1))]) h0 n0 Z0 E_a1 Fvalue_a1 V_t1 (by decide)) hZ (wd hw 31) (wd hw 4) (by decide) (by decide)) (by rw [hml]; rfl) (a := a1) (argsL := []) (rest := []) E_a1 (lenOf pd_13 rfl) rfl (nb rfl) (hb hby d21_1) rfl e0 (by decide) (by decide) fun T798 v798 L798 X798 hQ798 => ?_
  obtain ⟨rfl, Nq798, e798⟩ := hQ798
  have N798 := Fr.app N0 Nq798
  refine Owe.ifNo X798.here hx (hb hby d21_4) rfl ((if0 _ _).trans (teq (by decide)).2) ?_
  refine Owe.aloadN X798.here hx (hb hby d21_7) rfl rfl ?_
  refine Owe.virt X798 hx hZ (y := Y15) (z := Y15) hown (mvT hZ (wd hw 47)) (mvT hZ (wd hw 48)) (mvT hZ (wd hw 50)) (mvT hZ (wd hw 49)) (notFace_of_selects (args := #[]) (mvT hZ (wd hw 50))) (by decide) (backOf (W := 0) (rmsln0 l Z a0 hw [] a1 t1 kb1 (2 : Int32) ([(.int (la1 v0)), (.int (la1 v1))]) G1 (2 : Int32) h0 n0 Z0 Fvalue_a1 V_t1 E_a1 Fcoder_a1 S_COMPACT_STRINGS cs0 Ol (by decide)) hZ (wd hw 51) (wd hw 4) (by decide) (by decide)) (by rw [hml]; rfl) (a := a1) (argsL := []) (rest := []) E_a1 (lenOf pd_14 rfl) rfl (nb rfl) (hb hby d21_8) rfl e798 (by decide) (by decide) fun T799 v799 L799 X799 hQ799 => ?_
  obtain ⟨rfl, Nq799, e799⟩ := hQ799
  have N799 := Fr.app N798 Nq799
  refine Owe.sipush X799.here hx (hb hby d21_11) (w := (255 : Int32)) rfl ?_
  refine Owe.icmpNo X799.here hx (hb hby d21_14) rfl (flt (by decide)).2.2.1 ?_
  refine Owe.iconst X799.here hx (hb hby d21_17) (w := (1 : Int32)) rfl ?_
  refine Owe.goto X799.here hx (hb hby d21_18) (pc' := 22) (by decide) (by decide) ?_
  refine Owe.istoreN X799.here hx (hb hby d21_22) rfl (l' := #[.val (.ref a1), .val (.int (1 : Int32)), .unset, .unset]) rfl ?_
  refine Owe.iconst X799.here hx (hb hby d21_23) (w := (0 : Int32)) rfl ?_
  refine Owe.istoreN X799.here hx (hb hby d21_24) rfl (l' := #[.val (.ref a1), .val (.int (1 : Int32)), .val (.int (0 : Int32)), .unset]) rfl ?_
  refine Owe.iloadN X799.here hx (hb hby d21_25) rfl ?_
  refine Owe.ifNo X799.here hx (hb hby d21_26) rfl ((if0 _ _).trans (feq (by decide)).1) ?_
  refine Owe.iloadN X799.here hx (hb hby d21_29) rfl ?_
  refine Owe.aloadN X799.here hx (hb hby d21_30) rfl rfl ?_
  refine Owe.virt X799 hx hZ (y := Y15) (z := Y15) hown (mvT hZ (wd hw 47)) (mvT hZ (wd hw 48)) (mvT hZ (wd hw 50)) (mvT hZ (wd hw 49)) (notFace_of_selects (args := #[]) (mvT hZ (wd hw 50))) (by decide) (backOf (W := 1) (rmsln0 l Z a0 hw [] a1 t1 kb1 (2 : Int32) ([(.int (la1 v0)), (.int (la1 v1))]) G1 (2 : Int32) h0 n0 Z0 Fvalue_a1 V_t1 E_a1 Fcoder_a1 S_COMPACT_STRINGS cs0 Ol (by decide)) hZ (wd hw 51) (wd hw 4) (by decide) (by decide)) (by rw [hml]; rfl) (a := a1) (argsL := []) (rest := [(.int (0 : Int32))]) E_a1 (lenOf pd_14 rfl) rfl (nb rfl) (hb hby d21_31) rfl e799 (by decide) (by decide) fun T800 v800 L800 X800 hQ800 => ?_
  obtain ⟨rfl, Nq800, e800⟩ := hQ800
  have N800 := Fr.app N799 Nq800
  refine Owe.icmpNo X800.here hx (hb hby d21_34) rfl (tlt (by decide)).2.1 ?_
  refine Owe.aloadN X800.here hx (hb hby d21_37) rfl rfl ?_
  refine Owe.iloadN X800.here hx (hb hby d21_38) rfl ?_
  refine Owe.virt X800 hx hZ (y := Y20) (z := Y20) hown (mvT hZ (wd hw 57)) (mvT hZ (wd hw 58)) (mvT hZ (wd hw 60)) (mvT hZ (wd hw 59)) (notFace_of_selects (args := #[]) (mvT hZ (wd hw 60))) (by decide) (backOf (W := 0) (rmsch0 l Z a0 hw [] a1 t1 kb1 fm G1 c0 (0 : Int32) (la1 v0) (2 : Int32) ([(.int (la1 v0)), (.int (la1 v1))]) h0 n0 Z0 Fvalue_a1 V_t1 E_a1 Fcoder_a1 S_COMPACT_STRINGS cs0 Ol S_SIOOBE_FORMATTER ir_fm S__assertionsDisabled S_HI_BYTE_SHIFT S_LO_BYTE_SHIFT (by decide) rfl hch0 hnc0) hZ (wd hw 61) (wd hw 4) (by decide) (by decide)) (by rw [hml]; rfl) (a := a1) (argsL := [(.int (0 : Int32))]) (rest := []) E_a1 (lenOf pd_15 rfl) rfl (nb rfl) (hb hby d21_39) rfl e800 (by decide) (by decide) fun T801 v801 L801 X801 hQ801 => ?_
  obtain ⟨rfl, Nq801, e801⟩ := hQ801
  have N801 := Fr.app N800 Nq801
  refine Owe.istoreN X801.here hx (hb hby d21_42) rfl (l' := #[.val (.ref a1), .val (.int (1 : Int32)), .val (.int (0 : Int32)), .val (.int c0)]) rfl ?_
  by_cases hok0 : okb c0 = true
  · refine segY hx hby X801 hok0 ?_
    refine Owe.istoreN X801.here hx (hb hby d21_78) rfl (l' := #[.val (.ref a1), .val (.int (1 : Int32)), .val (.int (0 : Int32)), .val (.int c0)]) rfl ?_
    refine Owe.iinc X801.here hx (hb hby d21_79) rfl (l' := #[.val (.ref a1), .val (.int (1 : Int32)), .val (.int (1 : Int32)), .val (.int c0)]) rfl ?_
    refine Owe.goto X801.here hx (hb hby d21_82) (pc' := 25) (by decide) (by decide) ?_
    refine Owe.iloadN X801.here hx (hb hby d21_25) rfl ?_
    refine Owe.ifNo X801.here hx (hb hby d21_26) rfl ((if0 _ _).trans (feq (by decide)).1) ?_
    refine Owe.iloadN X801.here hx (hb hby d21_29) rfl ?_
    refine Owe.aloadN X801.here hx (hb hby d21_30) rfl rfl ?_
    refine Owe.virt X801 hx hZ (y := Y15) (z := Y15) hown (mvT hZ (wd hw 47)) (mvT hZ (wd hw 48)) (mvT hZ (wd hw 50)) (mvT hZ (wd hw 49)) (notFace_of_selects (args := #[]) (mvT hZ (wd hw 50))) (by decide) (backOf (W := 1) (rmsln0 l Z a0 hw [] a1 t1 kb1 (2 : Int32) ([(.int (la1 v0)), (.int (la1 v1))]) G1 (2 : Int32) h0 n0 Z0 Fvalue_a1 V_t1 E_a1 Fcoder_a1 S_COMPACT_STRINGS cs0 Ol (by decide)) hZ (wd hw 51) (wd hw 4) (by decide) (by decide)) (by rw [hml]; rfl) (a := a1) (argsL := []) (rest := [(.int (1 : Int32))]) E_a1 (lenOf pd_14 rfl) rfl (nb rfl) (hb hby d21_31) rfl e801 (by decide) (by decide) fun T802 v802 L802 X802 hQ802 => ?_
    obtain ⟨rfl, Nq802, e802⟩ := hQ802
    have N802 := Fr.app N801 Nq802
    refine Owe.icmpNo X802.here hx (hb hby d21_34) rfl (tlt (by decide)).2.1 ?_
    refine Owe.aloadN X802.here hx (hb hby d21_37) rfl rfl ?_
    refine Owe.iloadN X802.here hx (hb hby d21_38) rfl ?_
    refine Owe.virt X802 hx hZ (y := Y20) (z := Y20) hown (mvT hZ (wd hw 57)) (mvT hZ (wd hw 58)) (mvT hZ (wd hw 60)) (mvT hZ (wd hw 59)) (notFace_of_selects (args := #[]) (mvT hZ (wd hw 60))) (by decide) (backOf (W := 0) (rmsch0 l Z a0 hw [] a1 t1 kb1 fm G1 c1 (1 : Int32) (la1 v1) (2 : Int32) ([(.int (la1 v0)), (.int (la1 v1))]) h0 n0 Z0 Fvalue_a1 V_t1 E_a1 Fcoder_a1 S_COMPACT_STRINGS cs0 Ol S_SIOOBE_FORMATTER ir_fm S__assertionsDisabled S_HI_BYTE_SHIFT S_LO_BYTE_SHIFT (by decide) rfl hch1 hnc1) hZ (wd hw 61) (wd hw 4) (by decide) (by decide)) (by rw [hml]; rfl) (a := a1) (argsL := [(.int (1 : Int32))]) (rest := []) E_a1 (lenOf pd_15 rfl) rfl (nb rfl) (hb hby d21_39) rfl e802 (by decide) (by decide) fun T803 v803 L803 X803 hQ803 => ?_
    obtain ⟨rfl, Nq803, e803⟩ := hQ803
    have N803 := Fr.app N802 Nq803
    refine Owe.istoreN X803.here hx (hb hby d21_42) rfl (l' := #[.val (.ref a1), .val (.int (1 : Int32)), .val (.int (1 : Int32)), .val (.int c1)]) rfl ?_
    by_cases hok1 : okb c1 = true
    · refine segY hx hby X803 hok1 ?_
      refine Owe.istoreN X803.here hx (hb hby d21_78) rfl (l' := #[.val (.ref a1), .val (.int (1 : Int32)), .val (.int (1 : Int32)), .val (.int c1)]) rfl ?_
      refine Owe.iinc X803.here hx (hb hby d21_79) rfl (l' := #[.val (.ref a1), .val (.int (1 : Int32)), .val (.int (2 : Int32)), .val (.int c1)]) rfl ?_
      refine Owe.goto X803.here hx (hb hby d21_82) (pc' := 25) (by decide) (by decide) ?_
      refine Owe.iloadN X803.here hx (hb hby d21_25) rfl ?_
      refine Owe.ifNo X803.here hx (hb hby d21_26) rfl ((if0 _ _).trans (feq (by decide)).1) ?_
      refine Owe.iloadN X803.here hx (hb hby d21_29) rfl ?_
      refine Owe.aloadN X803.here hx (hb hby d21_30) rfl rfl ?_
      refine Owe.virt X803 hx hZ (y := Y15) (z := Y15) hown (mvT hZ (wd hw 47)) (mvT hZ (wd hw 48)) (mvT hZ (wd hw 50)) (mvT hZ (wd hw 49)) (notFace_of_selects (args := #[]) (mvT hZ (wd hw 50))) (by decide) (backOf (W := 1) (rmsln0 l Z a0 hw [] a1 t1 kb1 (2 : Int32) ([(.int (la1 v0)), (.int (la1 v1))]) G1 (2 : Int32) h0 n0 Z0 Fvalue_a1 V_t1 E_a1 Fcoder_a1 S_COMPACT_STRINGS cs0 Ol (by decide)) hZ (wd hw 51) (wd hw 4) (by decide) (by decide)) (by rw [hml]; rfl) (a := a1) (argsL := []) (rest := [(.int (2 : Int32))]) E_a1 (lenOf pd_14 rfl) rfl (nb rfl) (hb hby d21_31) rfl e803 (by decide) (by decide) fun T804 v804 L804 X804 hQ804 => ?_
      obtain ⟨rfl, Nq804, e804⟩ := hQ804
      have N804 := Fr.app N803 Nq804
      refine Owe.icmpYes X804.here hx (hb hby d21_34) rfl (flt (by decide)).2.1 (pc' := 85) (by decide) (by decide) ?_
      refine Owe.iloadN X804.here hx (hb hby d21_85) rfl ?_
      refine Owe.retN X804 hx hlk (t := .boolean) hrt (by simp) (hb hby d21_86) rfl fun fs hE => ?_
      refine hG _ _ ⟨_, _, rfl, ?_, frameMono hE (by decide) (by decide)⟩
      show Qirc2_0 Z a1 t1 kb1 fm G1 v0 v1 c0 c1 h0 n0 _ T804.heap _
      rw [e804]
      exact ⟨(by simp [rc, nb0, nb1, hok0, hok1]), N804, rfl⟩
    · refine segN hx hby X803 hok1 ?_
      refine Owe.istoreN X803.here hx (hb hby d21_78) rfl (l' := #[.val (.ref a1), .val (.int (0 : Int32)), .val (.int (1 : Int32)), .val (.int c1)]) rfl ?_
      refine Owe.iinc X803.here hx (hb hby d21_79) rfl (l' := #[.val (.ref a1), .val (.int (0 : Int32)), .val (.int (2 : Int32)), .val (.int c1)]) rfl ?_
      refine Owe.goto X803.here hx (hb hby d21_82) (pc' := 25) (by decide) (by decide) ?_
      refine Owe.iloadN X803.here hx (hb hby d21_25) rfl ?_
      refine Owe.ifYes X803.here hx (hb hby d21_26) rfl ((if0 _ _).trans (teq (by decide)).1) (pc' := 85) (by decide) (by decide) ?_
      refine Owe.iloadN X803.here hx (hb hby d21_85) rfl ?_
      refine Owe.retN X803 hx hlk (t := .boolean) hrt (by simp) (hb hby d21_86) rfl fun fs hE => ?_
      refine hG _ _ ⟨_, _, rfl, ?_, frameMono hE (by decide) (by decide)⟩
      show Qirc2_0 Z a1 t1 kb1 fm G1 v0 v1 c0 c1 h0 n0 _ T803.heap _
      rw [e803]
      exact ⟨(by simp [rc, nb0, nb1, hok0, hok1]), N803, rfl⟩
  · refine segN hx hby X801 hok0 ?_
    refine Owe.istoreN X801.here hx (hb hby d21_78) rfl (l' := #[.val (.ref a1), .val (.int (0 : Int32)), .val (.int (0 : Int32)), .val (.int c0)]) rfl ?_
    refine Owe.iinc X801.here hx (hb hby d21_79) rfl (l' := #[.val (.ref a1), .val (.int (0 : Int32)), .val (.int (1 : Int32)), .val (.int c0)]) rfl ?_
    refine Owe.goto X801.here hx (hb hby d21_82) (pc' := 25) (by decide) (by decide) ?_
    refine Owe.iloadN X801.here hx (hb hby d21_25) rfl ?_
    refine Owe.ifYes X801.here hx (hb hby d21_26) rfl ((if0 _ _).trans (teq (by decide)).1) (pc' := 85) (by decide) (by decide) ?_
    refine Owe.iloadN X801.here hx (hb hby d21_85) rfl ?_
    refine Owe.retN X801 hx hlk (t := .boolean) hrt (by simp) (hb hby d21_86) rfl fun fs hE => ?_
    refine hG _ _ ⟨_, _, rfl, ?_, frameMono hE (by decide) (by decide)⟩
    show Qirc2_0 Z a1 t1 kb1 fm G1 v0 v1 c0 c1 h0 n0 _ T801.heap _
    rw [e801]
    exact ⟨(by simp [rc, nb0, nb1, hok0]), N801, rfl⟩
theorem ef_irc2_1 (m : MethodId) (x0 : Addr)  : entryFrame m #[(.ref x0)] 4 = mkF m 0 #[.val (.ref x0), .unset, .unset, .unset] [] := by first | (simp [entryFrame, mkF, argsToLocals, Value.category]; done) | rfl
def Qirc2_1 (Z : State) (a1 : Addr) (t1 : Addr) (kb1 : ClassId) (fm : Value) (G1 : Int32) (v0 : Int32) (v1 : Int32) (c0 : Int32) (c1 : Int32) (h0 : Heap) (n0 : Nat) (v : Option Value) (h : Heap) (L : List Loc) : Prop := v = some (.int (rc [c0, c1])) ∧ Fr n0 L ∧ h = h0
set_option maxRecDepth 65536 in
set_option maxHeartbeats 40000000 in
theorem rmirc2_1 (l : Launch) (Z : State) (a0 : Array Value) (hw : Hw Z a0) (ws : List Jvm.Cond) (a1 : Addr) (t1 : Addr) (kb1 : ClassId) (fm : Value) (G1 : Int32) (v0 : Int32) (v1 : Int32) (c0 : Int32) (c1 : Int32) (h0 : Heap) (n0 : Nat) (Z0 : n0 ≤ h0.size) (Fvalue_a1 : Fld Z h0 a1 "java/lang/String" "value" "[B" (.ref t1)) (V_t1 : Arv Z h0 t1 kb1 .byte (4 : Int32) [(.int (lo1 v0)), (.int (hi1 v0)), (.int (lo1 v1)), (.int (hi1 v1))] (.int (0 : Int32))) (E_a1 : Exa Z h0 a1 "java/lang/String") (Fcoder_a1 : Fld Z h0 a1 "java/lang/String" "coder" "B" (.int (1 : Int32))) (S_COMPACT_STRINGS : Sta Z Z.heap "java/lang/String" "COMPACT_STRINGS" "Z" (.int G1)) (cs0 : ¬ (G1 = (0 : Int32))) (Ol : Old Z n0 h0) (S_SIOOBE_FORMATTER : Sta Z Z.heap "jdk/internal/util/Preconditions" "SIOOBE_FORMATTER" "Ljava/util/function/BiFunction;" fm) (ir_fm : (fm).isRef = true) (S__assertionsDisabled : Sta Z Z.heap "java/lang/StringUTF16" "$assertionsDisabled" "Z" (.int (1 : Int32))) (S_HI_BYTE_SHIFT : Sta Z Z.heap "java/lang/StringUTF16" "HI_BYTE_SHIFT" "I" (.int (0 : Int32))) (S_LO_BYTE_SHIFT : Sta Z Z.heap "java/lang/StringUTF16" "LO_BYTE_SHIFT" "I" (.int (8 : Int32))) (hch0 : getc (lo1 v0) (hi1 v0) = c0) (hch1 : getc (lo1 v1) (hi1 v1) = c1) (hnc0 : nar .char c0 = c0) (hnc1 : nar .char c1 = c1) :
    MF l Z Y21 prog_1_method_3_code 4 (some .boolean) ws ({ frames := 5, cells := 0, slots := 0, locals := 70 } : Room) #[(.ref a1)] h0 (Qirc2_1 Z a1 t1 kb1 fm G1 v0 v1 c0 c1 h0 n0) := by
  refine MF.of pn_4 (fun m => ef_irc2_1 m a1) ?_
  intro p e s m below meth c s₁ G X0 e0 hx hby hml hown hnm hlk hrt hZ hnd hG
  have N0 := Fr.nil n0
  refine Owe.aloadN X0.here hx (hb hby d21_0) rfl rfl ?_
  refine Owe.virt X0 hx hZ (y := Y14) (z := Y14) hown (mvT hZ (wd hw 27)) (mvT hZ (wd hw 28)) (mvT hZ (wd hw 30)) (mvT hZ (wd hw 29)) (notFace_of_selects (args := #[]) (mvT hZ (wd hw 30))) (by decide) (backOf (W := 0) (rmemp1 l Z a0 hw [] a1 t1 kb1 (4 : Int32) ([(.int (lo1 v0)), (.int (hi1 v0)), (.int (lo1 v1)), (.int (hi1 v1))]) h0 n0 Z0 E_a1 Fvalue_a1 V_t1 (by decide)) hZ (wd hw 31) (wd hw 4) (by decide) (by decide)) (by rw [hml]; rfl) (a := a1) (argsL := []) (rest := []) E_a1 (lenOf pd_13 rfl) rfl (nb rfl) (hb hby d21_1) rfl e0 (by decide) (by decide) fun T805 v805 L805 X805 hQ805 => ?_
  obtain ⟨rfl, Nq805, e805⟩ := hQ805
  have N805 := Fr.app N0 Nq805
  refine Owe.ifNo X805.here hx (hb hby d21_4) rfl ((if0 _ _).trans (teq (by decide)).2) ?_
  refine Owe.aloadN X805.here hx (hb hby d21_7) rfl rfl ?_
  refine Owe.virt X805 hx hZ (y := Y15) (z := Y15) hown (mvT hZ (wd hw 47)) (mvT hZ (wd hw 48)) (mvT hZ (wd hw 50)) (mvT hZ (wd hw 49)) (notFace_of_selects (args := #[]) (mvT hZ (wd hw 50))) (by decide) (backOf (W := 0) (rmsln1 l Z a0 hw [] a1 t1 kb1 (4 : Int32) ([(.int (lo1 v0)), (.int (hi1 v0)), (.int (lo1 v1)), (.int (hi1 v1))]) G1 (2 : Int32) h0 n0 Z0 Fvalue_a1 V_t1 E_a1 Fcoder_a1 S_COMPACT_STRINGS cs0 Ol (by decide)) hZ (wd hw 51) (wd hw 4) (by decide) (by decide)) (by rw [hml]; rfl) (a := a1) (argsL := []) (rest := []) E_a1 (lenOf pd_14 rfl) rfl (nb rfl) (hb hby d21_8) rfl e805 (by decide) (by decide) fun T806 v806 L806 X806 hQ806 => ?_
  obtain ⟨rfl, Nq806, e806⟩ := hQ806
  have N806 := Fr.app N805 Nq806
  refine Owe.sipush X806.here hx (hb hby d21_11) (w := (255 : Int32)) rfl ?_
  refine Owe.icmpNo X806.here hx (hb hby d21_14) rfl (flt (by decide)).2.2.1 ?_
  refine Owe.iconst X806.here hx (hb hby d21_17) (w := (1 : Int32)) rfl ?_
  refine Owe.goto X806.here hx (hb hby d21_18) (pc' := 22) (by decide) (by decide) ?_
  refine Owe.istoreN X806.here hx (hb hby d21_22) rfl (l' := #[.val (.ref a1), .val (.int (1 : Int32)), .unset, .unset]) rfl ?_
  refine Owe.iconst X806.here hx (hb hby d21_23) (w := (0 : Int32)) rfl ?_
  refine Owe.istoreN X806.here hx (hb hby d21_24) rfl (l' := #[.val (.ref a1), .val (.int (1 : Int32)), .val (.int (0 : Int32)), .unset]) rfl ?_
  refine Owe.iloadN X806.here hx (hb hby d21_25) rfl ?_
  refine Owe.ifNo X806.here hx (hb hby d21_26) rfl ((if0 _ _).trans (feq (by decide)).1) ?_
  refine Owe.iloadN X806.here hx (hb hby d21_29) rfl ?_
  refine Owe.aloadN X806.here hx (hb hby d21_30) rfl rfl ?_
  refine Owe.virt X806 hx hZ (y := Y15) (z := Y15) hown (mvT hZ (wd hw 47)) (mvT hZ (wd hw 48)) (mvT hZ (wd hw 50)) (mvT hZ (wd hw 49)) (notFace_of_selects (args := #[]) (mvT hZ (wd hw 50))) (by decide) (backOf (W := 1) (rmsln1 l Z a0 hw [] a1 t1 kb1 (4 : Int32) ([(.int (lo1 v0)), (.int (hi1 v0)), (.int (lo1 v1)), (.int (hi1 v1))]) G1 (2 : Int32) h0 n0 Z0 Fvalue_a1 V_t1 E_a1 Fcoder_a1 S_COMPACT_STRINGS cs0 Ol (by decide)) hZ (wd hw 51) (wd hw 4) (by decide) (by decide)) (by rw [hml]; rfl) (a := a1) (argsL := []) (rest := [(.int (0 : Int32))]) E_a1 (lenOf pd_14 rfl) rfl (nb rfl) (hb hby d21_31) rfl e806 (by decide) (by decide) fun T807 v807 L807 X807 hQ807 => ?_
  obtain ⟨rfl, Nq807, e807⟩ := hQ807
  have N807 := Fr.app N806 Nq807
  refine Owe.icmpNo X807.here hx (hb hby d21_34) rfl (tlt (by decide)).2.1 ?_
  refine Owe.aloadN X807.here hx (hb hby d21_37) rfl rfl ?_
  refine Owe.iloadN X807.here hx (hb hby d21_38) rfl ?_
  refine Owe.virt X807 hx hZ (y := Y20) (z := Y20) hown (mvT hZ (wd hw 57)) (mvT hZ (wd hw 58)) (mvT hZ (wd hw 60)) (mvT hZ (wd hw 59)) (notFace_of_selects (args := #[]) (mvT hZ (wd hw 60))) (by decide) (backOf (W := 0) (rmsch1 l Z a0 hw [] a1 t1 kb1 fm G1 c0 (0 : Int32) (lo1 v0) (hi1 v0) (4 : Int32) ([(.int (lo1 v0)), (.int (hi1 v0)), (.int (lo1 v1)), (.int (hi1 v1))]) h0 n0 Z0 Fvalue_a1 V_t1 E_a1 Fcoder_a1 S_COMPACT_STRINGS cs0 Ol S_SIOOBE_FORMATTER ir_fm S__assertionsDisabled S_HI_BYTE_SHIFT S_LO_BYTE_SHIFT (by decide) rfl (by decide) rfl hch0 hnc0 (by decide)) hZ (wd hw 61) (wd hw 4) (by decide) (by decide)) (by rw [hml]; rfl) (a := a1) (argsL := [(.int (0 : Int32))]) (rest := []) E_a1 (lenOf pd_15 rfl) rfl (nb rfl) (hb hby d21_39) rfl e807 (by decide) (by decide) fun T808 v808 L808 X808 hQ808 => ?_
  obtain ⟨rfl, Nq808, e808⟩ := hQ808
  have N808 := Fr.app N807 Nq808
  refine Owe.istoreN X808.here hx (hb hby d21_42) rfl (l' := #[.val (.ref a1), .val (.int (1 : Int32)), .val (.int (0 : Int32)), .val (.int c0)]) rfl ?_
  by_cases hok0 : okb c0 = true
  · refine segY hx hby X808 hok0 ?_
    refine Owe.istoreN X808.here hx (hb hby d21_78) rfl (l' := #[.val (.ref a1), .val (.int (1 : Int32)), .val (.int (0 : Int32)), .val (.int c0)]) rfl ?_
    refine Owe.iinc X808.here hx (hb hby d21_79) rfl (l' := #[.val (.ref a1), .val (.int (1 : Int32)), .val (.int (1 : Int32)), .val (.int c0)]) rfl ?_
    refine Owe.goto X808.here hx (hb hby d21_82) (pc' := 25) (by decide) (by decide) ?_
    refine Owe.iloadN X808.here hx (hb hby d21_25) rfl ?_
    refine Owe.ifNo X808.here hx (hb hby d21_26) rfl ((if0 _ _).trans (feq (by decide)).1) ?_
    refine Owe.iloadN X808.here hx (hb hby d21_29) rfl ?_
    refine Owe.aloadN X808.here hx (hb hby d21_30) rfl rfl ?_
    refine Owe.virt X808 hx hZ (y := Y15) (z := Y15) hown (mvT hZ (wd hw 47)) (mvT hZ (wd hw 48)) (mvT hZ (wd hw 50)) (mvT hZ (wd hw 49)) (notFace_of_selects (args := #[]) (mvT hZ (wd hw 50))) (by decide) (backOf (W := 1) (rmsln1 l Z a0 hw [] a1 t1 kb1 (4 : Int32) ([(.int (lo1 v0)), (.int (hi1 v0)), (.int (lo1 v1)), (.int (hi1 v1))]) G1 (2 : Int32) h0 n0 Z0 Fvalue_a1 V_t1 E_a1 Fcoder_a1 S_COMPACT_STRINGS cs0 Ol (by decide)) hZ (wd hw 51) (wd hw 4) (by decide) (by decide)) (by rw [hml]; rfl) (a := a1) (argsL := []) (rest := [(.int (1 : Int32))]) E_a1 (lenOf pd_14 rfl) rfl (nb rfl) (hb hby d21_31) rfl e808 (by decide) (by decide) fun T809 v809 L809 X809 hQ809 => ?_
    obtain ⟨rfl, Nq809, e809⟩ := hQ809
    have N809 := Fr.app N808 Nq809
    refine Owe.icmpNo X809.here hx (hb hby d21_34) rfl (tlt (by decide)).2.1 ?_
    refine Owe.aloadN X809.here hx (hb hby d21_37) rfl rfl ?_
    refine Owe.iloadN X809.here hx (hb hby d21_38) rfl ?_
    refine Owe.virt X809 hx hZ (y := Y20) (z := Y20) hown (mvT hZ (wd hw 57)) (mvT hZ (wd hw 58)) (mvT hZ (wd hw 60)) (mvT hZ (wd hw 59)) (notFace_of_selects (args := #[]) (mvT hZ (wd hw 60))) (by decide) (backOf (W := 0) (rmsch1 l Z a0 hw [] a1 t1 kb1 fm G1 c1 (1 : Int32) (lo1 v1) (hi1 v1) (4 : Int32) ([(.int (lo1 v0)), (.int (hi1 v0)), (.int (lo1 v1)), (.int (hi1 v1))]) h0 n0 Z0 Fvalue_a1 V_t1 E_a1 Fcoder_a1 S_COMPACT_STRINGS cs0 Ol S_SIOOBE_FORMATTER ir_fm S__assertionsDisabled S_HI_BYTE_SHIFT S_LO_BYTE_SHIFT (by decide) rfl (by decide) rfl hch1 hnc1 (by decide)) hZ (wd hw 61) (wd hw 4) (by decide) (by decide)) (by rw [hml]; rfl) (a := a1) (argsL := [(.int (1 : Int32))]) (rest := []) E_a1 (lenOf pd_15 rfl) rfl (nb rfl) (hb hby d21_39) rfl e809 (by decide) (by decide) fun T810 v810 L810 X810 hQ810 => ?_
    obtain ⟨rfl, Nq810, e810⟩ := hQ810
    have N810 := Fr.app N809 Nq810
    refine Owe.istoreN X810.here hx (hb hby d21_42) rfl (l' := #[.val (.ref a1), .val (.int (1 : Int32)), .val (.int (1 : Int32)), .val (.int c1)]) rfl ?_
    by_cases hok1 : okb c1 = true
    · refine segY hx hby X810 hok1 ?_
      refine Owe.istoreN X810.here hx (hb hby d21_78) rfl (l' := #[.val (.ref a1), .val (.int (1 : Int32)), .val (.int (1 : Int32)), .val (.int c1)]) rfl ?_
      refine Owe.iinc X810.here hx (hb hby d21_79) rfl (l' := #[.val (.ref a1), .val (.int (1 : Int32)), .val (.int (2 : Int32)), .val (.int c1)]) rfl ?_
      refine Owe.goto X810.here hx (hb hby d21_82) (pc' := 25) (by decide) (by decide) ?_
      refine Owe.iloadN X810.here hx (hb hby d21_25) rfl ?_
      refine Owe.ifNo X810.here hx (hb hby d21_26) rfl ((if0 _ _).trans (feq (by decide)).1) ?_
      refine Owe.iloadN X810.here hx (hb hby d21_29) rfl ?_
      refine Owe.aloadN X810.here hx (hb hby d21_30) rfl rfl ?_
      refine Owe.virt X810 hx hZ (y := Y15) (z := Y15) hown (mvT hZ (wd hw 47)) (mvT hZ (wd hw 48)) (mvT hZ (wd hw 50)) (mvT hZ (wd hw 49)) (notFace_of_selects (args := #[]) (mvT hZ (wd hw 50))) (by decide) (backOf (W := 1) (rmsln1 l Z a0 hw [] a1 t1 kb1 (4 : Int32) ([(.int (lo1 v0)), (.int (hi1 v0)), (.int (lo1 v1)), (.int (hi1 v1))]) G1 (2 : Int32) h0 n0 Z0 Fvalue_a1 V_t1 E_a1 Fcoder_a1 S_COMPACT_STRINGS cs0 Ol (by decide)) hZ (wd hw 51) (wd hw 4) (by decide) (by decide)) (by rw [hml]; rfl) (a := a1) (argsL := []) (rest := [(.int (2 : Int32))]) E_a1 (lenOf pd_14 rfl) rfl (nb rfl) (hb hby d21_31) rfl e810 (by decide) (by decide) fun T811 v811 L811 X811 hQ811 => ?_
      obtain ⟨rfl, Nq811, e811⟩ := hQ811
      have N811 := Fr.app N810 Nq811
      refine Owe.icmpYes X811.here hx (hb hby d21_34) rfl (flt (by decide)).2.1 (pc' := 85) (by decide) (by decide) ?_
      refine Owe.iloadN X811.here hx (hb hby d21_85) rfl ?_
      refine Owe.retN X811 hx hlk (t := .boolean) hrt (by simp) (hb hby d21_86) rfl fun fs hE => ?_
      refine hG _ _ ⟨_, _, rfl, ?_, frameMono hE (by decide) (by decide)⟩
      show Qirc2_1 Z a1 t1 kb1 fm G1 v0 v1 c0 c1 h0 n0 _ T811.heap _
      rw [e811]
      exact ⟨(by simp [rc, nb0, nb1, hok0, hok1]), N811, rfl⟩
    · refine segN hx hby X810 hok1 ?_
      refine Owe.istoreN X810.here hx (hb hby d21_78) rfl (l' := #[.val (.ref a1), .val (.int (0 : Int32)), .val (.int (1 : Int32)), .val (.int c1)]) rfl ?_
      refine Owe.iinc X810.here hx (hb hby d21_79) rfl (l' := #[.val (.ref a1), .val (.int (0 : Int32)), .val (.int (2 : Int32)), .val (.int c1)]) rfl ?_
      refine Owe.goto X810.here hx (hb hby d21_82) (pc' := 25) (by decide) (by decide) ?_
      refine Owe.iloadN X810.here hx (hb hby d21_25) rfl ?_
      refine Owe.ifYes X810.here hx (hb hby d21_26) rfl ((if0 _ _).trans (teq (by decide)).1) (pc' := 85) (by decide) (by decide) ?_
      refine Owe.iloadN X810.here hx (hb hby d21_85) rfl ?_
      refine Owe.retN X810 hx hlk (t := .boolean) hrt (by simp) (hb hby d21_86) rfl fun fs hE => ?_
      refine hG _ _ ⟨_, _, rfl, ?_, frameMono hE (by decide) (by decide)⟩
      show Qirc2_1 Z a1 t1 kb1 fm G1 v0 v1 c0 c1 h0 n0 _ T810.heap _
      rw [e810]
      exact ⟨(by simp [rc, nb0, nb1, hok0, hok1]), N810, rfl⟩
  · refine segN hx hby X808 hok0 ?_
    refine Owe.istoreN X808.here hx (hb hby d21_78) rfl (l' := #[.val (.ref a1), .val (.int (0 : Int32)), .val (.int (0 : Int32)), .val (.int c0)]) rfl ?_
    refine Owe.iinc X808.here hx (hb hby d21_79) rfl (l' := #[.val (.ref a1), .val (.int (0 : Int32)), .val (.int (1 : Int32)), .val (.int c0)]) rfl ?_
    refine Owe.goto X808.here hx (hb hby d21_82) (pc' := 25) (by decide) (by decide) ?_
    refine Owe.iloadN X808.here hx (hb hby d21_25) rfl ?_
    refine Owe.ifYes X808.here hx (hb hby d21_26) rfl ((if0 _ _).trans (teq (by decide)).1) (pc' := 85) (by decide) (by decide) ?_
    refine Owe.iloadN X808.here hx (hb hby d21_85) rfl ?_
    refine Owe.retN X808 hx hlk (t := .boolean) hrt (by simp) (hb hby d21_86) rfl fun fs hE => ?_
    refine hG _ _ ⟨_, _, rfl, ?_, frameMono hE (by decide) (by decide)⟩
    show Qirc2_1 Z a1 t1 kb1 fm G1 v0 v1 c0 c1 h0 n0 _ T808.heap _
    rw [e808]
    exact ⟨(by simp [rc, nb0, nb1, hok0]), N808, rfl⟩
theorem ef_irc3_0 (m : MethodId) (x0 : Addr)  : entryFrame m #[(.ref x0)] 4 = mkF m 0 #[.val (.ref x0), .unset, .unset, .unset] [] := by first | (simp [entryFrame, mkF, argsToLocals, Value.category]; done) | rfl
def Qirc3_0 (Z : State) (a1 : Addr) (t1 : Addr) (kb1 : ClassId) (fm : Value) (G1 : Int32) (v0 : Int32) (v1 : Int32) (v2 : Int32) (c0 : Int32) (c1 : Int32) (c2 : Int32) (h0 : Heap) (n0 : Nat) (v : Option Value) (h : Heap) (L : List Loc) : Prop := v = some (.int (rc [c0, c1, c2])) ∧ Fr n0 L ∧ h = h0
set_option maxRecDepth 65536 in
set_option maxHeartbeats 40000000 in
theorem rmirc3_0 (l : Launch) (Z : State) (a0 : Array Value) (hw : Hw Z a0) (ws : List Jvm.Cond) (a1 : Addr) (t1 : Addr) (kb1 : ClassId) (fm : Value) (G1 : Int32) (v0 : Int32) (v1 : Int32) (v2 : Int32) (c0 : Int32) (c1 : Int32) (c2 : Int32) (h0 : Heap) (n0 : Nat) (Z0 : n0 ≤ h0.size) (Fvalue_a1 : Fld Z h0 a1 "java/lang/String" "value" "[B" (.ref t1)) (V_t1 : Arv Z h0 t1 kb1 .byte (3 : Int32) [(.int (la1 v0)), (.int (la1 v1)), (.int (la1 v2))] (.int (0 : Int32))) (E_a1 : Exa Z h0 a1 "java/lang/String") (Fcoder_a1 : Fld Z h0 a1 "java/lang/String" "coder" "B" (.int (0 : Int32))) (S_COMPACT_STRINGS : Sta Z Z.heap "java/lang/String" "COMPACT_STRINGS" "Z" (.int G1)) (cs0 : ¬ (G1 = (0 : Int32))) (Ol : Old Z n0 h0) (S_SIOOBE_FORMATTER : Sta Z Z.heap "jdk/internal/util/Preconditions" "SIOOBE_FORMATTER" "Ljava/util/function/BiFunction;" fm) (ir_fm : (fm).isRef = true) (S__assertionsDisabled : Sta Z Z.heap "java/lang/StringUTF16" "$assertionsDisabled" "Z" (.int (1 : Int32))) (S_HI_BYTE_SHIFT : Sta Z Z.heap "java/lang/StringUTF16" "HI_BYTE_SHIFT" "I" (.int (0 : Int32))) (S_LO_BYTE_SHIFT : Sta Z Z.heap "java/lang/StringUTF16" "LO_BYTE_SHIFT" "I" (.int (8 : Int32))) (hch0 : own_dl v0 = c0) (hch1 : own_dl v1 = c1) (hch2 : own_dl v2 = c2) (hnc0 : nar .char c0 = c0) (hnc1 : nar .char c1 = c1) (hnc2 : nar .char c2 = c2) :
    MF l Z Y21 prog_1_method_3_code 4 (some .boolean) ws ({ frames := 5, cells := 0, slots := 0, locals := 70 } : Room) #[(.ref a1)] h0 (Qirc3_0 Z a1 t1 kb1 fm G1 v0 v1 v2 c0 c1 c2 h0 n0) := by
  refine MF.of pn_4 (fun m => ef_irc3_0 m a1) ?_
  intro p e s m below meth c s₁ G X0 e0 hx hby hml hown hnm hlk hrt hZ hnd hG
  have N0 := Fr.nil n0
  refine Owe.aloadN X0.here hx (hb hby d21_0) rfl rfl ?_
  refine Owe.virt X0 hx hZ (y := Y14) (z := Y14) hown (mvT hZ (wd hw 27)) (mvT hZ (wd hw 28)) (mvT hZ (wd hw 30)) (mvT hZ (wd hw 29)) (notFace_of_selects (args := #[]) (mvT hZ (wd hw 30))) (by decide) (backOf (W := 0) (rmemp1 l Z a0 hw [] a1 t1 kb1 (3 : Int32) ([(.int (la1 v0)), (.int (la1 v1)), (.int (la1 v2))]) h0 n0 Z0 E_a1 Fvalue_a1 V_t1 (by decide)) hZ (wd hw 31) (wd hw 4) (by decide) (by decide)) (by rw [hml]; rfl) (a := a1) (argsL := []) (rest := []) E_a1 (lenOf pd_13 rfl) rfl (nb rfl) (hb hby d21_1) rfl e0 (by decide) (by decide) fun T812 v812 L812 X812 hQ812 => ?_
  obtain ⟨rfl, Nq812, e812⟩ := hQ812
  have N812 := Fr.app N0 Nq812
  refine Owe.ifNo X812.here hx (hb hby d21_4) rfl ((if0 _ _).trans (teq (by decide)).2) ?_
  refine Owe.aloadN X812.here hx (hb hby d21_7) rfl rfl ?_
  refine Owe.virt X812 hx hZ (y := Y15) (z := Y15) hown (mvT hZ (wd hw 47)) (mvT hZ (wd hw 48)) (mvT hZ (wd hw 50)) (mvT hZ (wd hw 49)) (notFace_of_selects (args := #[]) (mvT hZ (wd hw 50))) (by decide) (backOf (W := 0) (rmsln0 l Z a0 hw [] a1 t1 kb1 (3 : Int32) ([(.int (la1 v0)), (.int (la1 v1)), (.int (la1 v2))]) G1 (3 : Int32) h0 n0 Z0 Fvalue_a1 V_t1 E_a1 Fcoder_a1 S_COMPACT_STRINGS cs0 Ol (by decide)) hZ (wd hw 51) (wd hw 4) (by decide) (by decide)) (by rw [hml]; rfl) (a := a1) (argsL := []) (rest := []) E_a1 (lenOf pd_14 rfl) rfl (nb rfl) (hb hby d21_8) rfl e812 (by decide) (by decide) fun T813 v813 L813 X813 hQ813 => ?_
  obtain ⟨rfl, Nq813, e813⟩ := hQ813
  have N813 := Fr.app N812 Nq813
  refine Owe.sipush X813.here hx (hb hby d21_11) (w := (255 : Int32)) rfl ?_
  refine Owe.icmpNo X813.here hx (hb hby d21_14) rfl (flt (by decide)).2.2.1 ?_
  refine Owe.iconst X813.here hx (hb hby d21_17) (w := (1 : Int32)) rfl ?_
  refine Owe.goto X813.here hx (hb hby d21_18) (pc' := 22) (by decide) (by decide) ?_
  refine Owe.istoreN X813.here hx (hb hby d21_22) rfl (l' := #[.val (.ref a1), .val (.int (1 : Int32)), .unset, .unset]) rfl ?_
  refine Owe.iconst X813.here hx (hb hby d21_23) (w := (0 : Int32)) rfl ?_
  refine Owe.istoreN X813.here hx (hb hby d21_24) rfl (l' := #[.val (.ref a1), .val (.int (1 : Int32)), .val (.int (0 : Int32)), .unset]) rfl ?_
  refine Owe.iloadN X813.here hx (hb hby d21_25) rfl ?_
  refine Owe.ifNo X813.here hx (hb hby d21_26) rfl ((if0 _ _).trans (feq (by decide)).1) ?_
  refine Owe.iloadN X813.here hx (hb hby d21_29) rfl ?_
  refine Owe.aloadN X813.here hx (hb hby d21_30) rfl rfl ?_
  refine Owe.virt X813 hx hZ (y := Y15) (z := Y15) hown (mvT hZ (wd hw 47)) (mvT hZ (wd hw 48)) (mvT hZ (wd hw 50)) (mvT hZ (wd hw 49)) (notFace_of_selects (args := #[]) (mvT hZ (wd hw 50))) (by decide) (backOf (W := 1) (rmsln0 l Z a0 hw [] a1 t1 kb1 (3 : Int32) ([(.int (la1 v0)), (.int (la1 v1)), (.int (la1 v2))]) G1 (3 : Int32) h0 n0 Z0 Fvalue_a1 V_t1 E_a1 Fcoder_a1 S_COMPACT_STRINGS cs0 Ol (by decide)) hZ (wd hw 51) (wd hw 4) (by decide) (by decide)) (by rw [hml]; rfl) (a := a1) (argsL := []) (rest := [(.int (0 : Int32))]) E_a1 (lenOf pd_14 rfl) rfl (nb rfl) (hb hby d21_31) rfl e813 (by decide) (by decide) fun T814 v814 L814 X814 hQ814 => ?_
  obtain ⟨rfl, Nq814, e814⟩ := hQ814
  have N814 := Fr.app N813 Nq814
  refine Owe.icmpNo X814.here hx (hb hby d21_34) rfl (tlt (by decide)).2.1 ?_
  refine Owe.aloadN X814.here hx (hb hby d21_37) rfl rfl ?_
  refine Owe.iloadN X814.here hx (hb hby d21_38) rfl ?_
  refine Owe.virt X814 hx hZ (y := Y20) (z := Y20) hown (mvT hZ (wd hw 57)) (mvT hZ (wd hw 58)) (mvT hZ (wd hw 60)) (mvT hZ (wd hw 59)) (notFace_of_selects (args := #[]) (mvT hZ (wd hw 60))) (by decide) (backOf (W := 0) (rmsch0 l Z a0 hw [] a1 t1 kb1 fm G1 c0 (0 : Int32) (la1 v0) (3 : Int32) ([(.int (la1 v0)), (.int (la1 v1)), (.int (la1 v2))]) h0 n0 Z0 Fvalue_a1 V_t1 E_a1 Fcoder_a1 S_COMPACT_STRINGS cs0 Ol S_SIOOBE_FORMATTER ir_fm S__assertionsDisabled S_HI_BYTE_SHIFT S_LO_BYTE_SHIFT (by decide) rfl hch0 hnc0) hZ (wd hw 61) (wd hw 4) (by decide) (by decide)) (by rw [hml]; rfl) (a := a1) (argsL := [(.int (0 : Int32))]) (rest := []) E_a1 (lenOf pd_15 rfl) rfl (nb rfl) (hb hby d21_39) rfl e814 (by decide) (by decide) fun T815 v815 L815 X815 hQ815 => ?_
  obtain ⟨rfl, Nq815, e815⟩ := hQ815
  have N815 := Fr.app N814 Nq815
  refine Owe.istoreN X815.here hx (hb hby d21_42) rfl (l' := #[.val (.ref a1), .val (.int (1 : Int32)), .val (.int (0 : Int32)), .val (.int c0)]) rfl ?_
  by_cases hok0 : okb c0 = true
  · refine segY hx hby X815 hok0 ?_
    refine Owe.istoreN X815.here hx (hb hby d21_78) rfl (l' := #[.val (.ref a1), .val (.int (1 : Int32)), .val (.int (0 : Int32)), .val (.int c0)]) rfl ?_
    refine Owe.iinc X815.here hx (hb hby d21_79) rfl (l' := #[.val (.ref a1), .val (.int (1 : Int32)), .val (.int (1 : Int32)), .val (.int c0)]) rfl ?_
    refine Owe.goto X815.here hx (hb hby d21_82) (pc' := 25) (by decide) (by decide) ?_
    refine Owe.iloadN X815.here hx (hb hby d21_25) rfl ?_
    refine Owe.ifNo X815.here hx (hb hby d21_26) rfl ((if0 _ _).trans (feq (by decide)).1) ?_
    refine Owe.iloadN X815.here hx (hb hby d21_29) rfl ?_
    refine Owe.aloadN X815.here hx (hb hby d21_30) rfl rfl ?_
    refine Owe.virt X815 hx hZ (y := Y15) (z := Y15) hown (mvT hZ (wd hw 47)) (mvT hZ (wd hw 48)) (mvT hZ (wd hw 50)) (mvT hZ (wd hw 49)) (notFace_of_selects (args := #[]) (mvT hZ (wd hw 50))) (by decide) (backOf (W := 1) (rmsln0 l Z a0 hw [] a1 t1 kb1 (3 : Int32) ([(.int (la1 v0)), (.int (la1 v1)), (.int (la1 v2))]) G1 (3 : Int32) h0 n0 Z0 Fvalue_a1 V_t1 E_a1 Fcoder_a1 S_COMPACT_STRINGS cs0 Ol (by decide)) hZ (wd hw 51) (wd hw 4) (by decide) (by decide)) (by rw [hml]; rfl) (a := a1) (argsL := []) (rest := [(.int (1 : Int32))]) E_a1 (lenOf pd_14 rfl) rfl (nb rfl) (hb hby d21_31) rfl e815 (by decide) (by decide) fun T816 v816 L816 X816 hQ816 => ?_
    obtain ⟨rfl, Nq816, e816⟩ := hQ816
    have N816 := Fr.app N815 Nq816
    refine Owe.icmpNo X816.here hx (hb hby d21_34) rfl (tlt (by decide)).2.1 ?_
    refine Owe.aloadN X816.here hx (hb hby d21_37) rfl rfl ?_
    refine Owe.iloadN X816.here hx (hb hby d21_38) rfl ?_
    refine Owe.virt X816 hx hZ (y := Y20) (z := Y20) hown (mvT hZ (wd hw 57)) (mvT hZ (wd hw 58)) (mvT hZ (wd hw 60)) (mvT hZ (wd hw 59)) (notFace_of_selects (args := #[]) (mvT hZ (wd hw 60))) (by decide) (backOf (W := 0) (rmsch0 l Z a0 hw [] a1 t1 kb1 fm G1 c1 (1 : Int32) (la1 v1) (3 : Int32) ([(.int (la1 v0)), (.int (la1 v1)), (.int (la1 v2))]) h0 n0 Z0 Fvalue_a1 V_t1 E_a1 Fcoder_a1 S_COMPACT_STRINGS cs0 Ol S_SIOOBE_FORMATTER ir_fm S__assertionsDisabled S_HI_BYTE_SHIFT S_LO_BYTE_SHIFT (by decide) rfl hch1 hnc1) hZ (wd hw 61) (wd hw 4) (by decide) (by decide)) (by rw [hml]; rfl) (a := a1) (argsL := [(.int (1 : Int32))]) (rest := []) E_a1 (lenOf pd_15 rfl) rfl (nb rfl) (hb hby d21_39) rfl e816 (by decide) (by decide) fun T817 v817 L817 X817 hQ817 => ?_
    obtain ⟨rfl, Nq817, e817⟩ := hQ817
    have N817 := Fr.app N816 Nq817
    refine Owe.istoreN X817.here hx (hb hby d21_42) rfl (l' := #[.val (.ref a1), .val (.int (1 : Int32)), .val (.int (1 : Int32)), .val (.int c1)]) rfl ?_
    by_cases hok1 : okb c1 = true
    · refine segY hx hby X817 hok1 ?_
      refine Owe.istoreN X817.here hx (hb hby d21_78) rfl (l' := #[.val (.ref a1), .val (.int (1 : Int32)), .val (.int (1 : Int32)), .val (.int c1)]) rfl ?_
      refine Owe.iinc X817.here hx (hb hby d21_79) rfl (l' := #[.val (.ref a1), .val (.int (1 : Int32)), .val (.int (2 : Int32)), .val (.int c1)]) rfl ?_
      refine Owe.goto X817.here hx (hb hby d21_82) (pc' := 25) (by decide) (by decide) ?_
      refine Owe.iloadN X817.here hx (hb hby d21_25) rfl ?_
      refine Owe.ifNo X817.here hx (hb hby d21_26) rfl ((if0 _ _).trans (feq (by decide)).1) ?_
      refine Owe.iloadN X817.here hx (hb hby d21_29) rfl ?_
      refine Owe.aloadN X817.here hx (hb hby d21_30) rfl rfl ?_
      refine Owe.virt X817 hx hZ (y := Y15) (z := Y15) hown (mvT hZ (wd hw 47)) (mvT hZ (wd hw 48)) (mvT hZ (wd hw 50)) (mvT hZ (wd hw 49)) (notFace_of_selects (args := #[]) (mvT hZ (wd hw 50))) (by decide) (backOf (W := 1) (rmsln0 l Z a0 hw [] a1 t1 kb1 (3 : Int32) ([(.int (la1 v0)), (.int (la1 v1)), (.int (la1 v2))]) G1 (3 : Int32) h0 n0 Z0 Fvalue_a1 V_t1 E_a1 Fcoder_a1 S_COMPACT_STRINGS cs0 Ol (by decide)) hZ (wd hw 51) (wd hw 4) (by decide) (by decide)) (by rw [hml]; rfl) (a := a1) (argsL := []) (rest := [(.int (2 : Int32))]) E_a1 (lenOf pd_14 rfl) rfl (nb rfl) (hb hby d21_31) rfl e817 (by decide) (by decide) fun T818 v818 L818 X818 hQ818 => ?_
      obtain ⟨rfl, Nq818, e818⟩ := hQ818
      have N818 := Fr.app N817 Nq818
      refine Owe.icmpNo X818.here hx (hb hby d21_34) rfl (tlt (by decide)).2.1 ?_
      refine Owe.aloadN X818.here hx (hb hby d21_37) rfl rfl ?_
      refine Owe.iloadN X818.here hx (hb hby d21_38) rfl ?_
      refine Owe.virt X818 hx hZ (y := Y20) (z := Y20) hown (mvT hZ (wd hw 57)) (mvT hZ (wd hw 58)) (mvT hZ (wd hw 60)) (mvT hZ (wd hw 59)) (notFace_of_selects (args := #[]) (mvT hZ (wd hw 60))) (by decide) (backOf (W := 0) (rmsch0 l Z a0 hw [] a1 t1 kb1 fm G1 c2 (2 : Int32) (la1 v2) (3 : Int32) ([(.int (la1 v0)), (.int (la1 v1)), (.int (la1 v2))]) h0 n0 Z0 Fvalue_a1 V_t1 E_a1 Fcoder_a1 S_COMPACT_STRINGS cs0 Ol S_SIOOBE_FORMATTER ir_fm S__assertionsDisabled S_HI_BYTE_SHIFT S_LO_BYTE_SHIFT (by decide) rfl hch2 hnc2) hZ (wd hw 61) (wd hw 4) (by decide) (by decide)) (by rw [hml]; rfl) (a := a1) (argsL := [(.int (2 : Int32))]) (rest := []) E_a1 (lenOf pd_15 rfl) rfl (nb rfl) (hb hby d21_39) rfl e818 (by decide) (by decide) fun T819 v819 L819 X819 hQ819 => ?_
      obtain ⟨rfl, Nq819, e819⟩ := hQ819
      have N819 := Fr.app N818 Nq819
      refine Owe.istoreN X819.here hx (hb hby d21_42) rfl (l' := #[.val (.ref a1), .val (.int (1 : Int32)), .val (.int (2 : Int32)), .val (.int c2)]) rfl ?_
      by_cases hok2 : okb c2 = true
      · refine segY hx hby X819 hok2 ?_
        refine Owe.istoreN X819.here hx (hb hby d21_78) rfl (l' := #[.val (.ref a1), .val (.int (1 : Int32)), .val (.int (2 : Int32)), .val (.int c2)]) rfl ?_
        refine Owe.iinc X819.here hx (hb hby d21_79) rfl (l' := #[.val (.ref a1), .val (.int (1 : Int32)), .val (.int (3 : Int32)), .val (.int c2)]) rfl ?_
        refine Owe.goto X819.here hx (hb hby d21_82) (pc' := 25) (by decide) (by decide) ?_
        refine Owe.iloadN X819.here hx (hb hby d21_25) rfl ?_
        refine Owe.ifNo X819.here hx (hb hby d21_26) rfl ((if0 _ _).trans (feq (by decide)).1) ?_
        refine Owe.iloadN X819.here hx (hb hby d21_29) rfl ?_
        refine Owe.aloadN X819.here hx (hb hby d21_30) rfl rfl ?_
        refine Owe.virt X819 hx hZ (y := Y15) (z := Y15) hown (mvT hZ (wd hw 47)) (mvT hZ (wd hw 48)) (mvT hZ (wd hw 50)) (mvT hZ (wd hw 49)) (notFace_of_selects (args := #[]) (mvT hZ (wd hw 50))) (by decide) (backOf (W := 1) (rmsln0 l Z a0 hw [] a1 t1 kb1 (3 : Int32) ([(.int (la1 v0)), (.int (la1 v1)), (.int (la1 v2))]) G1 (3 : Int32) h0 n0 Z0 Fvalue_a1 V_t1 E_a1 Fcoder_a1 S_COMPACT_STRINGS cs0 Ol (by decide)) hZ (wd hw 51) (wd hw 4) (by decide) (by decide)) (by rw [hml]; rfl) (a := a1) (argsL := []) (rest := [(.int (3 : Int32))]) E_a1 (lenOf pd_14 rfl) rfl (nb rfl) (hb hby d21_31) rfl e819 (by decide) (by decide) fun T820 v820 L820 X820 hQ820 => ?_
        obtain ⟨rfl, Nq820, e820⟩ := hQ820
        have N820 := Fr.app N819 Nq820
        refine Owe.icmpYes X820.here hx (hb hby d21_34) rfl (flt (by decide)).2.1 (pc' := 85) (by decide) (by decide) ?_
        refine Owe.iloadN X820.here hx (hb hby d21_85) rfl ?_
        refine Owe.retN X820 hx hlk (t := .boolean) hrt (by simp) (hb hby d21_86) rfl fun fs hE => ?_
        refine hG _ _ ⟨_, _, rfl, ?_, frameMono hE (by decide) (by decide)⟩
        show Qirc3_0 Z a1 t1 kb1 fm G1 v0 v1 v2 c0 c1 c2 h0 n0 _ T820.heap _
        rw [e820]
        exact ⟨(by simp [rc, nb0, nb1, hok0, hok1, hok2]), N820, rfl⟩
      · refine segN hx hby X819 hok2 ?_
        refine Owe.istoreN X819.here hx (hb hby d21_78) rfl (l' := #[.val (.ref a1), .val (.int (0 : Int32)), .val (.int (2 : Int32)), .val (.int c2)]) rfl ?_
        refine Owe.iinc X819.here hx (hb hby d21_79) rfl (l' := #[.val (.ref a1), .val (.int (0 : Int32)), .val (.int (3 : Int32)), .val (.int c2)]) rfl ?_
        refine Owe.goto X819.here hx (hb hby d21_82) (pc' := 25) (by decide) (by decide) ?_
        refine Owe.iloadN X819.here hx (hb hby d21_25) rfl ?_
        refine Owe.ifYes X819.here hx (hb hby d21_26) rfl ((if0 _ _).trans (teq (by decide)).1) (pc' := 85) (by decide) (by decide) ?_
        refine Owe.iloadN X819.here hx (hb hby d21_85) rfl ?_
        refine Owe.retN X819 hx hlk (t := .boolean) hrt (by simp) (hb hby d21_86) rfl fun fs hE => ?_
        refine hG _ _ ⟨_, _, rfl, ?_, frameMono hE (by decide) (by decide)⟩
        show Qirc3_0 Z a1 t1 kb1 fm G1 v0 v1 v2 c0 c1 c2 h0 n0 _ T819.heap _
        rw [e819]
        exact ⟨(by simp [rc, nb0, nb1, hok0, hok1, hok2]), N819, rfl⟩
    · refine segN hx hby X817 hok1 ?_
      refine Owe.istoreN X817.here hx (hb hby d21_78) rfl (l' := #[.val (.ref a1), .val (.int (0 : Int32)), .val (.int (1 : Int32)), .val (.int c1)]) rfl ?_
      refine Owe.iinc X817.here hx (hb hby d21_79) rfl (l' := #[.val (.ref a1), .val (.int (0 : Int32)), .val (.int (2 : Int32)), .val (.int c1)]) rfl ?_
      refine Owe.goto X817.here hx (hb hby d21_82) (pc' := 25) (by decide) (by decide) ?_
      refine Owe.iloadN X817.here hx (hb hby d21_25) rfl ?_
      refine Owe.ifYes X817.here hx (hb hby d21_26) rfl ((if0 _ _).trans (teq (by decide)).1) (pc' := 85) (by decide) (by decide) ?_
      refine Owe.iloadN X817.here hx (hb hby d21_85) rfl ?_
      refine Owe.retN X817 hx hlk (t := .boolean) hrt (by simp) (hb hby d21_86) rfl fun fs hE => ?_
      refine hG _ _ ⟨_, _, rfl, ?_, frameMono hE (by decide) (by decide)⟩
      show Qirc3_0 Z a1 t1 kb1 fm G1 v0 v1 v2 c0 c1 c2 h0 n0 _ T817.heap _
      rw [e817]
      exact ⟨(by simp [rc, nb0, nb1, hok0, hok1]), N817, rfl⟩
  · refine segN hx hby X815 hok0 ?_
    refine Owe.istoreN X815.here hx (hb hby d21_78) rfl (l' := #[.val (.ref a1), .val (.int (0 : Int32)), .val (.int (0 : Int32)), .val (.int c0)]) rfl ?_
    refine Owe.iinc X815.here hx (hb hby d21_79) rfl (l' := #[.val (.ref a1), .val (.int (0 : Int32)), .val (.int (1 : Int32)), .val (.int c0)]) rfl ?_
    refine Owe.goto X815.here hx (hb hby d21_82) (pc' := 25) (by decide) (by decide) ?_
    refine Owe.iloadN X815.here hx (hb hby d21_25) rfl ?_
    refine Owe.ifYes X815.here hx (hb hby d21_26) rfl ((if0 _ _).trans (teq (by decide)).1) (pc' := 85) (by decide) (by decide) ?_
    refine Owe.iloadN X815.here hx (hb hby d21_85) rfl ?_
    refine Owe.retN X815 hx hlk (t := .boolean) hrt (by simp) (hb hby d21_86) rfl fun fs hE => ?_
    refine hG _ _ ⟨_, _, rfl, ?_, frameMono hE (by decide) (by decide)⟩
    show Qirc3_0 Z a1 t1 kb1 fm G1 v0 v1 v2 c0 c1 c2 h0 n0 _ T815.heap _
    rw [e815]
    exact ⟨(by simp [rc, nb0, nb1, hok0]), N815, rfl⟩
theorem ef_irc3_1 (m : MethodId) (x0 : Addr)  : entryFrame m #[(.ref x0)] 4 = mkF m 0 #[.val (.ref x0), .unset, .unset, .unset] [] := by first | (simp [entryFrame, mkF, argsToLocals, Value.category]; done) | rfl
def Qirc3_1 (Z : State) (a1 : Addr) (t1 : Addr) (kb1 : ClassId) (fm : Value) (G1 : Int32) (v0 : Int32) (v1 : Int32) (v2 : Int32) (c0 : Int32) (c1 : Int32) (c2 : Int32) (h0 : Heap) (n0 : Nat) (v : Option Value) (h : Heap) (L : List Loc) : Prop := v = some (.int (rc [c0, c1, c2])) ∧ Fr n0 L ∧ h = h0
set_option maxRecDepth 65536 in
set_option maxHeartbeats 40000000 in
theorem rmirc3_1 (l : Launch) (Z : State) (a0 : Array Value) (hw : Hw Z a0) (ws : List Jvm.Cond) (a1 : Addr) (t1 : Addr) (kb1 : ClassId) (fm : Value) (G1 : Int32) (v0 : Int32) (v1 : Int32) (v2 : Int32) (c0 : Int32) (c1 : Int32) (c2 : Int32) (h0 : Heap) (n0 : Nat) (Z0 : n0 ≤ h0.size) (Fvalue_a1 : Fld Z h0 a1 "java/lang/String" "value" "[B" (.ref t1)) (V_t1 : Arv Z h0 t1 kb1 .byte (6 : Int32) [(.int (lo1 v0)), (.int (hi1 v0)), (.int (lo1 v1)), (.int (hi1 v1)), (.int (lo1 v2)), (.int (hi1 v2))] (.int (0 : Int32))) (E_a1 : Exa Z h0 a1 "java/lang/String") (Fcoder_a1 : Fld Z h0 a1 "java/lang/String" "coder" "B" (.int (1 : Int32))) (S_COMPACT_STRINGS : Sta Z Z.heap "java/lang/String" "COMPACT_STRINGS" "Z" (.int G1)) (cs0 : ¬ (G1 = (0 : Int32))) (Ol : Old Z n0 h0) (S_SIOOBE_FORMATTER : Sta Z Z.heap "jdk/internal/util/Preconditions" "SIOOBE_FORMATTER" "Ljava/util/function/BiFunction;" fm) (ir_fm : (fm).isRef = true) (S__assertionsDisabled : Sta Z Z.heap "java/lang/StringUTF16" "$assertionsDisabled" "Z" (.int (1 : Int32))) (S_HI_BYTE_SHIFT : Sta Z Z.heap "java/lang/StringUTF16" "HI_BYTE_SHIFT" "I" (.int (0 : Int32))) (S_LO_BYTE_SHIFT : Sta Z Z.heap "java/lang/StringUTF16" "LO_BYTE_SHIFT" "I" (.int (8 : Int32))) (hch0 : getc (lo1 v0) (hi1 v0) = c0) (hch1 : getc (lo1 v1) (hi1 v1) = c1) (hch2 : getc (lo1 v2) (hi1 v2) = c2) (hnc0 : nar .char c0 = c0) (hnc1 : nar .char c1 = c1) (hnc2 : nar .char c2 = c2) :
    MF l Z Y21 prog_1_method_3_code 4 (some .boolean) ws ({ frames := 5, cells := 0, slots := 0, locals := 70 } : Room) #[(.ref a1)] h0 (Qirc3_1 Z a1 t1 kb1 fm G1 v0 v1 v2 c0 c1 c2 h0 n0) := by
  refine MF.of pn_4 (fun m => ef_irc3_1 m a1) ?_
  intro p e s m below meth c s₁ G X0 e0 hx hby hml hown hnm hlk hrt hZ hnd hG
  have N0 := Fr.nil n0
  refine Owe.aloadN X0.here hx (hb hby d21_0) rfl rfl ?_
  refine Owe.virt X0 hx hZ (y := Y14) (z := Y14) hown (mvT hZ (wd hw 27)) (mvT hZ (wd hw 28)) (mvT hZ (wd hw 30)) (mvT hZ (wd hw 29)) (notFace_of_selects (args := #[]) (mvT hZ (wd hw 30))) (by decide) (backOf (W := 0) (rmemp1 l Z a0 hw [] a1 t1 kb1 (6 : Int32) ([(.int (lo1 v0)), (.int (hi1 v0)), (.int (lo1 v1)), (.int (hi1 v1)), (.int (lo1 v2)), (.int (hi1 v2))]) h0 n0 Z0 E_a1 Fvalue_a1 V_t1 (by decide)) hZ (wd hw 31) (wd hw 4) (by decide) (by decide)) (by rw [hml]; rfl) (a := a1) (argsL := []) (rest := []) E_a1 (lenOf pd_13 rfl) rfl (nb rfl) (hb hby d21_1) rfl e0 (by decide) (by decide) fun T821 v821 L821 X821 hQ821 => ?_
  obtain ⟨rfl, Nq821, e821⟩ := hQ821
  have N821 := Fr.app N0 Nq821
  refine Owe.ifNo X821.here hx (hb hby d21_4) rfl ((if0 _ _).trans (teq (by decide)).2) ?_
  refine Owe.aloadN X821.here hx (hb hby d21_7) rfl rfl ?_
  refine Owe.virt X821 hx hZ (y := Y15) (z := Y15) hown (mvT hZ (wd hw 47)) (mvT hZ (wd hw 48)) (mvT hZ (wd hw 50)) (mvT hZ (wd hw 49)) (notFace_of_selects (args := #[]) (mvT hZ (wd hw 50))) (by decide) (backOf (W := 0) (rmsln1 l Z a0 hw [] a1 t1 kb1 (6 : Int32) ([(.int (lo1 v0)), (.int (hi1 v0)), (.int (lo1 v1)), (.int (hi1 v1)), (.int (lo1 v2)), (.int (hi1 v2))]) G1 (3 : Int32) h0 n0 Z0 Fvalue_a1 V_t1 E_a1 Fcoder_a1 S_COMPACT_STRINGS cs0 Ol (by decide)) hZ (wd hw 51) (wd hw 4) (by decide) (by decide)) (by rw [hml]; rfl) (a := a1) (argsL := []) (rest := []) E_a1 (lenOf pd_14 rfl) rfl (nb rfl) (hb hby d21_8) rfl e821 (by decide) (by decide) fun T822 v822 L822 X822 hQ822 => ?_
  obtain ⟨rfl, Nq822, e822⟩ := hQ822
  have N822 := Fr.app N821 Nq822
  refine Owe.sipush X822.here hx (hb hby d21_11) (w := (255 : Int32)) rfl ?_
  refine Owe.icmpNo X822.here hx (hb hby d21_14) rfl (flt (by decide)).2.2.1 ?_
  refine Owe.iconst X822.here hx (hb hby d21_17) (w := (1 : Int32)) rfl ?_
  refine Owe.goto X822.here hx (hb hby d21_18) (pc' := 22) (by decide) (by decide) ?_
  refine Owe.istoreN X822.here hx (hb hby d21_22) rfl (l' := #[.val (.ref a1), .val (.int (1 : Int32)), .unset, .unset]) rfl ?_
  refine Owe.iconst X822.here hx (hb hby d21_23) (w := (0 : Int32)) rfl ?_
  refine Owe.istoreN X822.here hx (hb hby d21_24) rfl (l' := #[.val (.ref a1), .val (.int (1 : Int32)), .val (.int (0 : Int32)), .unset]) rfl ?_
  refine Owe.iloadN X822.here hx (hb hby d21_25) rfl ?_
  refine Owe.ifNo X822.here hx (hb hby d21_26) rfl ((if0 _ _).trans (feq (by decide)).1) ?_
  refine Owe.iloadN X822.here hx (hb hby d21_29) rfl ?_
  refine Owe.aloadN X822.here hx (hb hby d21_30) rfl rfl ?_
  refine Owe.virt X822 hx hZ (y := Y15) (z := Y15) hown (mvT hZ (wd hw 47)) (mvT hZ (wd hw 48)) (mvT hZ (wd hw 50)) (mvT hZ (wd hw 49)) (notFace_of_selects (args := #[]) (mvT hZ (wd hw 50))) (by decide) (backOf (W := 1) (rmsln1 l Z a0 hw [] a1 t1 kb1 (6 : Int32) ([(.int (lo1 v0)), (.int (hi1 v0)), (.int (lo1 v1)), (.int (hi1 v1)), (.int (lo1 v2)), (.int (hi1 v2))]) G1 (3 : Int32) h0 n0 Z0 Fvalue_a1 V_t1 E_a1 Fcoder_a1 S_COMPACT_STRINGS cs0 Ol (by decide)) hZ (wd hw 51) (wd hw 4) (by decide) (by decide)) (by rw [hml]; rfl) (a := a1) (argsL := []) (rest := [(.int (0 : Int32))]) E_a1 (lenOf pd_14 rfl) rfl (nb rfl) (hb hby d21_31) rfl e822 (by decide) (by decide) fun T823 v823 L823 X823 hQ823 => ?_
  obtain ⟨rfl, Nq823, e823⟩ := hQ823
  have N823 := Fr.app N822 Nq823
  refine Owe.icmpNo X823.here hx (hb hby d21_34) rfl (tlt (by decide)).2.1 ?_
  refine Owe.aloadN X823.here hx (hb hby d21_37) rfl rfl ?_
  refine Owe.iloadN X823.here hx (hb hby d21_38) rfl ?_
  refine Owe.virt X823 hx hZ (y := Y20) (z := Y20) hown (mvT hZ (wd hw 57)) (mvT hZ (wd hw 58)) (mvT hZ (wd hw 60)) (mvT hZ (wd hw 59)) (notFace_of_selects (args := #[]) (mvT hZ (wd hw 60))) (by decide) (backOf (W := 0) (rmsch1 l Z a0 hw [] a1 t1 kb1 fm G1 c0 (0 : Int32) (lo1 v0) (hi1 v0) (6 : Int32) ([(.int (lo1 v0)), (.int (hi1 v0)), (.int (lo1 v1)), (.int (hi1 v1)), (.int (lo1 v2)), (.int (hi1 v2))]) h0 n0 Z0 Fvalue_a1 V_t1 E_a1 Fcoder_a1 S_COMPACT_STRINGS cs0 Ol S_SIOOBE_FORMATTER ir_fm S__assertionsDisabled S_HI_BYTE_SHIFT S_LO_BYTE_SHIFT (by decide) rfl (by decide) rfl hch0 hnc0 (by decide)) hZ (wd hw 61) (wd hw 4) (by decide) (by decide)) (by rw [hml]; rfl) (a := a1) (argsL := [(.int (0 : Int32))]) (rest := []) E_a1 (lenOf pd_15 rfl) rfl (nb rfl) (hb hby d21_39) rfl e823 (by decide) (by decide) fun T824 v824 L824 X824 hQ824 => ?_
  obtain ⟨rfl, Nq824, e824⟩ := hQ824
  have N824 := Fr.app N823 Nq824
  refine Owe.istoreN X824.here hx (hb hby d21_42) rfl (l' := #[.val (.ref a1), .val (.int (1 : Int32)), .val (.int (0 : Int32)), .val (.int c0)]) rfl ?_
  by_cases hok0 : okb c0 = true
  · refine segY hx hby X824 hok0 ?_
    refine Owe.istoreN X824.here hx (hb hby d21_78) rfl (l' := #[.val (.ref a1), .val (.int (1 : Int32)), .val (.int (0 : Int32)), .val (.int c0)]) rfl ?_
    refine Owe.iinc X824.here hx (hb hby d21_79) rfl (l' := #[.val (.ref a1), .val (.int (1 : Int32)), .val (.int (1 : Int32)), .val (.int c0)]) rfl ?_
    refine Owe.goto X824.here hx (hb hby d21_82) (pc' := 25) (by decide) (by decide) ?_
    refine Owe.iloadN X824.here hx (hb hby d21_25) rfl ?_
    refine Owe.ifNo X824.here hx (hb hby d21_26) rfl ((if0 _ _).trans (feq (by decide)).1) ?_
    refine Owe.iloadN X824.here hx (hb hby d21_29) rfl ?_
    refine Owe.aloadN X824.here hx (hb hby d21_30) rfl rfl ?_
    refine Owe.virt X824 hx hZ (y := Y15) (z := Y15) hown (mvT hZ (wd hw 47)) (mvT hZ (wd hw 48)) (mvT hZ (wd hw 50)) (mvT hZ (wd hw 49)) (notFace_of_selects (args := #[]) (mvT hZ (wd hw 50))) (by decide) (backOf (W := 1) (rmsln1 l Z a0 hw [] a1 t1 kb1 (6 : Int32) ([(.int (lo1 v0)), (.int (hi1 v0)), (.int (lo1 v1)), (.int (hi1 v1)), (.int (lo1 v2)), (.int (hi1 v2))]) G1 (3 : Int32) h0 n0 Z0 Fvalue_a1 V_t1 E_a1 Fcoder_a1 S_COMPACT_STRINGS cs0 Ol (by decide)) hZ (wd hw 51) (wd hw 4) (by decide) (by decide)) (by rw [hml]; rfl) (a := a1) (argsL := []) (rest := [(.int (1 : Int32))]) E_a1 (lenOf pd_14 rfl) rfl (nb rfl) (hb hby d21_31) rfl e824 (by decide) (by decide) fun T825 v825 L825 X825 hQ825 => ?_
    obtain ⟨rfl, Nq825, e825⟩ := hQ825
    have N825 := Fr.app N824 Nq825
    refine Owe.icmpNo X825.here hx (hb hby d21_34) rfl (tlt (by decide)).2.1 ?_
    refine Owe.aloadN X825.here hx (hb hby d21_37) rfl rfl ?_
    refine Owe.iloadN X825.here hx (hb hby d21_38) rfl ?_
    refine Owe.virt X825 hx hZ (y := Y20) (z := Y20) hown (mvT hZ (wd hw 57)) (mvT hZ (wd hw 58)) (mvT hZ (wd hw 60)) (mvT hZ (wd hw 59)) (notFace_of_selects (args := #[]) (mvT hZ (wd hw 60))) (by decide) (backOf (W := 0) (rmsch1 l Z a0 hw [] a1 t1 kb1 fm G1 c1 (1 : Int32) (lo1 v1) (hi1 v1) (6 : Int32) ([(.int (lo1 v0)), (.int (hi1 v0)), (.int (lo1 v1)), (.int (hi1 v1)), (.int (lo1 v2)), (.int (hi1 v2))]) h0 n0 Z0 Fvalue_a1 V_t1 E_a1 Fcoder_a1 S_COMPACT_STRINGS cs0 Ol S_SIOOBE_FORMATTER ir_fm S__assertionsDisabled S_HI_BYTE_SHIFT S_LO_BYTE_SHIFT (by decide) rfl (by decide) rfl hch1 hnc1 (by decide)) hZ (wd hw 61) (wd hw 4) (by decide) (by decide)) (by rw [hml]; rfl) (a := a1) (argsL := [(.int (1 : Int32))]) (rest := []) E_a1 (lenOf pd_15 rfl) rfl (nb rfl) (hb hby d21_39) rfl e825 (by decide) (by decide) fun T826 v826 L826 X826 hQ826 => ?_
    obtain ⟨rfl, Nq826, e826⟩ := hQ826
    have N826 := Fr.app N825 Nq826
    refine Owe.istoreN X826.here hx (hb hby d21_42) rfl (l' := #[.val (.ref a1), .val (.int (1 : Int32)), .val (.int (1 : Int32)), .val (.int c1)]) rfl ?_
    by_cases hok1 : okb c1 = true
    · refine segY hx hby X826 hok1 ?_
      refine Owe.istoreN X826.here hx (hb hby d21_78) rfl (l' := #[.val (.ref a1), .val (.int (1 : Int32)), .val (.int (1 : Int32)), .val (.int c1)]) rfl ?_
      refine Owe.iinc X826.here hx (hb hby d21_79) rfl (l' := #[.val (.ref a1), .val (.int (1 : Int32)), .val (.int (2 : Int32)), .val (.int c1)]) rfl ?_
      refine Owe.goto X826.here hx (hb hby d21_82) (pc' := 25) (by decide) (by decide) ?_
      refine Owe.iloadN X826.here hx (hb hby d21_25) rfl ?_
      refine Owe.ifNo X826.here hx (hb hby d21_26) rfl ((if0 _ _).trans (feq (by decide)).1) ?_
      refine Owe.iloadN X826.here hx (hb hby d21_29) rfl ?_
      refine Owe.aloadN X826.here hx (hb hby d21_30) rfl rfl ?_
      refine Owe.virt X826 hx hZ (y := Y15) (z := Y15) hown (mvT hZ (wd hw 47)) (mvT hZ (wd hw 48)) (mvT hZ (wd hw 50)) (mvT hZ (wd hw 49)) (notFace_of_selects (args := #[]) (mvT hZ (wd hw 50))) (by decide) (backOf (W := 1) (rmsln1 l Z a0 hw [] a1 t1 kb1 (6 : Int32) ([(.int (lo1 v0)), (.int (hi1 v0)), (.int (lo1 v1)), (.int (hi1 v1)), (.int (lo1 v2)), (.int (hi1 v2))]) G1 (3 : Int32) h0 n0 Z0 Fvalue_a1 V_t1 E_a1 Fcoder_a1 S_COMPACT_STRINGS cs0 Ol (by decide)) hZ (wd hw 51) (wd hw 4) (by decide) (by decide)) (by rw [hml]; rfl) (a := a1) (argsL := []) (rest := [(.int (2 : Int32))]) E_a1 (lenOf pd_14 rfl) rfl (nb rfl) (hb hby d21_31) rfl e826 (by decide) (by decide) fun T827 v827 L827 X827 hQ827 => ?_
      obtain ⟨rfl, Nq827, e827⟩ := hQ827
      have N827 := Fr.app N826 Nq827
      refine Owe.icmpNo X827.here hx (hb hby d21_34) rfl (tlt (by decide)).2.1 ?_
      refine Owe.aloadN X827.here hx (hb hby d21_37) rfl rfl ?_
      refine Owe.iloadN X827.here hx (hb hby d21_38) rfl ?_
      refine Owe.virt X827 hx hZ (y := Y20) (z := Y20) hown (mvT hZ (wd hw 57)) (mvT hZ (wd hw 58)) (mvT hZ (wd hw 60)) (mvT hZ (wd hw 59)) (notFace_of_selects (args := #[]) (mvT hZ (wd hw 60))) (by decide) (backOf (W := 0) (rmsch1 l Z a0 hw [] a1 t1 kb1 fm G1 c2 (2 : Int32) (lo1 v2) (hi1 v2) (6 : Int32) ([(.int (lo1 v0)), (.int (hi1 v0)), (.int (lo1 v1)), (.int (hi1 v1)), (.int (lo1 v2)), (.int (hi1 v2))]) h0 n0 Z0 Fvalue_a1 V_t1 E_a1 Fcoder_a1 S_COMPACT_STRINGS cs0 Ol S_SIOOBE_FORMATTER ir_fm S__assertionsDisabled S_HI_BYTE_SHIFT S_LO_BYTE_SHIFT (by decide) rfl (by decide) rfl hch2 hnc2 (by decide)) hZ (wd hw 61) (wd hw 4) (by decide) (by decide)) (by rw [hml]; rfl) (a := a1) (argsL := [(.int (2 : Int32))]) (rest := []) E_a1 (lenOf pd_15 rfl) rfl (nb rfl) (hb hby d21_39) rfl e827 (by decide) (by decide) fun T828 v828 L828 X828 hQ828 => ?_
      obtain ⟨rfl, Nq828, e828⟩ := hQ828
      have N828 := Fr.app N827 Nq828
      refine Owe.istoreN X828.here hx (hb hby d21_42) rfl (l' := #[.val (.ref a1), .val (.int (1 : Int32)), .val (.int (2 : Int32)), .val (.int c2)]) rfl ?_
      by_cases hok2 : okb c2 = true
      · refine segY hx hby X828 hok2 ?_
        refine Owe.istoreN X828.here hx (hb hby d21_78) rfl (l' := #[.val (.ref a1), .val (.int (1 : Int32)), .val (.int (2 : Int32)), .val (.int c2)]) rfl ?_
        refine Owe.iinc X828.here hx (hb hby d21_79) rfl (l' := #[.val (.ref a1), .val (.int (1 : Int32)), .val (.int (3 : Int32)), .val (.int c2)]) rfl ?_
        refine Owe.goto X828.here hx (hb hby d21_82) (pc' := 25) (by decide) (by decide) ?_
        refine Owe.iloadN X828.here hx (hb hby d21_25) rfl ?_
        refine Owe.ifNo X828.here hx (hb hby d21_26) rfl ((if0 _ _).trans (feq (by decide)).1) ?_
        refine Owe.iloadN X828.here hx (hb hby d21_29) rfl ?_
        refine Owe.aloadN X828.here hx (hb hby d21_30) rfl rfl ?_
        refine Owe.virt X828 hx hZ (y := Y15) (z := Y15) hown (mvT hZ (wd hw 47)) (mvT hZ (wd hw 48)) (mvT hZ (wd hw 50)) (mvT hZ (wd hw 49)) (notFace_of_selects (args := #[]) (mvT hZ (wd hw 50))) (by decide) (backOf (W := 1) (rmsln1 l Z a0 hw [] a1 t1 kb1 (6 : Int32) ([(.int (lo1 v0)), (.int (hi1 v0)), (.int (lo1 v1)), (.int (hi1 v1)), (.int (lo1 v2)), (.int (hi1 v2))]) G1 (3 : Int32) h0 n0 Z0 Fvalue_a1 V_t1 E_a1 Fcoder_a1 S_COMPACT_STRINGS cs0 Ol (by decide)) hZ (wd hw 51) (wd hw 4) (by decide) (by decide)) (by rw [hml]; rfl) (a := a1) (argsL := []) (rest := [(.int (3 : Int32))]) E_a1 (lenOf pd_14 rfl) rfl (nb rfl) (hb hby d21_31) rfl e828 (by decide) (by decide) fun T829 v829 L829 X829 hQ829 => ?_
        obtain ⟨rfl, Nq829, e829⟩ := hQ829
        have N829 := Fr.app N828 Nq829
        refine Owe.icmpYes X829.here hx (hb hby d21_34) rfl (flt (by decide)).2.1 (pc' := 85) (by decide) (by decide) ?_
        refine Owe.iloadN X829.here hx (hb hby d21_85) rfl ?_
        refine Owe.retN X829 hx hlk (t := .boolean) hrt (by simp) (hb hby d21_86) rfl fun fs hE => ?_
        refine hG _ _ ⟨_, _, rfl, ?_, frameMono hE (by decide) (by decide)⟩
        show Qirc3_1 Z a1 t1 kb1 fm G1 v0 v1 v2 c0 c1 c2 h0 n0 _ T829.heap _
        rw [e829]
        exact ⟨(by simp [rc, nb0, nb1, hok0, hok1, hok2]), N829, rfl⟩
      · refine segN hx hby X828 hok2 ?_
        refine Owe.istoreN X828.here hx (hb hby d21_78) rfl (l' := #[.val (.ref a1), .val (.int (0 : Int32)), .val (.int (2 : Int32)), .val (.int c2)]) rfl ?_
        refine Owe.iinc X828.here hx (hb hby d21_79) rfl (l' := #[.val (.ref a1), .val (.int (0 : Int32)), .val (.int (3 : Int32)), .val (.int c2)]) rfl ?_
        refine Owe.goto X828.here hx (hb hby d21_82) (pc' := 25) (by decide) (by decide) ?_
        refine Owe.iloadN X828.here hx (hb hby d21_25) rfl ?_
        refine Owe.ifYes X828.here hx (hb hby d21_26) rfl ((if0 _ _).trans (teq (by decide)).1) (pc' := 85) (by decide) (by decide) ?_
        refine Owe.iloadN X828.here hx (hb hby d21_85) rfl ?_
        refine Owe.retN X828 hx hlk (t := .boolean) hrt (by simp) (hb hby d21_86) rfl fun fs hE => ?_
        refine hG _ _ ⟨_, _, rfl, ?_, frameMono hE (by decide) (by decide)⟩
        show Qirc3_1 Z a1 t1 kb1 fm G1 v0 v1 v2 c0 c1 c2 h0 n0 _ T828.heap _
        rw [e828]
        exact ⟨(by simp [rc, nb0, nb1, hok0, hok1, hok2]), N828, rfl⟩
    · refine segN hx hby X826 hok1 ?_
      refine Owe.istoreN X826.here hx (hb hby d21_78) rfl (l' := #[.val (.ref a1), .val (.int (0 : Int32)), .val (.int (1 : Int32)), .val (.int c1)]) rfl ?_
      refine Owe.iinc X826.here hx (hb hby d21_79) rfl (l' := #[.val (.ref a1), .val (.int (0 : Int32)), .val (.int (2 : Int32)), .val (.int c1)]) rfl ?_
      refine Owe.goto X826.here hx (hb hby d21_82) (pc' := 25) (by decide) (by decide) ?_
      refine Owe.iloadN X826.here hx (hb hby d21_25) rfl ?_
      refine Owe.ifYes X826.here hx (hb hby d21_26) rfl ((if0 _ _).trans (teq (by decide)).1) (pc' := 85) (by decide) (by decide) ?_
      refine Owe.iloadN X826.here hx (hb hby d21_85) rfl ?_
      refine Owe.retN X826 hx hlk (t := .boolean) hrt (by simp) (hb hby d21_86) rfl fun fs hE => ?_
      refine hG _ _ ⟨_, _, rfl, ?_, frameMono hE (by decide) (by decide)⟩
      show Qirc3_1 Z a1 t1 kb1 fm G1 v0 v1 v2 c0 c1 c2 h0 n0 _ T826.heap _
      rw [e826]
      exact ⟨(by simp [rc, nb0, nb1, hok0, hok1]), N826, rfl⟩
  · refine segN hx hby X824 hok0 ?_
    refine Owe.istoreN X824.here hx (hb hby d21_78) rfl (l' := #[.val (.ref a1), .val (.int (0 : Int32)), .val (.int (0 : Int32)), .val (.int c0)]) rfl ?_
    refine Owe.iinc X824.here hx (hb hby d21_79) rfl (l' := #[.val (.ref a1), .val (.int (0 : Int32)), .val (.int (1 : Int32)), .val (.int c0)]) rfl ?_
    refine Owe.goto X824.here hx (hb hby d21_82) (pc' := 25) (by decide) (by decide) ?_
    refine Owe.iloadN X824.here hx (hb hby d21_25) rfl ?_
    refine Owe.ifYes X824.here hx (hb hby d21_26) rfl ((if0 _ _).trans (teq (by decide)).1) (pc' := 85) (by decide) (by decide) ?_
    refine Owe.iloadN X824.here hx (hb hby d21_85) rfl ?_
    refine Owe.retN X824 hx hlk (t := .boolean) hrt (by simp) (hb hby d21_86) rfl fun fs hE => ?_
    refine hG _ _ ⟨_, _, rfl, ?_, frameMono hE (by decide) (by decide)⟩
    show Qirc3_1 Z a1 t1 kb1 fm G1 v0 v1 v2 c0 c1 c2 h0 n0 _ T824.heap _
    rw [e824]
    exact ⟨(by simp [rc, nb0, nb1, hok0]), N824, rfl⟩
theorem ef_irc4_0 (m : MethodId) (x0 : Addr)  : entryFrame m #[(.ref x0)] 4 = mkF m 0 #[.val (.ref x0), .unset, .unset, .unset] [] := by first | (simp [entryFrame, mkF, argsToLocals, Value.category]; done) | rfl
def Qirc4_0 (Z : State) (a1 : Addr) (t1 : Addr) (kb1 : ClassId) (fm : Value) (G1 : Int32) (v0 : Int32) (v1 : Int32) (v2 : Int32) (v3 : Int32) (c0 : Int32) (c1 : Int32) (c2 : Int32) (c3 : Int32) (h0 : Heap) (n0 : Nat) (v : Option Value) (h : Heap) (L : List Loc) : Prop := v = some (.int (rc [c0, c1, c2, c3])) ∧ Fr n0 L ∧ h = h0
set_option maxRecDepth 65536 in
set_option maxHeartbeats 40000000 in
theorem rmirc4_0 (l : Launch) (Z : State) (a0 : Array Value) (hw : Hw Z a0) (ws : List Jvm.Cond) (a1 : Addr) (t1 : Addr) (kb1 : ClassId) (fm : Value) (G1 : Int32) (v0 : Int32) (v1 : Int32) (v2 : Int32) (v3 : Int32) (c0 : Int32) (c1 : Int32) (c2 : Int32) (c3 : Int32) (h0 : Heap) (n0 : Nat) (Z0 : n0 ≤ h0.size) (Fvalue_a1 : Fld Z h0 a1 "java/lang/String" "value" "[B" (.ref t1)) (V_t1 : Arv Z h0 t1 kb1 .byte (4 : Int32) [(.int (la1 v0)), (.int (la1 v1)), (.int (la1 v2)), (.int (la1 v3))] (.int (0 : Int32))) (E_a1 : Exa Z h0 a1 "java/lang/String") (Fcoder_a1 : Fld Z h0 a1 "java/lang/String" "coder" "B" (.int (0 : Int32))) (S_COMPACT_STRINGS : Sta Z Z.heap "java/lang/String" "COMPACT_STRINGS" "Z" (.int G1)) (cs0 : ¬ (G1 = (0 : Int32))) (Ol : Old Z n0 h0) (S_SIOOBE_FORMATTER : Sta Z Z.heap "jdk/internal/util/Preconditions" "SIOOBE_FORMATTER" "Ljava/util/function/BiFunction;" fm) (ir_fm : (fm).isRef = true) (S__assertionsDisabled : Sta Z Z.heap "java/lang/StringUTF16" "$assertionsDisabled" "Z" (.int (1 : Int32))) (S_HI_BYTE_SHIFT : Sta Z Z.heap "java/lang/StringUTF16" "HI_BYTE_SHIFT" "I" (.int (0 : Int32))) (S_LO_BYTE_SHIFT : Sta Z Z.heap "java/lang/StringUTF16" "LO_BYTE_SHIFT" "I" (.int (8 : Int32))) (hch0 : own_dl v0 = c0) (hch1 : own_dl v1 = c1) (hch2 : own_dl v2 = c2) (hch3 : own_dl v3 = c3) (hnc0 : nar .char c0 = c0) (hnc1 : nar .char c1 = c1) (hnc2 : nar .char c2 = c2) (hnc3 : nar .char c3 = c3) :
    MF l Z Y21 prog_1_method_3_code 4 (some .boolean) ws ({ frames := 5, cells := 0, slots := 0, locals := 70 } : Room) #[(.ref a1)] h0 (Qirc4_0 Z a1 t1 kb1 fm G1 v0 v1 v2 v3 c0 c1 c2 c3 h0 n0) := by
  refine MF.of pn_4 (fun m => ef_irc4_0 m a1) ?_
  intro p e s m below meth c s₁ G X0 e0 hx hby hml hown hnm hlk hrt hZ hnd hG
  have N0 := Fr.nil n0
  refine Owe.aloadN X0.here hx (hb hby d21_0) rfl rfl ?_
  refine Owe.virt X0 hx hZ (y := Y14) (z := Y14) hown (mvT hZ (wd hw 27)) (mvT hZ (wd hw 28)) (mvT hZ (wd hw 30)) (mvT hZ (wd hw 29)) (notFace_of_selects (args := #[]) (mvT hZ (wd hw 30))) (by decide) (backOf (W := 0) (rmemp1 l Z a0 hw [] a1 t1 kb1 (4 : Int32) ([(.int (la1 v0)), (.int (la1 v1)), (.int (la1 v2)), (.int (la1 v3))]) h0 n0 Z0 E_a1 Fvalue_a1 V_t1 (by decide)) hZ (wd hw 31) (wd hw 4) (by decide) (by decide)) (by rw [hml]; rfl) (a := a1) (argsL := []) (rest := []) E_a1 (lenOf pd_13 rfl) rfl (nb rfl) (hb hby d21_1) rfl e0 (by decide) (by decide) fun T830 v830 L830 X830 hQ830 => ?_
  obtain ⟨rfl, Nq830, e830⟩ := hQ830
  have N830 := Fr.app N0 Nq830
  refine Owe.ifNo X830.here hx (hb hby d21_4) rfl ((if0 _ _).trans (teq (by decide)).2) ?_
  refine Owe.aloadN X830.here hx (hb hby d21_7) rfl rfl ?_
  refine Owe.virt X830 hx hZ (y := Y15) (z := Y15) hown (mvT hZ (wd hw 47)) (mvT hZ (wd hw 48)) (mvT hZ (wd hw 50)) (mvT hZ (wd hw 49)) (notFace_of_selects (args := #[]) (mvT hZ (wd hw 50))) (by decide) (backOf (W := 0) (rmsln0 l Z a0 hw [] a1 t1 kb1 (4 : Int32) ([(.int (la1 v0)), (.int (la1 v1)), (.int (la1 v2)), (.int (la1 v3))]) G1 (4 : Int32) h0 n0 Z0 Fvalue_a1 V_t1 E_a1 Fcoder_a1 S_COMPACT_STRINGS cs0 Ol (by decide)) hZ (wd hw 51) (wd hw 4) (by decide) (by decide)) (by rw [hml]; rfl) (a := a1) (argsL := []) (rest := []) E_a1 (lenOf pd_14 rfl) rfl (nb rfl) (hb hby d21_8) rfl e830 (by decide) (by decide) fun T831 v831 L831 X831 hQ831 => ?_
  obtain ⟨rfl, Nq831, e831⟩ := hQ831
  have N831 := Fr.app N830 Nq831
  refine Owe.sipush X831.here hx (hb hby d21_11) (w := (255 : Int32)) rfl ?_
  refine Owe.icmpNo X831.here hx (hb hby d21_14) rfl (flt (by decide)).2.2.1 ?_
  refine Owe.iconst X831.here hx (hb hby d21_17) (w := (1 : Int32)) rfl ?_
  refine Owe.goto X831.here hx (hb hby d21_18) (pc' := 22) (by decide) (by decide) ?_
  refine Owe.istoreN X831.here hx (hb hby d21_22) rfl (l' := #[.val (.ref a1), .val (.int (1 : Int32)), .unset, .unset]) rfl ?_
  refine Owe.iconst X831.here hx (hb hby d21_23) (w := (0 : Int32)) rfl ?_
  refine Owe.istoreN X831.here hx (hb hby d21_24) rfl (l' := #[.val (.ref a1), .val (.int (1 : Int32)), .val (.int (0 : Int32)), .unset]) rfl ?_
  refine Owe.iloadN X831.here hx (hb hby d21_25) rfl ?_
  refine Owe.ifNo X831.here hx (hb hby d21_26) rfl ((if0 _ _).trans (feq (by decide)).1) ?_
  refine Owe.iloadN X831.here hx (hb hby d21_29) rfl ?_
  refine Owe.aloadN X831.here hx (hb hby d21_30) rfl rfl ?_
  refine Owe.virt X831 hx hZ (y := Y15) (z := Y15) hown (mvT hZ (wd hw 47)) (mvT hZ (wd hw 48)) (mvT hZ (wd hw 50)) (mvT hZ (wd hw 49)) (notFace_of_selects (args := #[]) (mvT hZ (wd hw 50))) (by decide) (backOf (W := 1) (rmsln0 l Z a0 hw [] a1 t1 kb1 (4 : Int32) ([(.int (la1 v0)), (.int (la1 v1)), (.int (la1 v2)), (.int (la1 v3))]) G1 (4 : Int32) h0 n0 Z0 Fvalue_a1 V_t1 E_a1 Fcoder_a1 S_COMPACT_STRINGS cs0 Ol (by decide)) hZ (wd hw 51) (wd hw 4) (by decide) (by decide)) (by rw [hml]; rfl) (a := a1) (argsL := []) (rest := [(.int (0 : Int32))]) E_a1 (lenOf pd_14 rfl) rfl (nb rfl) (hb hby d21_31) rfl e831 (by decide) (by decide) fun T832 v832 L832 X832 hQ832 => ?_
  obtain ⟨rfl, Nq832, e832⟩ := hQ832
  have N832 := Fr.app N831 Nq832
  refine Owe.icmpNo X832.here hx (hb hby d21_34) rfl (tlt (by decide)).2.1 ?_
  refine Owe.aloadN X832.here hx (hb hby d21_37) rfl rfl ?_
  refine Owe.iloadN X832.here hx (hb hby d21_38) rfl ?_
  refine Owe.virt X832 hx hZ (y := Y20) (z := Y20) hown (mvT hZ (wd hw 57)) (mvT hZ (wd hw 58)) (mvT hZ (wd hw 60)) (mvT hZ (wd hw 59)) (notFace_of_selects (args := #[]) (mvT hZ (wd hw 60))) (by decide) (backOf (W := 0) (rmsch0 l Z a0 hw [] a1 t1 kb1 fm G1 c0 (0 : Int32) (la1 v0) (4 : Int32) ([(.int (la1 v0)), (.int (la1 v1)), (.int (la1 v2)), (.int (la1 v3))]) h0 n0 Z0 Fvalue_a1 V_t1 E_a1 Fcoder_a1 S_COMPACT_STRINGS cs0 Ol S_SIOOBE_FORMATTER ir_fm S__assertionsDisabled S_HI_BYTE_SHIFT S_LO_BYTE_SHIFT (by decide) rfl hch0 hnc0) hZ (wd hw 61) (wd hw 4) (by decide) (by decide)) (by rw [hml]; rfl) (a := a1) (argsL := [(.int (0 : Int32))]) (rest := []) E_a1 (lenOf pd_15 rfl) rfl (nb rfl) (hb hby d21_39) rfl e832 (by decide) (by decide) fun T833 v833 L833 X833 hQ833 => ?_
  obtain ⟨rfl, Nq833, e833⟩ := hQ833
  have N833 := Fr.app N832 Nq833
  refine Owe.istoreN X833.here hx (hb hby d21_42) rfl (l' := #[.val (.ref a1), .val (.int (1 : Int32)), .val (.int (0 : Int32)), .val (.int c0)]) rfl ?_
  by_cases hok0 : okb c0 = true
  · refine segY hx hby X833 hok0 ?_
    refine Owe.istoreN X833.here hx (hb hby d21_78) rfl (l' := #[.val (.ref a1), .val (.int (1 : Int32)), .val (.int (0 : Int32)), .val (.int c0)]) rfl ?_
    refine Owe.iinc X833.here hx (hb hby d21_79) rfl (l' := #[.val (.ref a1), .val (.int (1 : Int32)), .val (.int (1 : Int32)), .val (.int c0)]) rfl ?_
    refine Owe.goto X833.here hx (hb hby d21_82) (pc' := 25) (by decide) (by decide) ?_
    refine Owe.iloadN X833.here hx (hb hby d21_25) rfl ?_
    refine Owe.ifNo X833.here hx (hb hby d21_26) rfl ((if0 _ _).trans (feq (by decide)).1) ?_
    refine Owe.iloadN X833.here hx (hb hby d21_29) rfl ?_
    refine Owe.aloadN X833.here hx (hb hby d21_30) rfl rfl ?_
    refine Owe.virt X833 hx hZ (y := Y15) (z := Y15) hown (mvT hZ (wd hw 47)) (mvT hZ (wd hw 48)) (mvT hZ (wd hw 50)) (mvT hZ (wd hw 49)) (notFace_of_selects (args := #[]) (mvT hZ (wd hw 50))) (by decide) (backOf (W := 1) (rmsln0 l Z a0 hw [] a1 t1 kb1 (4 : Int32) ([(.int (la1 v0)), (.int (la1 v1)), (.int (la1 v2)), (.int (la1 v3))]) G1 (4 : Int32) h0 n0 Z0 Fvalue_a1 V_t1 E_a1 Fcoder_a1 S_COMPACT_STRINGS cs0 Ol (by decide)) hZ (wd hw 51) (wd hw 4) (by decide) (by decide)) (by rw [hml]; rfl) (a := a1) (argsL := []) (rest := [(.int (1 : Int32))]) E_a1 (lenOf pd_14 rfl) rfl (nb rfl) (hb hby d21_31) rfl e833 (by decide) (by decide) fun T834 v834 L834 X834 hQ834 => ?_
    obtain ⟨rfl, Nq834, e834⟩ := hQ834
    have N834 := Fr.app N833 Nq834
    refine Owe.icmpNo X834.here hx (hb hby d21_34) rfl (tlt (by decide)).2.1 ?_
    refine Owe.aloadN X834.here hx (hb hby d21_37) rfl rfl ?_
    refine Owe.iloadN X834.here hx (hb hby d21_38) rfl ?_
    refine Owe.virt X834 hx hZ (y := Y20) (z := Y20) hown (mvT hZ (wd hw 57)) (mvT hZ (wd hw 58)) (mvT hZ (wd hw 60)) (mvT hZ (wd hw 59)) (notFace_of_selects (args := #[]) (mvT hZ (wd hw 60))) (by decide) (backOf (W := 0) (rmsch0 l Z a0 hw [] a1 t1 kb1 fm G1 c1 (1 : Int32) (la1 v1) (4 : Int32) ([(.int (la1 v0)), (.int (la1 v1)), (.int (la1 v2)), (.int (la1 v3))]) h0 n0 Z0 Fvalue_a1 V_t1 E_a1 Fcoder_a1 S_COMPACT_STRINGS cs0 Ol S_SIOOBE_FORMATTER ir_fm S__assertionsDisabled S_HI_BYTE_SHIFT S_LO_BYTE_SHIFT (by decide) rfl hch1 hnc1) hZ (wd hw 61) (wd hw 4) (by decide) (by decide)) (by rw [hml]; rfl) (a := a1) (argsL := [(.int (1 : Int32))]) (rest := []) E_a1 (lenOf pd_15 rfl) rfl (nb rfl) (hb hby d21_39) rfl e834 (by decide) (by decide) fun T835 v835 L835 X835 hQ835 => ?_
    obtain ⟨rfl, Nq835, e835⟩ := hQ835
    have N835 := Fr.app N834 Nq835
    refine Owe.istoreN X835.here hx (hb hby d21_42) rfl (l' := #[.val (.ref a1), .val (.int (1 : Int32)), .val (.int (1 : Int32)), .val (.int c1)]) rfl ?_
    by_cases hok1 : okb c1 = true
    · refine segY hx hby X835 hok1 ?_
      refine Owe.istoreN X835.here hx (hb hby d21_78) rfl (l' := #[.val (.ref a1), .val (.int (1 : Int32)), .val (.int (1 : Int32)), .val (.int c1)]) rfl ?_
      refine Owe.iinc X835.here hx (hb hby d21_79) rfl (l' := #[.val (.ref a1), .val (.int (1 : Int32)), .val (.int (2 : Int32)), .val (.int c1)]) rfl ?_
      refine Owe.goto X835.here hx (hb hby d21_82) (pc' := 25) (by decide) (by decide) ?_
      refine Owe.iloadN X835.here hx (hb hby d21_25) rfl ?_
      refine Owe.ifNo X835.here hx (hb hby d21_26) rfl ((if0 _ _).trans (feq (by decide)).1) ?_
      refine Owe.iloadN X835.here hx (hb hby d21_29) rfl ?_
      refine Owe.aloadN X835.here hx (hb hby d21_30) rfl rfl ?_
      refine Owe.virt X835 hx hZ (y := Y15) (z := Y15) hown (mvT hZ (wd hw 47)) (mvT hZ (wd hw 48)) (mvT hZ (wd hw 50)) (mvT hZ (wd hw 49)) (notFace_of_selects (args := #[]) (mvT hZ (wd hw 50))) (by decide) (backOf (W := 1) (rmsln0 l Z a0 hw [] a1 t1 kb1 (4 : Int32) ([(.int (la1 v0)), (.int (la1 v1)), (.int (la1 v2)), (.int (la1 v3))]) G1 (4 : Int32) h0 n0 Z0 Fvalue_a1 V_t1 E_a1 Fcoder_a1 S_COMPACT_STRINGS cs0 Ol (by decide)) hZ (wd hw 51) (wd hw 4) (by decide) (by decide)) (by rw [hml]; rfl) (a := a1) (argsL := []) (rest := [(.int (2 : Int32))]) E_a1 (lenOf pd_14 rfl) rfl (nb rfl) (hb hby d21_31) rfl e835 (by decide) (by decide) fun T836 v836 L836 X836 hQ836 => ?_
      obtain ⟨rfl, Nq836, e836⟩ := hQ836
      have N836 := Fr.app N835 Nq836
      refine Owe.icmpNo X836.here hx (hb hby d21_34) rfl (tlt (by decide)).2.1 ?_
      refine Owe.aloadN X836.here hx (hb hby d21_37) rfl rfl ?_
      refine Owe.iloadN X836.here hx (hb hby d21_38) rfl ?_
      refine Owe.virt X836 hx hZ (y := Y20) (z := Y20) hown (mvT hZ (wd hw 57)) (mvT hZ (wd hw 58)) (mvT hZ (wd hw 60)) (mvT hZ (wd hw 59)) (notFace_of_selects (args := #[]) (mvT hZ (wd hw 60))) (by decide) (backOf (W := 0) (rmsch0 l Z a0 hw [] a1 t1 kb1 fm G1 c2 (2 : Int32) (la1 v2) (4 : Int32) ([(.int (la1 v0)), (.int (la1 v1)), (.int (la1 v2)), (.int (la1 v3))]) h0 n0 Z0 Fvalue_a1 V_t1 E_a1 Fcoder_a1 S_COMPACT_STRINGS cs0 Ol S_SIOOBE_FORMATTER ir_fm S__assertionsDisabled S_HI_BYTE_SHIFT S_LO_BYTE_SHIFT (by decide) rfl hch2 hnc2) hZ (wd hw 61) (wd hw 4) (by decide) (by decide)) (by rw [hml]; rfl) (a := a1) (argsL := [(.int (2 : Int32))]) (rest := []) E_a1 (lenOf pd_15 rfl) rfl (nb rfl) (hb hby d21_39) rfl e836 (by decide) (by decide) fun T837 v837 L837 X837 hQ837 => ?_
      obtain ⟨rfl, Nq837, e837⟩ := hQ837
      have N837 := Fr.app N836 Nq837
      refine Owe.istoreN X837.here hx (hb hby d21_42) rfl (l' := #[.val (.ref a1), .val (.int (1 : Int32)), .val (.int (2 : Int32)), .val (.int c2)]) rfl ?_
      by_cases hok2 : okb c2 = true
      · refine segY hx hby X837 hok2 ?_
        refine Owe.istoreN X837.here hx (hb hby d21_78) rfl (l' := #[.val (.ref a1), .val (.int (1 : Int32)), .val (.int (2 : Int32)), .val (.int c2)]) rfl ?_
        refine Owe.iinc X837.here hx (hb hby d21_79) rfl (l' := #[.val (.ref a1), .val (.int (1 : Int32)), .val (.int (3 : Int32)), .val (.int c2)]) rfl ?_
        refine Owe.goto X837.here hx (hb hby d21_82) (pc' := 25) (by decide) (by decide) ?_
        refine Owe.iloadN X837.here hx (hb hby d21_25) rfl ?_
        refine Owe.ifNo X837.here hx (hb hby d21_26) rfl ((if0 _ _).trans (feq (by decide)).1) ?_
        refine Owe.iloadN X837.here hx (hb hby d21_29) rfl ?_
        refine Owe.aloadN X837.here hx (hb hby d21_30) rfl rfl ?_
        refine Owe.virt X837 hx hZ (y := Y15) (z := Y15) hown (mvT hZ (wd hw 47)) (mvT hZ (wd hw 48)) (mvT hZ (wd hw 50)) (mvT hZ (wd hw 49)) (notFace_of_selects (args := #[]) (mvT hZ (wd hw 50))) (by decide) (backOf (W := 1) (rmsln0 l Z a0 hw [] a1 t1 kb1 (4 : Int32) ([(.int (la1 v0)), (.int (la1 v1)), (.int (la1 v2)), (.int (la1 v3))]) G1 (4 : Int32) h0 n0 Z0 Fvalue_a1 V_t1 E_a1 Fcoder_a1 S_COMPACT_STRINGS cs0 Ol (by decide)) hZ (wd hw 51) (wd hw 4) (by decide) (by decide)) (by rw [hml]; rfl) (a := a1) (argsL := []) (rest := [(.int (3 : Int32))]) E_a1 (lenOf pd_14 rfl) rfl (nb rfl) (hb hby d21_31) rfl e837 (by decide) (by decide) fun T838 v838 L838 X838 hQ838 => ?_
        obtain ⟨rfl, Nq838, e838⟩ := hQ838
        have N838 := Fr.app N837 Nq838
        refine Owe.icmpNo X838.here hx (hb hby d21_34) rfl (tlt (by decide)).2.1 ?_
        refine Owe.aloadN X838.here hx (hb hby d21_37) rfl rfl ?_
        refine Owe.iloadN X838.here hx (hb hby d21_38) rfl ?_
        refine Owe.virt X838 hx hZ (y := Y20) (z := Y20) hown (mvT hZ (wd hw 57)) (mvT hZ (wd hw 58)) (mvT hZ (wd hw 60)) (mvT hZ (wd hw 59)) (notFace_of_selects (args := #[]) (mvT hZ (wd hw 60))) (by decide) (backOf (W := 0) (rmsch0 l Z a0 hw [] a1 t1 kb1 fm G1 c3 (3 : Int32) (la1 v3) (4 : Int32) ([(.int (la1 v0)), (.int (la1 v1)), (.int (la1 v2)), (.int (la1 v3))]) h0 n0 Z0 Fvalue_a1 V_t1 E_a1 Fcoder_a1 S_COMPACT_STRINGS cs0 Ol S_SIOOBE_FORMATTER ir_fm S__assertionsDisabled S_HI_BYTE_SHIFT S_LO_BYTE_SHIFT (by decide) rfl hch3 hnc3) hZ (wd hw 61) (wd hw 4) (by decide) (by decide)) (by rw [hml]; rfl) (a := a1) (argsL := [(.int (3 : Int32))]) (rest := []) E_a1 (lenOf pd_15 rfl) rfl (nb rfl) (hb hby d21_39) rfl e838 (by decide) (by decide) fun T839 v839 L839 X839 hQ839 => ?_
        obtain ⟨rfl, Nq839, e839⟩ := hQ839
        have N839 := Fr.app N838 Nq839
        refine Owe.istoreN X839.here hx (hb hby d21_42) rfl (l' := #[.val (.ref a1), .val (.int (1 : Int32)), .val (.int (3 : Int32)), .val (.int c3)]) rfl ?_
        by_cases hok3 : okb c3 = true
        · refine segY hx hby X839 hok3 ?_
          refine Owe.istoreN X839.here hx (hb hby d21_78) rfl (l' := #[.val (.ref a1), .val (.int (1 : Int32)), .val (.int (3 : Int32)), .val (.int c3)]) rfl ?_
          refine Owe.iinc X839.here hx (hb hby d21_79) rfl (l' := #[.val (.ref a1), .val (.int (1 : Int32)), .val (.int (4 : Int32)), .val (.int c3)]) rfl ?_
          refine Owe.goto X839.here hx (hb hby d21_82) (pc' := 25) (by decide) (by decide) ?_
          refine Owe.iloadN X839.here hx (hb hby d21_25) rfl ?_
          refine Owe.ifNo X839.here hx (hb hby d21_26) rfl ((if0 _ _).trans (feq (by decide)).1) ?_
          refine Owe.iloadN X839.here hx (hb hby d21_29) rfl ?_
          refine Owe.aloadN X839.here hx (hb hby d21_30) rfl rfl ?_
          refine Owe.virt X839 hx hZ (y := Y15) (z := Y15) hown (mvT hZ (wd hw 47)) (mvT hZ (wd hw 48)) (mvT hZ (wd hw 50)) (mvT hZ (wd hw 49)) (notFace_of_selects (args := #[]) (mvT hZ (wd hw 50))) (by decide) (backOf (W := 1) (rmsln0 l Z a0 hw [] a1 t1 kb1 (4 : Int32) ([(.int (la1 v0)), (.int (la1 v1)), (.int (la1 v2)), (.int (la1 v3))]) G1 (4 : Int32) h0 n0 Z0 Fvalue_a1 V_t1 E_a1 Fcoder_a1 S_COMPACT_STRINGS cs0 Ol (by decide)) hZ (wd hw 51) (wd hw 4) (by decide) (by decide)) (by rw [hml]; rfl) (a := a1) (argsL := []) (rest := [(.int (4 : Int32))]) E_a1 (lenOf pd_14 rfl) rfl (nb rfl) (hb hby d21_31) rfl e839 (by decide) (by decide) fun T840 v840 L840 X840 hQ840 => ?_
          obtain ⟨rfl, Nq840, e840⟩ := hQ840
          have N840 := Fr.app N839 Nq840
          refine Owe.icmpYes X840.here hx (hb hby d21_34) rfl (flt (by decide)).2.1 (pc' := 85) (by decide) (by decide) ?_
          refine Owe.iloadN X840.here hx (hb hby d21_85) rfl ?_
          refine Owe.retN X840 hx hlk (t := .boolean) hrt (by simp) (hb hby d21_86) rfl fun fs hE => ?_
          refine hG _ _ ⟨_, _, rfl, ?_, frameMono hE (by decide) (by decide)⟩
          show Qirc4_0 Z a1 t1 kb1 fm G1 v0 v1 v2 v3 c0 c1 c2 c3 h0 n0 _ T840.heap _
          rw [e840]
          exact ⟨(by simp [rc, nb0, nb1, hok0, hok1, hok2, hok3]), N840, rfl⟩
        · refine segN hx hby X839 hok3 ?_
          refine Owe.istoreN X839.here hx (hb hby d21_78) rfl (l' := #[.val (.ref a1), .val (.int (0 : Int32)), .val (.int (3 : Int32)), .val (.int c3)]) rfl ?_
          refine Owe.iinc X839.here hx (hb hby d21_79) rfl (l' := #[.val (.ref a1), .val (.int (0 : Int32)), .val (.int (4 : Int32)), .val (.int c3)]) rfl ?_
          refine Owe.goto X839.here hx (hb hby d21_82) (pc' := 25) (by decide) (by decide) ?_
          refine Owe.iloadN X839.here hx (hb hby d21_25) rfl ?_
          refine Owe.ifYes X839.here hx (hb hby d21_26) rfl ((if0 _ _).trans (teq (by decide)).1) (pc' := 85) (by decide) (by decide) ?_
          refine Owe.iloadN X839.here hx (hb hby d21_85) rfl ?_
          refine Owe.retN X839 hx hlk (t := .boolean) hrt (by simp) (hb hby d21_86) rfl fun fs hE => ?_
          refine hG _ _ ⟨_, _, rfl, ?_, frameMono hE (by decide) (by decide)⟩
          show Qirc4_0 Z a1 t1 kb1 fm G1 v0 v1 v2 v3 c0 c1 c2 c3 h0 n0 _ T839.heap _
          rw [e839]
          exact ⟨(by simp [rc, nb0, nb1, hok0, hok1, hok2, hok3]), N839, rfl⟩
      · refine segN hx hby X837 hok2 ?_
        refine Owe.istoreN X837.here hx (hb hby d21_78) rfl (l' := #[.val (.ref a1), .val (.int (0 : Int32)), .val (.int (2 : Int32)), .val (.int c2)]) rfl ?_
        refine Owe.iinc X837.here hx (hb hby d21_79) rfl (l' := #[.val (.ref a1), .val (.int (0 : Int32)), .val (.int (3 : Int32)), .val (.int c2)]) rfl ?_
        refine Owe.goto X837.here hx (hb hby d21_82) (pc' := 25) (by decide) (by decide) ?_
        refine Owe.iloadN X837.here hx (hb hby d21_25) rfl ?_
        refine Owe.ifYes X837.here hx (hb hby d21_26) rfl ((if0 _ _).trans (teq (by decide)).1) (pc' := 85) (by decide) (by decide) ?_
        refine Owe.iloadN X837.here hx (hb hby d21_85) rfl ?_
        refine Owe.retN X837 hx hlk (t := .boolean) hrt (by simp) (hb hby d21_86) rfl fun fs hE => ?_
        refine hG _ _ ⟨_, _, rfl, ?_, frameMono hE (by decide) (by decide)⟩
        show Qirc4_0 Z a1 t1 kb1 fm G1 v0 v1 v2 v3 c0 c1 c2 c3 h0 n0 _ T837.heap _
        rw [e837]
        exact ⟨(by simp [rc, nb0, nb1, hok0, hok1, hok2]), N837, rfl⟩
    · refine segN hx hby X835 hok1 ?_
      refine Owe.istoreN X835.here hx (hb hby d21_78) rfl (l' := #[.val (.ref a1), .val (.int (0 : Int32)), .val (.int (1 : Int32)), .val (.int c1)]) rfl ?_
      refine Owe.iinc X835.here hx (hb hby d21_79) rfl (l' := #[.val (.ref a1), .val (.int (0 : Int32)), .val (.int (2 : Int32)), .val (.int c1)]) rfl ?_
      refine Owe.goto X835.here hx (hb hby d21_82) (pc' := 25) (by decide) (by decide) ?_
      refine Owe.iloadN X835.here hx (hb hby d21_25) rfl ?_
      refine Owe.ifYes X835.here hx (hb hby d21_26) rfl ((if0 _ _).trans (teq (by decide)).1) (pc' := 85) (by decide) (by decide) ?_
      refine Owe.iloadN X835.here hx (hb hby d21_85) rfl ?_
      refine Owe.retN X835 hx hlk (t := .boolean) hrt (by simp) (hb hby d21_86) rfl fun fs hE => ?_
      refine hG _ _ ⟨_, _, rfl, ?_, frameMono hE (by decide) (by decide)⟩
      show Qirc4_0 Z a1 t1 kb1 fm G1 v0 v1 v2 v3 c0 c1 c2 c3 h0 n0 _ T835.heap _
      rw [e835]
      exact ⟨(by simp [rc, nb0, nb1, hok0, hok1]), N835, rfl⟩
  · refine segN hx hby X833 hok0 ?_
    refine Owe.istoreN X833.here hx (hb hby d21_78) rfl (l' := #[.val (.ref a1), .val (.int (0 : Int32)), .val (.int (0 : Int32)), .val (.int c0)]) rfl ?_
    refine Owe.iinc X833.here hx (hb hby d21_79) rfl (l' := #[.val (.ref a1), .val (.int (0 : Int32)), .val (.int (1 : Int32)), .val (.int c0)]) rfl ?_
    refine Owe.goto X833.here hx (hb hby d21_82) (pc' := 25) (by decide) (by decide) ?_
    refine Owe.iloadN X833.here hx (hb hby d21_25) rfl ?_
    refine Owe.ifYes X833.here hx (hb hby d21_26) rfl ((if0 _ _).trans (teq (by decide)).1) (pc' := 85) (by decide) (by decide) ?_
    refine Owe.iloadN X833.here hx (hb hby d21_85) rfl ?_
    refine Owe.retN X833 hx hlk (t := .boolean) hrt (by simp) (hb hby d21_86) rfl fun fs hE => ?_
    refine hG _ _ ⟨_, _, rfl, ?_, frameMono hE (by decide) (by decide)⟩
    show Qirc4_0 Z a1 t1 kb1 fm G1 v0 v1 v2 v3 c0 c1 c2 c3 h0 n0 _ T833.heap _
    rw [e833]
    exact ⟨(by simp [rc, nb0, nb1, hok0]), N833, rfl⟩
theorem ef_irc4_1 (m : MethodId) (x0 : Addr)  : entryFrame m #[(.ref x0)] 4 = mkF m 0 #[.val (.ref x0), .unset, .unset, .unset] [] := by first | (simp [entryFrame, mkF, argsToLocals, Value.category]; done) | rfl
def Qirc4_1 (Z : State) (a1 : Addr) (t1 : Addr) (kb1 : ClassId) (fm : Value) (G1 : Int32) (v0 : Int32) (v1 : Int32) (v2 : Int32) (v3 : Int32) (c0 : Int32) (c1 : Int32) (c2 : Int32) (c3 : Int32) (h0 : Heap) (n0 : Nat) (v : Option Value) (h : Heap) (L : List Loc) : Prop := v = some (.int (rc [c0, c1, c2, c3])) ∧ Fr n0 L ∧ h = h0
set_option maxRecDepth 65536 in
set_option maxHeartbeats 40000000 in
theorem rmirc4_1 (l : Launch) (Z : State) (a0 : Array Value) (hw : Hw Z a0) (ws : List Jvm.Cond) (a1 : Addr) (t1 : Addr) (kb1 : ClassId) (fm : Value) (G1 : Int32) (v0 : Int32) (v1 : Int32) (v2 : Int32) (v3 : Int32) (c0 : Int32) (c1 : Int32) (c2 : Int32) (c3 : Int32) (h0 : Heap) (n0 : Nat) (Z0 : n0 ≤ h0.size) (Fvalue_a1 : Fld Z h0 a1 "java/lang/String" "value" "[B" (.ref t1)) (V_t1 : Arv Z h0 t1 kb1 .byte (8 : Int32) [(.int (lo1 v0)), (.int (hi1 v0)), (.int (lo1 v1)), (.int (hi1 v1)), (.int (lo1 v2)), (.int (hi1 v2)), (.int (lo1 v3)), (.int (hi1 v3))] (.int (0 : Int32))) (E_a1 : Exa Z h0 a1 "java/lang/String") (Fcoder_a1 : Fld Z h0 a1 "java/lang/String" "coder" "B" (.int (1 : Int32))) (S_COMPACT_STRINGS : Sta Z Z.heap "java/lang/String" "COMPACT_STRINGS" "Z" (.int G1)) (cs0 : ¬ (G1 = (0 : Int32))) (Ol : Old Z n0 h0) (S_SIOOBE_FORMATTER : Sta Z Z.heap "jdk/internal/util/Preconditions" "SIOOBE_FORMATTER" "Ljava/util/function/BiFunction;" fm) (ir_fm : (fm).isRef = true) (S__assertionsDisabled : Sta Z Z.heap "java/lang/StringUTF16" "$assertionsDisabled" "Z" (.int (1 : Int32))) (S_HI_BYTE_SHIFT : Sta Z Z.heap "java/lang/StringUTF16" "HI_BYTE_SHIFT" "I" (.int (0 : Int32))) (S_LO_BYTE_SHIFT : Sta Z Z.heap "java/lang/StringUTF16" "LO_BYTE_SHIFT" "I" (.int (8 : Int32))) (hch0 : getc (lo1 v0) (hi1 v0) = c0) (hch1 : getc (lo1 v1) (hi1 v1) = c1) (hch2 : getc (lo1 v2) (hi1 v2) = c2) (hch3 : getc (lo1 v3) (hi1 v3) = c3) (hnc0 : nar .char c0 = c0) (hnc1 : nar .char c1 = c1) (hnc2 : nar .char c2 = c2) (hnc3 : nar .char c3 = c3) :
    MF l Z Y21 prog_1_method_3_code 4 (some .boolean) ws ({ frames := 5, cells := 0, slots := 0, locals := 70 } : Room) #[(.ref a1)] h0 (Qirc4_1 Z a1 t1 kb1 fm G1 v0 v1 v2 v3 c0 c1 c2 c3 h0 n0) := by
  refine MF.of pn_4 (fun m => ef_irc4_1 m a1) ?_
  intro p e s m below meth c s₁ G X0 e0 hx hby hml hown hnm hlk hrt hZ hnd hG
  have N0 := Fr.nil n0
  refine Owe.aloadN X0.here hx (hb hby d21_0) rfl rfl ?_
  refine Owe.virt X0 hx hZ (y := Y14) (z := Y14) hown (mvT hZ (wd hw 27)) (mvT hZ (wd hw 28)) (mvT hZ (wd hw 30)) (mvT hZ (wd hw 29)) (notFace_of_selects (args := #[]) (mvT hZ (wd hw 30))) (by decide) (backOf (W := 0) (rmemp1 l Z a0 hw [] a1 t1 kb1 (8 : Int32) ([(.int (lo1 v0)), (.int (hi1 v0)), (.int (lo1 v1)), (.int (hi1 v1)), (.int (lo1 v2)), (.int (hi1 v2)), (.int (lo1 v3)), (.int (hi1 v3))]) h0 n0 Z0 E_a1 Fvalue_a1 V_t1 (by decide)) hZ (wd hw 31) (wd hw 4) (by decide) (by decide)) (by rw [hml]; rfl) (a := a1) (argsL := []) (rest := []) E_a1 (lenOf pd_13 rfl) rfl (nb rfl) (hb hby d21_1) rfl e0 (by decide) (by decide) fun T841 v841 L841 X841 hQ841 => ?_
  obtain ⟨rfl, Nq841, e841⟩ := hQ841
  have N841 := Fr.app N0 Nq841
  refine Owe.ifNo X841.here hx (hb hby d21_4) rfl ((if0 _ _).trans (teq (by decide)).2) ?_
  refine Owe.aloadN X841.here hx (hb hby d21_7) rfl rfl ?_
  refine Owe.virt X841 hx hZ (y := Y15) (z := Y15) hown (mvT hZ (wd hw 47)) (mvT hZ (wd hw 48)) (mvT hZ (wd hw 50)) (mvT hZ (wd hw 49)) (notFace_of_selects (args := #[]) (mvT hZ (wd hw 50))) (by decide) (backOf (W := 0) (rmsln1 l Z a0 hw [] a1 t1 kb1 (8 : Int32) ([(.int (lo1 v0)), (.int (hi1 v0)), (.int (lo1 v1)), (.int (hi1 v1)), (.int (lo1 v2)), (.int (hi1 v2)), (.int (lo1 v3)), (.int (hi1 v3))]) G1 (4 : Int32) h0 n0 Z0 Fvalue_a1 V_t1 E_a1 Fcoder_a1 S_COMPACT_STRINGS cs0 Ol (by decide)) hZ (wd hw 51) (wd hw 4) (by decide) (by decide)) (by rw [hml]; rfl) (a := a1) (argsL := []) (rest := []) E_a1 (lenOf pd_14 rfl) rfl (nb rfl) (hb hby d21_8) rfl e841 (by decide) (by decide) fun T842 v842 L842 X842 hQ842 => ?_
  obtain ⟨rfl, Nq842, e842⟩ := hQ842
  have N842 := Fr.app N841 Nq842
  refine Owe.sipush X842.here hx (hb hby d21_11) (w := (255 : Int32)) rfl ?_
  refine Owe.icmpNo X842.here hx (hb hby d21_14) rfl (flt (by decide)).2.2.1 ?_
  refine Owe.iconst X842.here hx (hb hby d21_17) (w := (1 : Int32)) rfl ?_
  refine Owe.goto X842.here hx (hb hby d21_18) (pc' := 22) (by decide) (by decide) ?_
  refine Owe.istoreN X842.here hx (hb hby d21_22) rfl (l' := #[.val (.ref a1), .val (.int (1 : Int32)), .unset, .unset]) rfl ?_
  refine Owe.iconst X842.here hx (hb hby d21_23) (w := (0 : Int32)) rfl ?_
  refine Owe.istoreN X842.here hx (hb hby d21_24) rfl (l' := #[.val (.ref a1), .val (.int (1 : Int32)), .val (.int (0 : Int32)), .unset]) rfl ?_
  refine Owe.iloadN X842.here hx (hb hby d21_25) rfl ?_
  refine Owe.ifNo X842.here hx (hb hby d21_26) rfl ((if0 _ _).trans (feq (by decide)).1) ?_
  refine Owe.iloadN X842.here hx (hb hby d21_29) rfl ?_
  refine Owe.aloadN X842.here hx (hb hby d21_30) rfl rfl ?_
  refine Owe.virt X842 hx hZ (y := Y15) (z := Y15) hown (mvT hZ (wd hw 47)) (mvT hZ (wd hw 48)) (mvT hZ (wd hw 50)) (mvT hZ (wd hw 49)) (notFace_of_selects (args := #[]) (mvT hZ (wd hw 50))) (by decide) (backOf (W := 1) (rmsln1 l Z a0 hw [] a1 t1 kb1 (8 : Int32) ([(.int (lo1 v0)), (.int (hi1 v0)), (.int (lo1 v1)), (.int (hi1 v1)), (.int (lo1 v2)), (.int (hi1 v2)), (.int (lo1 v3)), (.int (hi1 v3))]) G1 (4 : Int32) h0 n0 Z0 Fvalue_a1 V_t1 E_a1 Fcoder_a1 S_COMPACT_STRINGS cs0 Ol (by decide)) hZ (wd hw 51) (wd hw 4) (by decide) (by decide)) (by rw [hml]; rfl) (a := a1) (argsL := []) (rest := [(.int (0 : Int32))]) E_a1 (lenOf pd_14 rfl) rfl (nb rfl) (hb hby d21_31) rfl e842 (by decide) (by decide) fun T843 v843 L843 X843 hQ843 => ?_
  obtain ⟨rfl, Nq843, e843⟩ := hQ843
  have N843 := Fr.app N842 Nq843
  refine Owe.icmpNo X843.here hx (hb hby d21_34) rfl (tlt (by decide)).2.1 ?_
  refine Owe.aloadN X843.here hx (hb hby d21_37) rfl rfl ?_
  refine Owe.iloadN X843.here hx (hb hby d21_38) rfl ?_
  refine Owe.virt X843 hx hZ (y := Y20) (z := Y20) hown (mvT hZ (wd hw 57)) (mvT hZ (wd hw 58)) (mvT hZ (wd hw 60)) (mvT hZ (wd hw 59)) (notFace_of_selects (args := #[]) (mvT hZ (wd hw 60))) (by decide) (backOf (W := 0) (rmsch1 l Z a0 hw [] a1 t1 kb1 fm G1 c0 (0 : Int32) (lo1 v0) (hi1 v0) (8 : Int32) ([(.int (lo1 v0)), (.int (hi1 v0)), (.int (lo1 v1)), (.int (hi1 v1)), (.int (lo1 v2)), (.int (hi1 v2)), (.int (lo1 v3)), (.int (hi1 v3))]) h0 n0 Z0 Fvalue_a1 V_t1 E_a1 Fcoder_a1 S_COMPACT_STRINGS cs0 Ol S_SIOOBE_FORMATTER ir_fm S__assertionsDisabled S_HI_BYTE_SHIFT S_LO_BYTE_SHIFT (by decide) rfl (by decide) rfl hch0 hnc0 (by decide)) hZ (wd hw 61) (wd hw 4) (by decide) (by decide)) (by rw [hml]; rfl) (a := a1) (argsL := [(.int (0 : Int32))]) (rest := []) E_a1 (lenOf pd_15 rfl) rfl (nb rfl) (hb hby d21_39) rfl e843 (by decide) (by decide) fun T844 v844 L844 X844 hQ844 => ?_
  obtain ⟨rfl, Nq844, e844⟩ := hQ844
  have N844 := Fr.app N843 Nq844
  refine Owe.istoreN X844.here hx (hb hby d21_42) rfl (l' := #[.val (.ref a1), .val (.int (1 : Int32)), .val (.int (0 : Int32)), .val (.int c0)]) rfl ?_
  by_cases hok0 : okb c0 = true
  · refine segY hx hby X844 hok0 ?_
    refine Owe.istoreN X844.here hx (hb hby d21_78) rfl (l' := #[.val (.ref a1), .val (.int (1 : Int32)), .val (.int (0 : Int32)), .val (.int c0)]) rfl ?_
    refine Owe.iinc X844.here hx (hb hby d21_79) rfl (l' := #[.val (.ref a1), .val (.int (1 : Int32)), .val (.int (1 : Int32)), .val (.int c0)]) rfl ?_
    refine Owe.goto X844.here hx (hb hby d21_82) (pc' := 25) (by decide) (by decide) ?_
    refine Owe.iloadN X844.here hx (hb hby d21_25) rfl ?_
    refine Owe.ifNo X844.here hx (hb hby d21_26) rfl ((if0 _ _).trans (feq (by decide)).1) ?_
    refine Owe.iloadN X844.here hx (hb hby d21_29) rfl ?_
    refine Owe.aloadN X844.here hx (hb hby d21_30) rfl rfl ?_
    refine Owe.virt X844 hx hZ (y := Y15) (z := Y15) hown (mvT hZ (wd hw 47)) (mvT hZ (wd hw 48)) (mvT hZ (wd hw 50)) (mvT hZ (wd hw 49)) (notFace_of_selects (args := #[]) (mvT hZ (wd hw 50))) (by decide) (backOf (W := 1) (rmsln1 l Z a0 hw [] a1 t1 kb1 (8 : Int32) ([(.int (lo1 v0)), (.int (hi1 v0)), (.int (lo1 v1)), (.int (hi1 v1)), (.int (lo1 v2)), (.int (hi1 v2)), (.int (lo1 v3)), (.int (hi1 v3))]) G1 (4 : Int32) h0 n0 Z0 Fvalue_a1 V_t1 E_a1 Fcoder_a1 S_COMPACT_STRINGS cs0 Ol (by decide)) hZ (wd hw 51) (wd hw 4) (by decide) (by decide)) (by rw [hml]; rfl) (a := a1) (argsL := []) (rest := [(.int (1 : Int32))]) E_a1 (lenOf pd_14 rfl) rfl (nb rfl) (hb hby d21_31) rfl e844 (by decide) (by decide) fun T845 v845 L845 X845 hQ845 => ?_
    obtain ⟨rfl, Nq845, e845⟩ := hQ845
    have N845 := Fr.app N844 Nq845
    refine Owe.icmpNo X845.here hx (hb hby d21_34) rfl (tlt (by decide)).2.1 ?_
    refine Owe.aloadN X845.here hx (hb hby d21_37) rfl rfl ?_
    refine Owe.iloadN X845.here hx (hb hby d21_38) rfl ?_
    refine Owe.virt X845 hx hZ (y := Y20) (z := Y20) hown (mvT hZ (wd hw 57)) (mvT hZ (wd hw 58)) (mvT hZ (wd hw 60)) (mvT hZ (wd hw 59)) (notFace_of_selects (args := #[]) (mvT hZ (wd hw 60))) (by decide) (backOf (W := 0) (rmsch1 l Z a0 hw [] a1 t1 kb1 fm G1 c1 (1 : Int32) (lo1 v1) (hi1 v1) (8 : Int32) ([(.int (lo1 v0)), (.int (hi1 v0)), (.int (lo1 v1)), (.int (hi1 v1)), (.int (lo1 v2)), (.int (hi1 v2)), (.int (lo1 v3)), (.int (hi1 v3))]) h0 n0 Z0 Fvalue_a1 V_t1 E_a1 Fcoder_a1 S_COMPACT_STRINGS cs0 Ol S_SIOOBE_FORMATTER ir_fm S__assertionsDisabled S_HI_BYTE_SHIFT S_LO_BYTE_SHIFT (by decide) rfl (by decide) rfl hch1 hnc1 (by decide)) hZ (wd hw 61) (wd hw 4) (by decide) (by decide)) (by rw [hml]; rfl) (a := a1) (argsL := [(.int (1 : Int32))]) (rest := []) E_a1 (lenOf pd_15 rfl) rfl (nb rfl) (hb hby d21_39) rfl e845 (by decide) (by decide) fun T846 v846 L846 X846 hQ846 => ?_
    obtain ⟨rfl, Nq846, e846⟩ := hQ846
    have N846 := Fr.app N845 Nq846
    refine Owe.istoreN X846.here hx (hb hby d21_42) rfl (l' := #[.val (.ref a1), .val (.int (1 : Int32)), .val (.int (1 : Int32)), .val (.int c1)]) rfl ?_
    by_cases hok1 : okb c1 = true
    · refine segY hx hby X846 hok1 ?_
      refine Owe.istoreN X846.here hx (hb hby d21_78) rfl (l' := #[.val (.ref a1), .val (.int (1 : Int32)), .val (.int (1 : Int32)), .val (.int c1)]) rfl ?_
      refine Owe.iinc X846.here hx (hb hby d21_79) rfl (l' := #[.val (.ref a1), .val (.int (1 : Int32)), .val (.int (2 : Int32)), .val (.int c1)]) rfl ?_
      refine Owe.goto X846.here hx (hb hby d21_82) (pc' := 25) (by decide) (by decide) ?_
      refine Owe.iloadN X846.here hx (hb hby d21_25) rfl ?_
      refine Owe.ifNo X846.here hx (hb hby d21_26) rfl ((if0 _ _).trans (feq (by decide)).1) ?_
      refine Owe.iloadN X846.here hx (hb hby d21_29) rfl ?_
      refine Owe.aloadN X846.here hx (hb hby d21_30) rfl rfl ?_
      refine Owe.virt X846 hx hZ (y := Y15) (z := Y15) hown (mvT hZ (wd hw 47)) (mvT hZ (wd hw 48)) (mvT hZ (wd hw 50)) (mvT hZ (wd hw 49)) (notFace_of_selects (args := #[]) (mvT hZ (wd hw 50))) (by decide) (backOf (W := 1) (rmsln1 l Z a0 hw [] a1 t1 kb1 (8 : Int32) ([(.int (lo1 v0)), (.int (hi1 v0)), (.int (lo1 v1)), (.int (hi1 v1)), (.int (lo1 v2)), (.int (hi1 v2)), (.int (lo1 v3)), (.int (hi1 v3))]) G1 (4 : Int32) h0 n0 Z0 Fvalue_a1 V_t1 E_a1 Fcoder_a1 S_COMPACT_STRINGS cs0 Ol (by decide)) hZ (wd hw 51) (wd hw 4) (by decide) (by decide)) (by rw [hml]; rfl) (a := a1) (argsL := []) (rest := [(.int (2 : Int32))]) E_a1 (lenOf pd_14 rfl) rfl (nb rfl) (hb hby d21_31) rfl e846 (by decide) (by decide) fun T847 v847 L847 X847 hQ847 => ?_
      obtain ⟨rfl, Nq847, e847⟩ := hQ847
      have N847 := Fr.app N846 Nq847
      refine Owe.icmpNo X847.here hx (hb hby d21_34) rfl (tlt (by decide)).2.1 ?_
      refine Owe.aloadN X847.here hx (hb hby d21_37) rfl rfl ?_
      refine Owe.iloadN X847.here hx (hb hby d21_38) rfl ?_
      refine Owe.virt X847 hx hZ (y := Y20) (z := Y20) hown (mvT hZ (wd hw 57)) (mvT hZ (wd hw 58)) (mvT hZ (wd hw 60)) (mvT hZ (wd hw 59)) (notFace_of_selects (args := #[]) (mvT hZ (wd hw 60))) (by decide) (backOf (W := 0) (rmsch1 l Z a0 hw [] a1 t1 kb1 fm G1 c2 (2 : Int32) (lo1 v2) (hi1 v2) (8 : Int32) ([(.int (lo1 v0)), (.int (hi1 v0)), (.int (lo1 v1)), (.int (hi1 v1)), (.int (lo1 v2)), (.int (hi1 v2)), (.int (lo1 v3)), (.int (hi1 v3))]) h0 n0 Z0 Fvalue_a1 V_t1 E_a1 Fcoder_a1 S_COMPACT_STRINGS cs0 Ol S_SIOOBE_FORMATTER ir_fm S__assertionsDisabled S_HI_BYTE_SHIFT S_LO_BYTE_SHIFT (by decide) rfl (by decide) rfl hch2 hnc2 (by decide)) hZ (wd hw 61) (wd hw 4) (by decide) (by decide)) (by rw [hml]; rfl) (a := a1) (argsL := [(.int (2 : Int32))]) (rest := []) E_a1 (lenOf pd_15 rfl) rfl (nb rfl) (hb hby d21_39) rfl e847 (by decide) (by decide) fun T848 v848 L848 X848 hQ848 => ?_
      obtain ⟨rfl, Nq848, e848⟩ := hQ848
      have N848 := Fr.app N847 Nq848
      refine Owe.istoreN X848.here hx (hb hby d21_42) rfl (l' := #[.val (.ref a1), .val (.int (1 : Int32)), .val (.int (2 : Int32)), .val (.int c2)]) rfl ?_
      by_cases hok2 : okb c2 = true
      · refine segY hx hby X848 hok2 ?_
        refine Owe.istoreN X848.here hx (hb hby d21_78) rfl (l' := #[.val (.ref a1), .val (.int (1 : Int32)), .val (.int (2 : Int32)), .val (.int c2)]) rfl ?_
        refine Owe.iinc X848.here hx (hb hby d21_79) rfl (l' := #[.val (.ref a1), .val (.int (1 : Int32)), .val (.int (3 : Int32)), .val (.int c2)]) rfl ?_
        refine Owe.goto X848.here hx (hb hby d21_82) (pc' := 25) (by decide) (by decide) ?_
        refine Owe.iloadN X848.here hx (hb hby d21_25) rfl ?_
        refine Owe.ifNo X848.here hx (hb hby d21_26) rfl ((if0 _ _).trans (feq (by decide)).1) ?_
        refine Owe.iloadN X848.here hx (hb hby d21_29) rfl ?_
        refine Owe.aloadN X848.here hx (hb hby d21_30) rfl rfl ?_
        refine Owe.virt X848 hx hZ (y := Y15) (z := Y15) hown (mvT hZ (wd hw 47)) (mvT hZ (wd hw 48)) (mvT hZ (wd hw 50)) (mvT hZ (wd hw 49)) (notFace_of_selects (args := #[]) (mvT hZ (wd hw 50))) (by decide) (backOf (W := 1) (rmsln1 l Z a0 hw [] a1 t1 kb1 (8 : Int32) ([(.int (lo1 v0)), (.int (hi1 v0)), (.int (lo1 v1)), (.int (hi1 v1)), (.int (lo1 v2)), (.int (hi1 v2)), (.int (lo1 v3)), (.int (hi1 v3))]) G1 (4 : Int32) h0 n0 Z0 Fvalue_a1 V_t1 E_a1 Fcoder_a1 S_COMPACT_STRINGS cs0 Ol (by decide)) hZ (wd hw 51) (wd hw 4) (by decide) (by decide)) (by rw [hml]; rfl) (a := a1) (argsL := []) (rest := [(.int (3 : Int32))]) E_a1 (lenOf pd_14 rfl) rfl (nb rfl) (hb hby d21_31) rfl e848 (by decide) (by decide) fun T849 v849 L849 X849 hQ849 => ?_
        obtain ⟨rfl, Nq849, e849⟩ := hQ849
        have N849 := Fr.app N848 Nq849
        refine Owe.icmpNo X849.here hx (hb hby d21_34) rfl (tlt (by decide)).2.1 ?_
        refine Owe.aloadN X849.here hx (hb hby d21_37) rfl rfl ?_
        refine Owe.iloadN X849.here hx (hb hby d21_38) rfl ?_
        refine Owe.virt X849 hx hZ (y := Y20) (z := Y20) hown (mvT hZ (wd hw 57)) (mvT hZ (wd hw 58)) (mvT hZ (wd hw 60)) (mvT hZ (wd hw 59)) (notFace_of_selects (args := #[]) (mvT hZ (wd hw 60))) (by decide) (backOf (W := 0) (rmsch1 l Z a0 hw [] a1 t1 kb1 fm G1 c3 (3 : Int32) (lo1 v3) (hi1 v3) (8 : Int32) ([(.int (lo1 v0)), (.int (hi1 v0)), (.int (lo1 v1)), (.int (hi1 v1)), (.int (lo1 v2)), (.int (hi1 v2)), (.int (lo1 v3)), (.int (hi1 v3))]) h0 n0 Z0 Fvalue_a1 V_t1 E_a1 Fcoder_a1 S_COMPACT_STRINGS cs0 Ol S_SIOOBE_FORMATTER ir_fm S__assertionsDisabled S_HI_BYTE_SHIFT S_LO_BYTE_SHIFT (by decide) rfl (by decide) rfl hch3 hnc3 (by decide)) hZ (wd hw 61) (wd hw 4) (by decide) (by decide)) (by rw [hml]; rfl) (a := a1) (argsL := [(.int (3 : Int32))]) (rest := []) E_a1 (lenOf pd_15 rfl) rfl (nb rfl) (hb hby d21_39) rfl e849 (by decide) (by decide) fun T850 v850 L850 X850 hQ850 => ?_
        obtain ⟨rfl, Nq850, e850⟩ := hQ850
        have N850 := Fr.app N849 Nq850
        refine Owe.istoreN X850.here hx (hb hby d21_42) rfl (l' := #[.val (.ref a1), .val (.int (1 : Int32)), .val (.int (3 : Int32)), .val (.int c3)]) rfl ?_
        by_cases hok3 : okb c3 = true
        · refine segY hx hby X850 hok3 ?_
          refine Owe.istoreN X850.here hx (hb hby d21_78) rfl (l' := #[.val (.ref a1), .val (.int (1 : Int32)), .val (.int (3 : Int32)), .val (.int c3)]) rfl ?_
          refine Owe.iinc X850.here hx (hb hby d21_79) rfl (l' := #[.val (.ref a1), .val (.int (1 : Int32)), .val (.int (4 : Int32)), .val (.int c3)]) rfl ?_
          refine Owe.goto X850.here hx (hb hby d21_82) (pc' := 25) (by decide) (by decide) ?_
          refine Owe.iloadN X850.here hx (hb hby d21_25) rfl ?_
          refine Owe.ifNo X850.here hx (hb hby d21_26) rfl ((if0 _ _).trans (feq (by decide)).1) ?_
          refine Owe.iloadN X850.here hx (hb hby d21_29) rfl ?_
          refine Owe.aloadN X850.here hx (hb hby d21_30) rfl rfl ?_
          refine Owe.virt X850 hx hZ (y := Y15) (z := Y15) hown (mvT hZ (wd hw 47)) (mvT hZ (wd hw 48)) (mvT hZ (wd hw 50)) (mvT hZ (wd hw 49)) (notFace_of_selects (args := #[]) (mvT hZ (wd hw 50))) (by decide) (backOf (W := 1) (rmsln1 l Z a0 hw [] a1 t1 kb1 (8 : Int32) ([(.int (lo1 v0)), (.int (hi1 v0)), (.int (lo1 v1)), (.int (hi1 v1)), (.int (lo1 v2)), (.int (hi1 v2)), (.int (lo1 v3)), (.int (hi1 v3))]) G1 (4 : Int32) h0 n0 Z0 Fvalue_a1 V_t1 E_a1 Fcoder_a1 S_COMPACT_STRINGS cs0 Ol (by decide)) hZ (wd hw 51) (wd hw 4) (by decide) (by decide)) (by rw [hml]; rfl) (a := a1) (argsL := []) (rest := [(.int (4 : Int32))]) E_a1 (lenOf pd_14 rfl) rfl (nb rfl) (hb hby d21_31) rfl e850 (by decide) (by decide) fun T851 v851 L851 X851 hQ851 => ?_
          obtain ⟨rfl, Nq851, e851⟩ := hQ851
          have N851 := Fr.app N850 Nq851
          refine Owe.icmpYes X851.here hx (hb hby d21_34) rfl (flt (by decide)).2.1 (pc' := 85) (by decide) (by decide) ?_
          refine Owe.iloadN X851.here hx (hb hby d21_85) rfl ?_
          refine Owe.retN X851 hx hlk (t := .boolean) hrt (by simp) (hb hby d21_86) rfl fun fs hE => ?_
          refine hG _ _ ⟨_, _, rfl, ?_, frameMono hE (by decide) (by decide)⟩
          show Qirc4_1 Z a1 t1 kb1 fm G1 v0 v1 v2 v3 c0 c1 c2 c3 h0 n0 _ T851.heap _
          rw [e851]
          exact ⟨(by simp [rc, nb0, nb1, hok0, hok1, hok2, hok3]), N851, rfl⟩
        · refine segN hx hby X850 hok3 ?_
          refine Owe.istoreN X850.here hx (hb hby d21_78) rfl (l' := #[.val (.ref a1), .val (.int (0 : Int32)), .val (.int (3 : Int32)), .val (.int c3)]) rfl ?_
          refine Owe.iinc X850.here hx (hb hby d21_79) rfl (l' := #[.val (.ref a1), .val (.int (0 : Int32)), .val (.int (4 : Int32)), .val (.int c3)]) rfl ?_
          refine Owe.goto X850.here hx (hb hby d21_82) (pc' := 25) (by decide) (by decide) ?_
          refine Owe.iloadN X850.here hx (hb hby d21_25) rfl ?_
          refine Owe.ifYes X850.here hx (hb hby d21_26) rfl ((if0 _ _).trans (teq (by decide)).1) (pc' := 85) (by decide) (by decide) ?_
          refine Owe.iloadN X850.here hx (hb hby d21_85) rfl ?_
          refine Owe.retN X850 hx hlk (t := .boolean) hrt (by simp) (hb hby d21_86) rfl fun fs hE => ?_
          refine hG _ _ ⟨_, _, rfl, ?_, frameMono hE (by decide) (by decide)⟩
          show Qirc4_1 Z a1 t1 kb1 fm G1 v0 v1 v2 v3 c0 c1 c2 c3 h0 n0 _ T850.heap _
          rw [e850]
          exact ⟨(by simp [rc, nb0, nb1, hok0, hok1, hok2, hok3]), N850, rfl⟩
      · refine segN hx hby X848 hok2 ?_
        refine Owe.istoreN X848.here hx (hb hby d21_78) rfl (l' := #[.val (.ref a1), .val (.int (0 : Int32)), .val (.int (2 : Int32)), .val (.int c2)]) rfl ?_
        refine Owe.iinc X848.here hx (hb hby d21_79) rfl (l' := #[.val (.ref a1), .val (.int (0 : Int32)), .val (.int (3 : Int32)), .val (.int c2)]) rfl ?_
        refine Owe.goto X848.here hx (hb hby d21_82) (pc' := 25) (by decide) (by decide) ?_
        refine Owe.iloadN X848.here hx (hb hby d21_25) rfl ?_
        refine Owe.ifYes X848.here hx (hb hby d21_26) rfl ((if0 _ _).trans (teq (by decide)).1) (pc' := 85) (by decide) (by decide) ?_
        refine Owe.iloadN X848.here hx (hb hby d21_85) rfl ?_
        refine Owe.retN X848 hx hlk (t := .boolean) hrt (by simp) (hb hby d21_86) rfl fun fs hE => ?_
        refine hG _ _ ⟨_, _, rfl, ?_, frameMono hE (by decide) (by decide)⟩
        show Qirc4_1 Z a1 t1 kb1 fm G1 v0 v1 v2 v3 c0 c1 c2 c3 h0 n0 _ T848.heap _
        rw [e848]
        exact ⟨(by simp [rc, nb0, nb1, hok0, hok1, hok2]), N848, rfl⟩
    · refine segN hx hby X846 hok1 ?_
      refine Owe.istoreN X846.here hx (hb hby d21_78) rfl (l' := #[.val (.ref a1), .val (.int (0 : Int32)), .val (.int (1 : Int32)), .val (.int c1)]) rfl ?_
      refine Owe.iinc X846.here hx (hb hby d21_79) rfl (l' := #[.val (.ref a1), .val (.int (0 : Int32)), .val (.int (2 : Int32)), .val (.int c1)]) rfl ?_
      refine Owe.goto X846.here hx (hb hby d21_82) (pc' := 25) (by decide) (by decide) ?_
      refine Owe.iloadN X846.here hx (hb hby d21_25) rfl ?_
      refine Owe.ifYes X846.here hx (hb hby d21_26) rfl ((if0 _ _).trans (teq (by decide)).1) (pc' := 85) (by decide) (by decide) ?_
      refine Owe.iloadN X846.here hx (hb hby d21_85) rfl ?_
      refine Owe.retN X846 hx hlk (t := .boolean) hrt (by simp) (hb hby d21_86) rfl fun fs hE => ?_
      refine hG _ _ ⟨_, _, rfl, ?_, frameMono hE (by decide) (by decide)⟩
      show Qirc4_1 Z a1 t1 kb1 fm G1 v0 v1 v2 v3 c0 c1 c2 c3 h0 n0 _ T846.heap _
      rw [e846]
      exact ⟨(by simp [rc, nb0, nb1, hok0, hok1]), N846, rfl⟩
  · refine segN hx hby X844 hok0 ?_
    refine Owe.istoreN X844.here hx (hb hby d21_78) rfl (l' := #[.val (.ref a1), .val (.int (0 : Int32)), .val (.int (0 : Int32)), .val (.int c0)]) rfl ?_
    refine Owe.iinc X844.here hx (hb hby d21_79) rfl (l' := #[.val (.ref a1), .val (.int (0 : Int32)), .val (.int (1 : Int32)), .val (.int c0)]) rfl ?_
    refine Owe.goto X844.here hx (hb hby d21_82) (pc' := 25) (by decide) (by decide) ?_
    refine Owe.iloadN X844.here hx (hb hby d21_25) rfl ?_
    refine Owe.ifYes X844.here hx (hb hby d21_26) rfl ((if0 _ _).trans (teq (by decide)).1) (pc' := 85) (by decide) (by decide) ?_
    refine Owe.iloadN X844.here hx (hb hby d21_85) rfl ?_
    refine Owe.retN X844 hx hlk (t := .boolean) hrt (by simp) (hb hby d21_86) rfl fun fs hE => ?_
    refine hG _ _ ⟨_, _, rfl, ?_, frameMono hE (by decide) (by decide)⟩
    show Qirc4_1 Z a1 t1 kb1 fm G1 v0 v1 v2 v3 c0 c1 c2 c3 h0 n0 _ T844.heap _
    rw [e844]
    exact ⟨(by simp [rc, nb0, nb1, hok0]), N844, rfl⟩
theorem d22_0 : decode method_3_code 0 = .ok (.iload_n 0, 1) := by decide +kernel
theorem d22_1 : decode method_3_code 1 = .ok (.bipush 95, 2) := by decide +kernel
theorem d22_3 : decode method_3_code 3 = .ok (.if_icmp .ne 5, 3) := by decide +kernel
theorem d22_6 : decode method_3_code 6 = .ok (.iconst 1, 1) := by decide +kernel
theorem d22_7 : decode method_3_code 7 = .ok (.ireturn, 1) := by decide +kernel
theorem d22_8 : decode method_3_code 8 = .ok (.iload_n 0, 1) := by decide +kernel
theorem d22_9 : decode method_3_code 9 = .ok (.bipush 48, 2) := by decide +kernel
theorem d22_11 : decode method_3_code 11 = .ok (.if_icmp .ge 5, 3) := by decide +kernel
theorem d22_14 : decode method_3_code 14 = .ok (.iconst 0, 1) := by decide +kernel
theorem d22_15 : decode method_3_code 15 = .ok (.ireturn, 1) := by decide +kernel
theorem d22_16 : decode method_3_code 16 = .ok (.iload_n 0, 1) := by decide +kernel
theorem d22_17 : decode method_3_code 17 = .ok (.bipush 57, 2) := by decide +kernel
theorem d22_19 : decode method_3_code 19 = .ok (.if_icmp .gt 5, 3) := by decide +kernel
theorem d22_22 : decode method_3_code 22 = .ok (.iconst 1, 1) := by decide +kernel
theorem d22_23 : decode method_3_code 23 = .ok (.ireturn, 1) := by decide +kernel
theorem d22_24 : decode method_3_code 24 = .ok (.iload_n 0, 1) := by decide +kernel
theorem d22_25 : decode method_3_code 25 = .ok (.bipush 65, 2) := by decide +kernel
theorem d22_27 : decode method_3_code 27 = .ok (.if_icmp .ge 5, 3) := by decide +kernel
theorem d22_30 : decode method_3_code 30 = .ok (.iconst 0, 1) := by decide +kernel
theorem d22_31 : decode method_3_code 31 = .ok (.ireturn, 1) := by decide +kernel
theorem d22_32 : decode method_3_code 32 = .ok (.iload_n 0, 1) := by decide +kernel
theorem d22_33 : decode method_3_code 33 = .ok (.bipush 90, 2) := by decide +kernel
theorem d22_35 : decode method_3_code 35 = .ok (.if_icmp .gt 7, 3) := by decide +kernel
theorem d22_38 : decode method_3_code 38 = .ok (.iconst 1, 1) := by decide +kernel
theorem d22_39 : decode method_3_code 39 = .ok (.goto 4, 3) := by decide +kernel
theorem d22_42 : decode method_3_code 42 = .ok (.iconst 0, 1) := by decide +kernel
theorem d22_43 : decode method_3_code 43 = .ok (.ireturn, 1) := by decide +kernel
abbrev Y22 : MethodName := ⟨"com/example/redelivery/redelivery/ClassificationIsReasonCodePinLaw", "ok", "(C)Z"⟩
theorem pn_5 : plainName "com/example/redelivery/redelivery/ClassificationIsReasonCodePinLaw" = true := by first | (simp [plainName, overriddenIn]; done) | decide +kernel
theorem ef_oky (m : MethodId) (x0 : Int32)  : entryFrame m #[(.int x0)] 1 = mkF m 0 #[.val (.int x0)] [] := by first | (simp [entryFrame, mkF, argsToLocals, Value.category]; done) | rfl
def Qoky (Z : State) (c1 : Int32) (h0 : Heap) (n0 : Nat) (v : Option Value) (h : Heap) (L : List Loc) : Prop := v = some (.int (1 : Int32)) ∧ Fr n0 L ∧ h = h0
set_option maxRecDepth 65536 in
set_option maxHeartbeats 40000000 in
theorem rmoky (l : Launch) (Z : State) (a0 : Array Value) (hw : Hw Z a0) (ws : List Jvm.Cond) (c1 : Int32) (h0 : Heap) (n0 : Nat) (Z0 : n0 ≤ h0.size) (hk : okb c1 = true) :
    MF l Z Y22 method_3_code 1 (some .boolean) ws ({ frames := 0, cells := 0, slots := 0, locals := 0 } : Room) #[(.int c1)] h0 (Qoky Z c1 h0 n0) := by
  refine MF.of pn_5 (fun m => ef_oky m c1) ?_
  intro p e s m below meth c s₁ G X0 e0 hx hby hml hown hnm hlk hrt hZ hnd hG
  have N0 := Fr.nil n0
  refine Owe.iloadN X0.here hx (hb hby d22_0) rfl ?_
  refine Owe.bipush X0.here hx (hb hby d22_1) (w := (95 : Int32)) rfl ?_
  by_cases hc3_852 : c1 = (95 : Int32)
  · skip
    refine Owe.icmpNo X0.here hx (hb hby d22_3) rfl (teq hc3_852).2 ?_
    refine Owe.iconst X0.here hx (hb hby d22_6) (w := (1 : Int32)) rfl ?_
    refine Owe.retN X0 hx hlk (t := .boolean) hrt (by simp) (hb hby d22_7) rfl fun fs hE => ?_
    refine hG _ _ ⟨_, _, rfl, ?_, frameMono hE (by decide) (by decide)⟩
    show Qoky Z c1 h0 n0 _ s₁.heap _
    rw [e0]
    exact ⟨rfl, N0, rfl⟩
  · skip
    refine Owe.icmpYes X0.here hx (hb hby d22_3) rfl (feq hc3_852).2 (pc' := 8) (by decide) (by decide) ?_
    refine Owe.iloadN X0.here hx (hb hby d22_8) rfl ?_
    refine Owe.bipush X0.here hx (hb hby d22_9) (w := (48 : Int32)) rfl ?_
    by_cases hc11_853 : c1 < (48 : Int32)
    · skip
      refine Owe.icmpNo X0.here hx (hb hby d22_11) rfl (tlt hc11_853).2.1 ?_
      refine Owe.iconst X0.here hx (hb hby d22_14) (w := (0 : Int32)) rfl ?_
      exfalso
      simp only [okb_iff, Int32.lt_iff_toInt_lt, ← Int32.toInt_inj, n48, n57, n65, n90, n95] at hk hc3_852 hc11_853
      omega
    · skip
      refine Owe.icmpYes X0.here hx (hb hby d22_11) rfl (flt hc11_853).2.1 (pc' := 16) (by decide) (by decide) ?_
      refine Owe.iloadN X0.here hx (hb hby d22_16) rfl ?_
      refine Owe.bipush X0.here hx (hb hby d22_17) (w := (57 : Int32)) rfl ?_
      by_cases hc19_854 : (57 : Int32) < c1
      · skip
        refine Owe.icmpYes X0.here hx (hb hby d22_19) rfl (tlt hc19_854).2.2.1 (pc' := 24) (by decide) (by decide) ?_
        refine Owe.iloadN X0.here hx (hb hby d22_24) rfl ?_
        refine Owe.bipush X0.here hx (hb hby d22_25) (w := (65 : Int32)) rfl ?_
        by_cases hc27_855 : c1 < (65 : Int32)
        · skip
          refine Owe.icmpNo X0.here hx (hb hby d22_27) rfl (tlt hc27_855).2.1 ?_
          refine Owe.iconst X0.here hx (hb hby d22_30) (w := (0 : Int32)) rfl ?_
          exfalso
          simp only [okb_iff, Int32.lt_iff_toInt_lt, ← Int32.toInt_inj, n48, n57, n65, n90, n95] at hk hc3_852 hc11_853 hc19_854 hc27_855
          omega
        · skip
          refine Owe.icmpYes X0.here hx (hb hby d22_27) rfl (flt hc27_855).2.1 (pc' := 32) (by decide) (by decide) ?_
          refine Owe.iloadN X0.here hx (hb hby d22_32) rfl ?_
          refine Owe.bipush X0.here hx (hb hby d22_33) (w := (90 : Int32)) rfl ?_
          by_cases hc35_856 : (90 : Int32) < c1
          · skip
            refine Owe.icmpYes X0.here hx (hb hby d22_35) rfl (tlt hc35_856).2.2.1 (pc' := 42) (by decide) (by decide) ?_
            refine Owe.iconst X0.here hx (hb hby d22_42) (w := (0 : Int32)) rfl ?_
            exfalso
            simp only [okb_iff, Int32.lt_iff_toInt_lt, ← Int32.toInt_inj, n48, n57, n65, n90, n95] at hk hc3_852 hc11_853 hc19_854 hc27_855 hc35_856
            omega
          · skip
            refine Owe.icmpNo X0.here hx (hb hby d22_35) rfl (flt hc35_856).2.2.1 ?_
            refine Owe.iconst X0.here hx (hb hby d22_38) (w := (1 : Int32)) rfl ?_
            refine Owe.goto X0.here hx (hb hby d22_39) (pc' := 43) (by decide) (by decide) ?_
            refine Owe.retN X0 hx hlk (t := .boolean) hrt (by simp) (hb hby d22_43) rfl fun fs hE => ?_
            refine hG _ _ ⟨_, _, rfl, ?_, frameMono hE (by decide) (by decide)⟩
            show Qoky Z c1 h0 n0 _ s₁.heap _
            rw [e0]
            exact ⟨rfl, N0, rfl⟩
      · skip
        refine Owe.icmpNo X0.here hx (hb hby d22_19) rfl (flt hc19_854).2.2.1 ?_
        refine Owe.iconst X0.here hx (hb hby d22_22) (w := (1 : Int32)) rfl ?_
        refine Owe.retN X0 hx hlk (t := .boolean) hrt (by simp) (hb hby d22_23) rfl fun fs hE => ?_
        refine hG _ _ ⟨_, _, rfl, ?_, frameMono hE (by decide) (by decide)⟩
        show Qoky Z c1 h0 n0 _ s₁.heap _
        rw [e0]
        exact ⟨rfl, N0, rfl⟩
theorem ef_okn (m : MethodId) (x0 : Int32)  : entryFrame m #[(.int x0)] 1 = mkF m 0 #[.val (.int x0)] [] := by first | (simp [entryFrame, mkF, argsToLocals, Value.category]; done) | rfl
def Qokn (Z : State) (c1 : Int32) (h0 : Heap) (n0 : Nat) (v : Option Value) (h : Heap) (L : List Loc) : Prop := v = some (.int (0 : Int32)) ∧ Fr n0 L ∧ h = h0
set_option maxRecDepth 65536 in
set_option maxHeartbeats 40000000 in
theorem rmokn (l : Launch) (Z : State) (a0 : Array Value) (hw : Hw Z a0) (ws : List Jvm.Cond) (c1 : Int32) (h0 : Heap) (n0 : Nat) (Z0 : n0 ≤ h0.size) (hk : ¬ okb c1 = true) :
    MF l Z Y22 method_3_code 1 (some .boolean) ws ({ frames := 0, cells := 0, slots := 0, locals := 0 } : Room) #[(.int c1)] h0 (Qokn Z c1 h0 n0) := by
  refine MF.of pn_5 (fun m => ef_okn m c1) ?_
  intro p e s m below meth c s₁ G X0 e0 hx hby hml hown hnm hlk hrt hZ hnd hG
  have N0 := Fr.nil n0
  refine Owe.iloadN X0.here hx (hb hby d22_0) rfl ?_
  refine Owe.bipush X0.here hx (hb hby d22_1) (w := (95 : Int32)) rfl ?_
  by_cases hc3_857 : c1 = (95 : Int32)
  · skip
    refine Owe.icmpNo X0.here hx (hb hby d22_3) rfl (teq hc3_857).2 ?_
    refine Owe.iconst X0.here hx (hb hby d22_6) (w := (1 : Int32)) rfl ?_
    exfalso
    simp only [okb_iff, Int32.lt_iff_toInt_lt, ← Int32.toInt_inj, n48, n57, n65, n90, n95] at hk hc3_857
    omega
  · skip
    refine Owe.icmpYes X0.here hx (hb hby d22_3) rfl (feq hc3_857).2 (pc' := 8) (by decide) (by decide) ?_
    refine Owe.iloadN X0.here hx (hb hby d22_8) rfl ?_
    refine Owe.bipush X0.here hx (hb hby d22_9) (w := (48 : Int32)) rfl ?_
    by_cases hc11_858 : c1 < (48 : Int32)
    · skip
      refine Owe.icmpNo X0.here hx (hb hby d22_11) rfl (tlt hc11_858).2.1 ?_
      refine Owe.iconst X0.here hx (hb hby d22_14) (w := (0 : Int32)) rfl ?_
      refine Owe.retN X0 hx hlk (t := .boolean) hrt (by simp) (hb hby d22_15) rfl fun fs hE => ?_
      refine hG _ _ ⟨_, _, rfl, ?_, frameMono hE (by decide) (by decide)⟩
      show Qokn Z c1 h0 n0 _ s₁.heap _
      rw [e0]
      exact ⟨rfl, N0, rfl⟩
    · skip
      refine Owe.icmpYes X0.here hx (hb hby d22_11) rfl (flt hc11_858).2.1 (pc' := 16) (by decide) (by decide) ?_
      refine Owe.iloadN X0.here hx (hb hby d22_16) rfl ?_
      refine Owe.bipush X0.here hx (hb hby d22_17) (w := (57 : Int32)) rfl ?_
      by_cases hc19_859 : (57 : Int32) < c1
      · skip
        refine Owe.icmpYes X0.here hx (hb hby d22_19) rfl (tlt hc19_859).2.2.1 (pc' := 24) (by decide) (by decide) ?_
        refine Owe.iloadN X0.here hx (hb hby d22_24) rfl ?_
        refine Owe.bipush X0.here hx (hb hby d22_25) (w := (65 : Int32)) rfl ?_
        by_cases hc27_860 : c1 < (65 : Int32)
        · skip
          refine Owe.icmpNo X0.here hx (hb hby d22_27) rfl (tlt hc27_860).2.1 ?_
          refine Owe.iconst X0.here hx (hb hby d22_30) (w := (0 : Int32)) rfl ?_
          refine Owe.retN X0 hx hlk (t := .boolean) hrt (by simp) (hb hby d22_31) rfl fun fs hE => ?_
          refine hG _ _ ⟨_, _, rfl, ?_, frameMono hE (by decide) (by decide)⟩
          show Qokn Z c1 h0 n0 _ s₁.heap _
          rw [e0]
          exact ⟨rfl, N0, rfl⟩
        · skip
          refine Owe.icmpYes X0.here hx (hb hby d22_27) rfl (flt hc27_860).2.1 (pc' := 32) (by decide) (by decide) ?_
          refine Owe.iloadN X0.here hx (hb hby d22_32) rfl ?_
          refine Owe.bipush X0.here hx (hb hby d22_33) (w := (90 : Int32)) rfl ?_
          by_cases hc35_861 : (90 : Int32) < c1
          · skip
            refine Owe.icmpYes X0.here hx (hb hby d22_35) rfl (tlt hc35_861).2.2.1 (pc' := 42) (by decide) (by decide) ?_
            refine Owe.iconst X0.here hx (hb hby d22_42) (w := (0 : Int32)) rfl ?_
            refine Owe.retN X0 hx hlk (t := .boolean) hrt (by simp) (hb hby d22_43) rfl fun fs hE => ?_
            refine hG _ _ ⟨_, _, rfl, ?_, frameMono hE (by decide) (by decide)⟩
            show Qokn Z c1 h0 n0 _ s₁.heap _
            rw [e0]
            exact ⟨rfl, N0, rfl⟩
          · skip
            refine Owe.icmpNo X0.here hx (hb hby d22_35) rfl (flt hc35_861).2.2.1 ?_
            refine Owe.iconst X0.here hx (hb hby d22_38) (w := (1 : Int32)) rfl ?_
            refine Owe.goto X0.here hx (hb hby d22_39) (pc' := 43) (by decide) (by decide) ?_
            exfalso
            simp only [okb_iff, Int32.lt_iff_toInt_lt, ← Int32.toInt_inj, n48, n57, n65, n90, n95] at hk hc3_857 hc11_858 hc19_859 hc27_860 hc35_861
            omega
      · skip
        refine Owe.icmpNo X0.here hx (hb hby d22_19) rfl (flt hc19_859).2.2.1 ?_
        refine Owe.iconst X0.here hx (hb hby d22_22) (w := (1 : Int32)) rfl ?_
        exfalso
        simp only [okb_iff, Int32.lt_iff_toInt_lt, ← Int32.toInt_inj, n48, n57, n65, n90, n95] at hk hc3_857 hc11_858 hc19_859
        omega
theorem ef_se2 (m : MethodId) (x0 : Addr) (x1 : Addr) (x2 : Int32) (x3 : Int32)  : entryFrame m #[(.ref x0), (.ref x1), (.int x2), (.int x3), .null] 6 = mkF m 0 #[.val (.ref x0), .val (.ref x1), .val (.int x2), .val (.int x3), .val .null, .unset] [] := by first | (simp [entryFrame, mkF, argsToLocals, Value.category]; done) | rfl
def Qse2 (Z : State) (a1 : Addr) (a2 : Addr) (h0 : Heap) (n0 : Nat) (v : Option Value) (h : Heap) (L : List Loc) : Prop := ∃ (b1 : Addr), ∃ (kb1 : ClassId), v = none ∧ Fr n0 L ∧ Keep h0 h [a1] ∧ Exa Z h a1 "java/lang/String" ∧ Fld Z h a1 "java/lang/String" "value" "[B" (.ref b1) ∧ Fld Z h a1 "java/lang/String" "coder" "B" (.int (0 : Int32)) ∧ Arv Z h b1 kb1 .byte (0 : Int32) [] (.int (0 : Int32))
set_option maxRecDepth 65536 in
set_option maxHeartbeats 40000000 in
theorem rmse2 (l : Launch) (Z : State) (a0 : Array Value) (hw : Hw Z a0) (ws : List Jvm.Cond) (a1 : Addr) (a2 : Addr) (h0 : Heap) (n0 : Nat) (Z0 : n0 ≤ h0.size) (E_a1 : Exa Z h0 a1 "java/lang/String") (Fvalue_a1 : Fld Z h0 a1 "java/lang/String" "value" "[B" .null) (Fcoder_a1 : Fld Z h0 a1 "java/lang/String" "coder" "B" (.int (0 : Int32))) (ge_a1 : n0 ≤ a1) :
    MetFree l Y8 (head1 (Jvm.Cond.code Y8 jdk_42_method_149_code 6 none :: ws) ({ frames := 1, cells := 2, slots := 4, locals := 13 } : Room)) (fun a U => a = #[(.ref a1), (.ref a2), (.int (0 : Int32)), (.int (0 : Int32)), .null] ∧ Z.Warmed39 U.vm ∧ U.heap = h0 ∧ CHv Z own_EL U.vm h0) (fun _ _ _ _ _ => True) (fun _ U o U' => ∃ v L, o = .returned v ∧ Qse2 Z a1 a2 h0 n0 v U'.heap L ∧ CHr Z own_EL U.vm U.heap U'.vm U'.heap ∧ ReturnedEndW U o U' L ({ frames := 1, cells := 2, slots := 4, locals := 13 } : Room).cells ({ frames := 1, cells := 2, slots := 4, locals := 13 } : Room).slots) := by
  refine MetFree.of_bodySF (plainFor_of_name pn_1) hisR ?_
  intro p e s m args below meth c s₁ Bd hml0 hP hK
  obtain ⟨rfl, hZ0, hh, H0⟩ := hP
  have hx := Bd.exec
  have hby := Bd.bytes
  have hml : c.maxLocals = 6 := hml0
  have hown : s.vm.findClass "java/lang/String" = some m.cls := findClass_of_methodNamed Bd.named
  have hnm := (name_of_methodNamed Bd.named Bd.method).1
  have hlk : meth.locks = false := BodyLoose.notSynchronized Bd
  have X0 : Stand p l e ({ frames := 1, cells := 2, slots := 4, locals := 13 } : Room) (s.setVm s.vm) m #[(.ref a1), (.ref a2), (.int (0 : Int32)), (.int (0 : Int32)), .null] below meth c s₁ [] 0 0 := Stand.of_body Bd
  have e0 : s₁.heap = h0 := by rw [← hh, Bd.state]; rfl
  have N0 := Fr.nil n0
  have hrt := Bd.returns
  have K0 := Keep.refl h0 [a1]
  have hZ : Z.Warmed39 (s.setVm s.vm).vm := hZ0
  have hown1 : (s.setVm s.vm).vm.findClass "java/lang/String" = some m.cls := hown
  have hS0 : s.Since s.vm 0 := (State.WarmedH.refl s).since 0
  have hk0 : 0 ≤ h0.size := Nat.zero_le _
  have R0 : CHr Z own_EL s.vm h0 s.vm h0 := CHr.refl H0
  have sf_a1 : Safe Z own_EL s.vm h0 a1 := own_safe_null hZ0.alike E_a1 Fvalue_a1
  obtain ⟨G, hG⟩ : ∃ G : Outcome → State → Prop, G = fun o u => ∃ v L, o = .returned v ∧ Qse2 Z a1 a2 h0 n0 v u.heap L ∧ CHr Z own_EL s.vm s.heap u.vm u.heap ∧ ReturnedEndW s o u L ({ frames := 1, cells := 2, slots := 4, locals := 13 } : Room).cells ({ frames := 1, cells := 2, slots := 4, locals := 13 } : Room).slots := ⟨_, rfl⟩
  suffices hgo : Owe p.tables e below G s₁ (mkF m 0 #[.val (.ref a1), .val (.ref a2), .val (.int (0 : Int32)), .val (.int (0 : Int32)), .val .null, .unset] []) by
    obtain ⟨u, o, h1, h2, h3, h4⟩ := hgo
    exact ⟨u, o, castTop (ef_se2 m a1 a2 (0 : Int32) (0 : Int32)) h1, h2, h3, by rw [hG] at h4; exact h4⟩
  refine Owe.aloadN X0.here hx (hb hby d8_0) rfl rfl ?_
  refine Owe.objinit X0 hx hZ hown1 (wd hw 12) (wd hw 13) (wd hw 14) e0 (by rw [hml]; rfl) rfl (hb hby d8_1) (by decide) (W := 0) (nb rfl) (by decide) fun T862 X862 e862 => ?_
  refine Owe.iloadN X862.here hx (hb hby d8_4) rfl ?_
  refine Owe.ifNo X862.here hx (hb hby d8_5) rfl ((if0 _ _).trans (teq (by decide)).2) ?_
  refine Owe.aloadN X862.here hx (hb hby d8_8) rfl rfl ?_
  refine Owe.ldcV X862 hx hZ hS0 (own_ew hw) H0 (by decide) hown1 (wd hw 15) (own_wS hw) e862 hk0 (vs := []) (z := (0 : Int32)) (by decide) (by decide) rfl (hb hby d8_9) (n := 0) (by decide) (by decide) (by decide) (by decide) fun l863 T863 h863 k863 lb863 lk863 X863 e863 E863 hS863 hk863 hZ863 hown863 Ex863 Fc863 Fv863 Vb863 hC863 Lt863 nsf863 => ?_
  have hk864 := Nat.le_trans hk0 E863.1
  have K_865 := K0.ext E863
  have E_a1_866 := E_a1.ext E863
  have Fvalue_a1_867 := Fvalue_a1.ext E863
  have Fcoder_a1_868 := Fcoder_a1.ext E863
  have Z_869 := Nat.le_trans Z0 E863.1
  have sf_a1_863 := CHr.safe hC863 E_a1.lt sf_a1
  have Rr863 := R0.trans hC863
  have H863 := hC863.1
  have ne_a1_l863 := (nsf863 _ sf_a1_863).1
  have ne_a1_lb863 := (nsf863 _ sf_a1_863).2
  refine Owe.getf X863 hx hZ863 (host := "") hown863 (Or.inl (wd hw 21)) Via.refl e863 Fv863 (hb hby d8_11) rfl fun T870 X870 e870 => ?_
  refine Owe.putf X870 hx hZ863 (host := "") hown863 (Or.inl (wd hw 21)) Via.refl e870 Fvalue_a1_867 E_a1_866 (Or.inr ⟨(wd hw 17), rfl, hnm⟩) (wd hw 3) (ty := (.array .byte)) (by decide) rfl rfl (hb hby d8_14) rfl fun T871 h871 X871 e871 W871 => ?_
  have hk872 := Nat.le_trans hk863 (Keep.of_wr W871).1
  have sf_a1_872 := Safe.wr W871 sf_a1_863 H863 sf_a1_863
  have Rr872 := Rr863.trans (CHr.wr W871 sf_a1_863 H863)
  have H872 := CHv.wr W871 sf_a1_863 H863
  have K_873 := K_865.wr W871 (Or.inl (List.mem_of_getElem? (i := 0) rfl))
  have E_a1_874 := E_a1_866.wr W871
  have Fvalue_a1_875 := Fvalue_a1_867.same W871
  have Fcoder_a1_876 := Fcoder_a1_868.other W871 (Or.inr (slot_ne (Or.inr (wd hw 18)) (Or.inr (wd hw 17)) (by decide) (t := .byte) (t' := (.array .byte)) (by decide) (by decide)))
  have Ex863_877 := Ex863.wr W871
  have Fc863_878 := Fc863.other W871 (Or.inl (Ne.symm ne_a1_l863))
  have Fv863_879 := Fv863.other W871 (Or.inl (Ne.symm ne_a1_l863))
  have Vb863_880 := Vb863.other W871 (Ne.symm ne_a1_lb863)
  have Z_881 := Nat.le_trans Z_869 (Keep.of_wr W871).1
  have N871 := Fr.snoc X871 N0 ge_a1
  refine Owe.aloadN X871.here hx (hb hby d8_17) rfl rfl ?_
  refine Owe.ldcA X871 hx hZ863 hown863 (wd hw 15) Lt863 (hb hby d8_18) ?_
  refine Owe.getf X871 hx hZ863 (host := "") hown863 (Or.inl (wd hw 22)) Via.refl e871 Fc863_878 (hb hby d8_20) rfl fun T883 X883 e883 => ?_
  refine Owe.putf X883 hx hZ863 (host := "") hown863 (Or.inl (wd hw 22)) Via.refl e883 Fcoder_a1_876 E_a1_874 (Or.inr ⟨(wd hw 18), rfl, hnm⟩) (wd hw 3) (ty := .byte) (by decide) rfl rfl (hb hby d8_23) rfl fun T884 h884 X884 e884 W884 => ?_
  have hk885 := Nat.le_trans hk872 (Keep.of_wr W884).1
  have sf_a1_885 := Safe.wr W884 sf_a1_872 H872 sf_a1_872
  have Rr885 := Rr872.trans (CHr.wr W884 sf_a1_872 H872)
  have H885 := CHv.wr W884 sf_a1_872 H872
  have K_886 := K_873.wr W884 (Or.inl (List.mem_of_getElem? (i := 0) rfl))
  have E_a1_887 := E_a1_874.wr W884
  have Fvalue_a1_888 := Fvalue_a1_875.other W884 (Or.inr (slot_ne (Or.inr (wd hw 17)) (Or.inr (wd hw 18)) (by decide) (t := (.array .byte)) (t' := .byte) (by decide) (by decide)))
  have Fcoder_a1_889 := Fcoder_a1_876.same W884
  have Ex863_890 := Ex863_877.wr W884
  have Fc863_891 := Fc863_878.other W884 (Or.inl (Ne.symm ne_a1_l863))
  have Fv863_892 := Fv863_879.other W884 (Or.inl (Ne.symm ne_a1_l863))
  have Vb863_893 := Vb863_880.other W884 (Ne.symm ne_a1_lb863)
  have Z_894 := Nat.le_trans Z_881 (Keep.of_wr W884).1
  have N884 := Fr.snoc X884 N871 ge_a1
  refine Owe.ret0W X884 hx hS863 e884 hk885 hlk hrt (hb hby d8_26) rfl fun fs hE => ?_
  rw [hG]
  refine ⟨_, _, rfl, ?_, ?_, coldMono hE (by decide) (by decide)⟩
  rotate_left
  · rw [hh]
    show CHr Z own_EL s.vm h0 T884.vm T884.heap
    rw [e884]
    exact Rr885.trans (CHv.at X884 hZ863 (own_ew hw) H885)
  show Qse2 Z a1 a2 h0 n0 _ T884.heap _
  rw [e884]
  exact ⟨lb863, lk863, rfl, N884, K_886, E_a1_887, Fvalue_a1_888, Fcoder_a1_889, Vb863_893⟩
theorem ef_se1 (m : MethodId) (x0 : Addr) (x1 : Addr)  : entryFrame m #[(.ref x0), (.ref x1)] 2 = mkF m 0 #[.val (.ref x0), .val (.ref x1)] [] := by first | (simp [entryFrame, mkF, argsToLocals, Value.category]; done) | rfl
def Qse1 (Z : State) (a1 : Addr) (a2 : Addr) (k2 : ClassId) (h0 : Heap) (n0 : Nat) (v : Option Value) (h : Heap) (L : List Loc) : Prop := ∃ (b1 : Addr), ∃ (kb1 : ClassId), v = none ∧ Fr n0 L ∧ Keep h0 h [a1] ∧ Exa Z h a1 "java/lang/String" ∧ Fld Z h a1 "java/lang/String" "value" "[B" (.ref b1) ∧ Fld Z h a1 "java/lang/String" "coder" "B" (.int (0 : Int32)) ∧ Arv Z h b1 kb1 .byte (0 : Int32) [] (.int (0 : Int32))
set_option maxRecDepth 65536 in
set_option maxHeartbeats 40000000 in
theorem rmse1 (l : Launch) (Z : State) (a0 : Array Value) (hw : Hw Z a0) (ws : List Jvm.Cond) (a1 : Addr) (a2 : Addr) (k2 : ClassId) (h0 : Heap) (n0 : Nat) (Z0 : n0 ≤ h0.size) (E_a1 : Exa Z h0 a1 "java/lang/String") (Fvalue_a1 : Fld Z h0 a1 "java/lang/String" "value" "[B" .null) (Fcoder_a1 : Fld Z h0 a1 "java/lang/String" "coder" "B" (.int (0 : Int32))) (ge_a1 : n0 ≤ a1) (V_a2 : Arv Z h0 a2 k2 .char (0 : Int32) [] (.int (0 : Int32))) (ne_a2_a1 : a2 ≠ a1) :
    MetFree l Y9 (head1 (Jvm.Cond.code Y9 jdk_42_method_3_code 2 none :: ws) ({ frames := 2, cells := 2, slots := 4, locals := 30 } : Room)) (fun a U => a = #[(.ref a1), (.ref a2)] ∧ Z.Warmed39 U.vm ∧ U.heap = h0 ∧ CHv Z own_EL U.vm h0) (fun _ _ _ _ _ => True) (fun _ U o U' => ∃ v L, o = .returned v ∧ Qse1 Z a1 a2 k2 h0 n0 v U'.heap L ∧ CHr Z own_EL U.vm U.heap U'.vm U'.heap ∧ ReturnedEndW U o U' L ({ frames := 2, cells := 2, slots := 4, locals := 30 } : Room).cells ({ frames := 2, cells := 2, slots := 4, locals := 30 } : Room).slots) := by
  refine MetFree.of_bodySF (plainFor_of_name pn_1) hisR ?_
  intro p e s m args below meth c s₁ Bd hml0 hP hK
  obtain ⟨rfl, hZ0, hh, H0⟩ := hP
  have hx := Bd.exec
  have hby := Bd.bytes
  have hml : c.maxLocals = 2 := hml0
  have hown : s.vm.findClass "java/lang/String" = some m.cls := findClass_of_methodNamed Bd.named
  have hnm := (name_of_methodNamed Bd.named Bd.method).1
  have hlk : meth.locks = false := BodyLoose.notSynchronized Bd
  have X0 : Stand p l e ({ frames := 2, cells := 2, slots := 4, locals := 30 } : Room) (s.setVm s.vm) m #[(.ref a1), (.ref a2)] below meth c s₁ [] 0 0 := Stand.of_body Bd
  have e0 : s₁.heap = h0 := by rw [← hh, Bd.state]; rfl
  have N0 := Fr.nil n0
  have hrt := Bd.returns
  have K0 := Keep.refl h0 [a1]
  have hZ : Z.Warmed39 (s.setVm s.vm).vm := hZ0
  have hown1 : (s.setVm s.vm).vm.findClass "java/lang/String" = some m.cls := hown
  have hS0 : s.Since s.vm 0 := (State.WarmedH.refl s).since 0
  have hk0 : 0 ≤ h0.size := Nat.zero_le _
  have R0 : CHr Z own_EL s.vm h0 s.vm h0 := CHr.refl H0
  have sf_a1 : Safe Z own_EL s.vm h0 a1 := own_safe_null hZ0.alike E_a1 Fvalue_a1
  obtain ⟨G, hG⟩ : ∃ G : Outcome → State → Prop, G = fun o u => ∃ v L, o = .returned v ∧ Qse1 Z a1 a2 k2 h0 n0 v u.heap L ∧ CHr Z own_EL s.vm s.heap u.vm u.heap ∧ ReturnedEndW s o u L ({ frames := 2, cells := 2, slots := 4, locals := 30 } : Room).cells ({ frames := 2, cells := 2, slots := 4, locals := 30 } : Room).slots := ⟨_, rfl⟩
  suffices hgo : Owe p.tables e below G s₁ (mkF m 0 #[.val (.ref a1), .val (.ref a2)] []) by
    obtain ⟨u, o, h1, h2, h3, h4⟩ := hgo
    exact ⟨u, o, castTop (ef_se1 m a1 a2) h1, h2, h3, by rw [hG] at h4; exact h4⟩
  refine Owe.aloadN X0.here hx (hb hby d9_0) rfl rfl ?_
  refine Owe.aloadN X0.here hx (hb hby d9_1) rfl rfl ?_
  refine Owe.iconst X0.here hx (hb hby d9_2) (w := (0 : Int32)) rfl ?_
  refine Owe.aloadN X0.here hx (hb hby d9_3) rfl rfl ?_
  refine Owe.arrlen X0 hx hZ e0 V_a2 (hb hby d9_4) rfl ?_
  refine Owe.aconstNull X0.here hx (hb hby d9_5)  ?_
  refine Owe.specialS X0 hx hZ hS0 hk0 (y := Y8) rfl hown1 (mvT hZ (wd hw 8)) (mvT hZ (wd hw 9)) (mvT hZ (wd hw 11)) (by decide) (backOfSH (W := 0) (rmse2 l Z a0 hw [] a1 a2 h0 n0 Z0 E_a1 Fvalue_a1 Fcoder_a1 ge_a1) hZ (wd hw 11) (wd hw 4) (by decide) (by decide) (own_ew hw) H0) (by rw [hml]; rfl) (a := a1) (argsL := [(.ref a2), (.int (0 : Int32)), (.int (0 : Int32)), .null]) (rest := []) (lenOf pd_6 rfl) rfl (nb rfl) (hb hby d9_6) rfl e0 (by decide) (by decide) fun T895 v895 L895 X895 hS895 hZ895 hown895 hC895 hQ895 => ?_
  obtain ⟨b1_895, kb1_895, rfl, Nq895, K895, E_a1_895, Fvalue_a1_895, Fcoder_a1_895, V_b1_895⟩ := hQ895
  have N895 := Fr.app N0 Nq895
  have hk896 := Nat.le_trans hk0 K895.1
  have K_897 := K0.trans K895 (allS (Or.inl (List.mem_of_getElem? (i := 0) rfl)) all0)
  have E_a1_898 := E_a1.keep K895
  have V_a2_899 := V_a2.keep K895 (ninS ne_a2_a1 nin0)
  have Z_900 := Nat.le_trans Z0 K895.1
  have sf_a1_895 := CHr.safe hC895 E_a1.lt sf_a1
  have Rr895 := R0.trans hC895
  have H895 := hC895.1
  have hk895 : T895.heap.size ≤ T895.heap.size := Nat.le_refl _
  refine Owe.ret0W X895 hx hS895 rfl hk895 hlk hrt (hb hby d9_9) rfl fun fs hE => ?_
  rw [hG]
  refine ⟨_, _, rfl, ?_, ?_, coldMono hE (by decide) (by decide)⟩
  rotate_left
  · rw [hh]
    show CHr Z own_EL s.vm h0 T895.vm T895.heap
    exact Rr895.trans (CHv.at X895 hZ895 (own_ew hw) H895)
  show Qse1 Z a1 a2 k2 h0 n0 _ T895.heap _
  exact ⟨b1_895, kb1_895, rfl, N895, K_897, E_a1_895, Fvalue_a1_895, Fcoder_a1_895, V_b1_895⟩
theorem ef_0 (m : MethodId) (x0 : Int32) (x1 : Int32) (x2 : Int32) (x3 : Int32) (x4 : Int32)  : entryFrame m #[(.int x0), (.int x1), (.int x2), (.int x3), (.int x4)] maxLocals = mkF m 0 #[.val (.int x0), .val (.int x1), .val (.int x2), .val (.int x3), .val (.int x4), .unset, .unset, .unset, .unset, .unset, .unset, .unset, .unset] [] := by first | (simp [entryFrame, mkF, argsToLocals, Value.category, maxLocals]; done) | rfl
def Q0 (Z : State) (p1 : Int32) (p2 : Int32) (p3 : Int32) (p4 : Int32) (p5 : Int32) (fm : Value) (G1 : Int32) (h0 : Heap) (n0 : Nat) (v : Option Value) (h : Heap) (L : List Loc) : Prop := v = some (.int 1) ∧ Fr n0 L
set_option maxRecDepth 65536 in
set_option maxHeartbeats 40000000 in
theorem rm0 (l : Launch) (Z : State) (a0 : Array Value) (hw : Hw Z a0) (ws : List Jvm.Cond) (p1 : Int32) (p2 : Int32) (p3 : Int32) (p4 : Int32) (p5 : Int32) (fm : Value) (G1 : Int32) (h0 : Heap) (n0 : Nat) (Z0 : n0 ≤ h0.size) (S_COMPACT_STRINGS : Sta Z Z.heap "java/lang/String" "COMPACT_STRINGS" "Z" (.int G1)) (cs0 : ¬ (G1 = (0 : Int32))) (Ol : Old Z n0 h0) (S_SIOOBE_FORMATTER : Sta Z Z.heap "jdk/internal/util/Preconditions" "SIOOBE_FORMATTER" "Ljava/util/function/BiFunction;" fm) (ir_fm : (fm).isRef = true) (S__assertionsDisabled : Sta Z Z.heap "java/lang/StringUTF16" "$assertionsDisabled" "Z" (.int (1 : Int32))) (S_HI_BYTE_SHIFT : Sta Z Z.heap "java/lang/StringUTF16" "HI_BYTE_SHIFT" "I" (.int (0 : Int32))) (S_LO_BYTE_SHIFT : Sta Z Z.heap "java/lang/StringUTF16" "LO_BYTE_SHIFT" "I" (.int (8 : Int32))) :
    MetFree l x (head1 (Jvm.Cond.code x code maxLocals ret :: ws) room_1) (fun a U => a = #[(.int p1), (.int p2), (.int p3), (.int p4), (.int p5)] ∧ Z.Warmed39 U.vm ∧ U.heap = h0 ∧ CHv Z own_EL U.vm h0) (fun _ _ _ _ _ => True) (fun _ U o U' => ∃ v L, o = .returned v ∧ Q0 Z p1 p2 p3 p4 p5 fm G1 h0 n0 v U'.heap L ∧ CHr Z own_EL U.vm U.heap U'.vm U'.heap ∧ ReturnedEndW U o U' L room_1.cells room_1.slots) := by
  refine MetFree.of_bodySF (plainFor_of_name pn_5) hisR ?_
  intro p e s m args below meth c s₁ Bd hml0 hP hK
  obtain ⟨rfl, hZ0, hh, H0⟩ := hP
  have hx := Bd.exec
  have hby := Bd.bytes
  have hml : c.maxLocals = 13 := hml0
  have hown : s.vm.findClass "com/example/redelivery/redelivery/ClassificationIsReasonCodePinLaw" = some m.cls := findClass_of_methodNamed Bd.named
  have hnm := (name_of_methodNamed Bd.named Bd.method).1
  have hlk : meth.locks = false := BodyLoose.notSynchronized Bd
  have X0 : Stand p l e room_1 (s.setVm s.vm) m #[(.int p1), (.int p2), (.int p3), (.int p4), (.int p5)] below meth c s₁ [] 0 0 := Stand.of_body Bd
  have e0 : s₁.heap = h0 := by rw [← hh, Bd.state]; rfl
  have N0 := Fr.nil n0
  have hrt := Bd.returns
  have hZ : Z.Warmed39 (s.setVm s.vm).vm := hZ0
  have hown1 : (s.setVm s.vm).vm.findClass "com/example/redelivery/redelivery/ClassificationIsReasonCodePinLaw" = some m.cls := hown
  have hS0 : s.Since s.vm 0 := (State.WarmedH.refl s).since 0
  have hk0 : 0 ≤ h0.size := Nat.zero_le _
  have R0 : CHr Z own_EL s.vm h0 s.vm h0 := CHr.refl H0
  obtain ⟨G, hG⟩ : ∃ G : Outcome → State → Prop, G = fun o u => ∃ v L, o = .returned v ∧ Q0 Z p1 p2 p3 p4 p5 fm G1 h0 n0 v u.heap L ∧ CHr Z own_EL s.vm s.heap u.vm u.heap ∧ ReturnedEndW s o u L room_1.cells room_1.slots := ⟨_, rfl⟩
  suffices hgo : Owe p.tables e below G s₁ (mkF m 0 #[.val (.int p1), .val (.int p2), .val (.int p3), .val (.int p4), .val (.int p5), .unset, .unset, .unset, .unset, .unset, .unset, .unset, .unset] []) by
    obtain ⟨u, o, h1, h2, h3, h4⟩ := hgo
    exact ⟨u, o, castTop (ef_0 m p1 p2 p3 p4 p5) h1, h2, h3, by rw [hG] at h4; exact h4⟩
  refine Owe.iloadN X0.here hx (hb hby at_0) rfl ?_
  refine Owe.ldcI X0 hx (v := (2147483647 : Int32)) hown1 (mvT hZ (wd hw 0)) (hb hby at_1) ?_
  refine Owe.iand X0.here hx (hb hby at_3) rfl ?_
  refine Owe.iconst X0.here hx (hb hby at_4) (w := (5 : Int32)) rfl ?_
  refine Owe.irem X0.here hx (hb hby at_5) rfl (by decide) ?_
  rcases own_rem5 p1 with hk | hk | hk | hk | hk
  · rw [hk]
    refine Owe.istore X0.here hx (hb hby at_6) rfl (l' := #[.val (.int p1), .val (.int p2), .val (.int p3), .val (.int p4), .val (.int p5), .val (.int (0 : Int32)), .unset, .unset, .unset, .unset, .unset, .unset, .unset]) rfl ?_
    refine Owe.iloadN X0.here hx (hb hby at_8) rfl ?_
    refine Owe.i2c X0.here hx (hb hby at_9) rfl ?_
    refine Owe.istore X0.here hx (hb hby at_10) rfl (l' := #[.val (.int p1), .val (.int p2), .val (.int p3), .val (.int p4), .val (.int p5), .val (.int (0 : Int32)), .val (.int (p2.toUInt32.toUInt16.toUInt32.toInt32)), .unset, .unset, .unset, .unset, .unset, .unset]) rfl ?_
    refine Owe.iloadN X0.here hx (hb hby at_12) rfl ?_
    refine Owe.i2c X0.here hx (hb hby at_13) rfl ?_
    refine Owe.istore X0.here hx (hb hby at_14) rfl (l' := #[.val (.int p1), .val (.int p2), .val (.int p3), .val (.int p4), .val (.int p5), .val (.int (0 : Int32)), .val (.int (p2.toUInt32.toUInt16.toUInt32.toInt32)), .val (.int (p3.toUInt32.toUInt16.toUInt32.toInt32)), .unset, .unset, .unset, .unset, .unset]) rfl ?_
    refine Owe.iloadN X0.here hx (hb hby at_16) rfl ?_
    refine Owe.i2c X0.here hx (hb hby at_17) rfl ?_
    refine Owe.istore X0.here hx (hb hby at_18) rfl (l' := #[.val (.int p1), .val (.int p2), .val (.int p3), .val (.int p4), .val (.int p5), .val (.int (0 : Int32)), .val (.int (p2.toUInt32.toUInt16.toUInt32.toInt32)), .val (.int (p3.toUInt32.toUInt16.toUInt32.toInt32)), .val (.int (p4.toUInt32.toUInt16.toUInt32.toInt32)), .unset, .unset, .unset, .unset]) rfl ?_
    refine Owe.iload X0.here hx (hb hby at_20) rfl ?_
    refine Owe.i2c X0.here hx (hb hby at_22) rfl ?_
    refine Owe.istore X0.here hx (hb hby at_23) rfl (l' := #[.val (.int p1), .val (.int p2), .val (.int p3), .val (.int p4), .val (.int p5), .val (.int (0 : Int32)), .val (.int (p2.toUInt32.toUInt16.toUInt32.toInt32)), .val (.int (p3.toUInt32.toUInt16.toUInt32.toInt32)), .val (.int (p4.toUInt32.toUInt16.toUInt32.toInt32)), .val (.int (p5.toUInt32.toUInt16.toUInt32.toInt32)), .unset, .unset, .unset]) rfl ?_
    refine Owe.iload X0.here hx (hb hby at_25) rfl ?_
    refine Owe.ifNo X0.here hx (hb hby at_27) rfl ((if0 _ _).trans (teq (by decide)).2) ?_
    refine Owe.iconst X0.here hx (hb hby at_30) (w := (0 : Int32)) rfl ?_
    refine Owe.newarr X0 hx hZ (aty := .char) (wd hw 1) e0 (hb hby at_31) rfl (by decide) (cap := 0) (by decide) (by decide) (by decide) (by decide) fun T901 h901 b901 k901 g901 X901 e901 E901 V901 => ?_
    have sf_b901 := (Safe.new (Nat.le_of_eq g901.symm) : Safe Z own_EL s.vm h0 b901)
    have ge_b901 := Nat.le_trans Z0 (Nat.le_of_eq g901.symm)
    have hk902 := Nat.le_trans hk0 E901.1
    have sf_b901_902 := Safe.ext E901 H0 sf_b901
    have Rr902 := R0.trans (CHr.ext E901 H0)
    have H902 := CHv.ext E901 H0
    have Ol_903 := Ol.ext E901
    have Z_904 := Nat.le_trans Z0 E901.1
    have V_b901_901 : Arv Z h901 b901 k901 .char (0 : Int32) [] (.int (0 : Int32)) := V901
    refine Owe.astore X901.here hx (hb hby at_33) rfl rfl (l' := #[.val (.int p1), .val (.int p2), .val (.int p3), .val (.int p4), .val (.int p5), .val (.int (0 : Int32)), .val (.int (p2.toUInt32.toUInt16.toUInt32.toInt32)), .val (.int (p3.toUInt32.toUInt16.toUInt32.toInt32)), .val (.int (p4.toUInt32.toUInt16.toUInt32.toInt32)), .val (.int (p5.toUInt32.toUInt16.toUInt32.toInt32)), .val (.ref b901), .unset, .unset]) rfl ?_
    refine Owe.goto X901.here hx (hb hby at_35) (pc' := 135) (by decide) (by decide) ?_
    refine Owe.new X901 hx hZ hown1 (wd hw 2) (wd hw 3) (wd hw 4) e901 (hb hby at_135) (by decide) (by decide) fun T905 h905 b905 g905 X905 e905 E905 A905 D905 => ?_
    have ne_b901_b905 : b901 ≠ b905 := Nat.ne_of_lt (Nat.lt_of_lt_of_le V_b901_901.lt (Nat.le_of_eq g905.symm))
    have sf_b905 := (Safe.new (Nat.le_of_eq g905.symm) : Safe Z own_EL s.vm h901 b905)
    have ge_b905 := Nat.le_trans Z_904 (Nat.le_of_eq g905.symm)
    have hk906 := Nat.le_trans hk902 E905.1
    have sf_b901_906 := Safe.ext E905 H902 sf_b901_902
    have sf_b905_906 := Safe.ext E905 H902 sf_b905
    have Rr906 := Rr902.trans (CHr.ext E905 H902)
    have H906 := CHv.ext E905 H902
    have Ol_907 := Ol_903.ext E905
    have V_b901_908 := V_b901_901.ext E905
    have Z_909 := Nat.le_trans Z_904 E905.1
    have Fvalue_b905 : Fld Z h905 b905 "java/lang/String" "value" "[B" .null := D905 (Or.inr (wd hw 17)) (ty := (.array .byte)) (by decide)
    have Fcoder_b905 : Fld Z h905 b905 "java/lang/String" "coder" "B" (.int (0 : Int32)) := D905 (Or.inr (wd hw 18)) (ty := .byte) (by decide)
    refine Owe.dup X905.here hx (hb hby at_138) rfl rfl ?_
    refine Owe.aload X905.here hx (hb hby at_139) rfl rfl ?_
    refine Owe.specialS X905 hx hZ hS0 hk906 (y := Y9) rfl hown1 (mvT hZ (wd hw 5)) (mvT hZ (wd hw 6)) (mvT hZ (wd hw 7)) (by decide) (backOfSH (W := 1) (rmse1 l Z a0 hw [] b905 b901 k901 h905 n0 Z_909 A905 Fvalue_b905 Fcoder_b905 ge_b905 V_b901_908 ne_b901_b905) hZ (wd hw 7) (wd hw 4) (by decide) (by decide) (own_ew hw) H906) (by rw [hml]; rfl) (a := b905) (argsL := [(.ref b901)]) (rest := [(.ref b905)]) (lenOf pd_16 rfl) rfl (nb rfl) (hb hby at_141) rfl e905 (by decide) (by decide) fun T910 v910 L910 X910 hS910 hZ910 hown910 hC910 hQ910 => ?_
    obtain ⟨b1_910, kb1_910, rfl, Nq910, K910, E_a1_910, Fvalue_a1_910, Fcoder_a1_910, V_b1_910⟩ := hQ910
    have N910 := Fr.app N0 Nq910
    have hk911 := Nat.le_trans hk906 K910.1
    have Ol_912 := Ol_907.keep K910 (allS ge_b905 all0)
    have V_b901_913 := V_b901_908.keep K910 (ninS ne_b901_b905 nin0)
    have A905_914 := A905.keep K910
    have Z_915 := Nat.le_trans Z_909 K910.1
    have sf_b901_910 := CHr.safe hC910 V_b901_908.lt sf_b901_906
    have sf_b905_910 := CHr.safe hC910 A905.lt sf_b905_906
    have Rr910 := Rr906.trans hC910
    have H910 := hC910.1
    have hk910 : T910.heap.size ≤ T910.heap.size := Nat.le_refl _
    refine Owe.astore X910.here hx (hb hby at_144) rfl rfl (l' := #[.val (.int p1), .val (.int p2), .val (.int p3), .val (.int p4), .val (.int p5), .val (.int (0 : Int32)), .val (.int (p2.toUInt32.toUInt16.toUInt32.toInt32)), .val (.int (p3.toUInt32.toUInt16.toUInt32.toInt32)), .val (.int (p4.toUInt32.toUInt16.toUInt32.toInt32)), .val (.int (p5.toUInt32.toUInt16.toUInt32.toInt32)), .val (.ref b901), .val (.ref b905), .unset]) rfl ?_
    refine Owe.iload X910.here hx (hb hby at_146) rfl ?_
    refine Owe.ifNo X910.here hx (hb hby at_148) rfl ((if0 _ _).trans (teq (by decide)).2) ?_
    refine Owe.iconst X910.here hx (hb hby at_151) (w := (0 : Int32)) rfl ?_
    refine Owe.istore X910.here hx (hb hby at_152) rfl (l' := #[.val (.int p1), .val (.int p2), .val (.int p3), .val (.int p4), .val (.int p5), .val (.int (0 : Int32)), .val (.int (p2.toUInt32.toUInt16.toUInt32.toInt32)), .val (.int (p3.toUInt32.toUInt16.toUInt32.toInt32)), .val (.int (p4.toUInt32.toUInt16.toUInt32.toInt32)), .val (.int (p5.toUInt32.toUInt16.toUInt32.toInt32)), .val (.ref b901), .val (.ref b905), .val (.int (0 : Int32))]) rfl ?_
    refine Owe.goto X910.here hx (hb hby at_154) (pc' := 242) (by decide) (by decide) ?_
    refine Owe.aload X910.here hx (hb hby at_242) rfl rfl ?_
    refine Owe.stat X910 hx (y := Y21) hown910 (mvT hZ910 (wd hw 23)) (mvT hZ910 (wd hw 24)) (mvT hZ910 (wd hw 25)) (mvT hZ910 (wd hw 26)) (by decide) (backOf (W := 0) (rmirc0_0 l Z a0 hw [] b905 b1_910 kb1_910 fm G1 T910.heap n0 Z_915 Fvalue_a1_910 V_b1_910 E_a1_910 Fcoder_a1_910 S_COMPACT_STRINGS cs0 Ol_912 S_SIOOBE_FORMATTER ir_fm S__assertionsDisabled S_HI_BYTE_SHIFT S_LO_BYTE_SHIFT) hZ910 (wd hw 26) (wd hw 25) (by decide) (by decide)) (by rw [hml]; rfl) (argsL := [(.ref b905)]) (rest := []) (lenOf pd_17 rfl) rfl (nb rfl) (hb hby at_244) rfl rfl (by decide) (by decide) fun T916 v916 L916 X916 hQ916 => ?_
    obtain ⟨rfl, Nq916, e916⟩ := hQ916
    have N916 := Fr.app N910 Nq916
    refine Owe.iload X916.here hx (hb hby at_247) rfl ?_
    refine Owe.icmpNo X916.here hx (hb hby at_249) rfl (teq (by decide)).2 ?_
    refine Owe.iconst X916.here hx (hb hby at_252) (w := (1 : Int32)) rfl ?_
    refine Owe.goto X916.here hx (hb hby at_253) (pc' := 257) (by decide) (by decide) ?_
    refine Owe.retNW X916 hx hS910 e916 hk910 hlk (t := .boolean) hrt (by simp) (hb hby at_257) rfl fun fs hE => ?_
    rw [hG]
    refine ⟨_, _, rfl, ?_, ?_, coldMono hE (by decide) (by decide)⟩
    rotate_left
    · rw [hh]
      show CHr Z own_EL s.vm h0 T916.vm T916.heap
      rw [e916]
      exact Rr910.trans (CHv.at X916 hZ910 (own_ew hw) H910)
    show Q0 Z p1 p2 p3 p4 p5 fm G1 h0 n0 _ T916.heap _
    rw [e916]
    exact ⟨rfl, N916⟩
  · rw [hk]
    refine Owe.istore X0.here hx (hb hby at_6) rfl (l' := #[.val (.int p1), .val (.int p2), .val (.int p3), .val (.int p4), .val (.int p5), .val (.int (1 : Int32)), .unset, .unset, .unset, .unset, .unset, .unset, .unset]) rfl ?_
    refine Owe.iloadN X0.here hx (hb hby at_8) rfl ?_
    refine Owe.i2c X0.here hx (hb hby at_9) rfl ?_
    refine Owe.istore X0.here hx (hb hby at_10) rfl (l' := #[.val (.int p1), .val (.int p2), .val (.int p3), .val (.int p4), .val (.int p5), .val (.int (1 : Int32)), .val (.int (p2.toUInt32.toUInt16.toUInt32.toInt32)), .unset, .unset, .unset, .unset, .unset, .unset]) rfl ?_
    refine Owe.iloadN X0.here hx (hb hby at_12) rfl ?_
    refine Owe.i2c X0.here hx (hb hby at_13) rfl ?_
    refine Owe.istore X0.here hx (hb hby at_14) rfl (l' := #[.val (.int p1), .val (.int p2), .val (.int p3), .val (.int p4), .val (.int p5), .val (.int (1 : Int32)), .val (.int (p2.toUInt32.toUInt16.toUInt32.toInt32)), .val (.int (p3.toUInt32.toUInt16.toUInt32.toInt32)), .unset, .unset, .unset, .unset, .unset]) rfl ?_
    refine Owe.iloadN X0.here hx (hb hby at_16) rfl ?_
    refine Owe.i2c X0.here hx (hb hby at_17) rfl ?_
    refine Owe.istore X0.here hx (hb hby at_18) rfl (l' := #[.val (.int p1), .val (.int p2), .val (.int p3), .val (.int p4), .val (.int p5), .val (.int (1 : Int32)), .val (.int (p2.toUInt32.toUInt16.toUInt32.toInt32)), .val (.int (p3.toUInt32.toUInt16.toUInt32.toInt32)), .val (.int (p4.toUInt32.toUInt16.toUInt32.toInt32)), .unset, .unset, .unset, .unset]) rfl ?_
    refine Owe.iload X0.here hx (hb hby at_20) rfl ?_
    refine Owe.i2c X0.here hx (hb hby at_22) rfl ?_
    refine Owe.istore X0.here hx (hb hby at_23) rfl (l' := #[.val (.int p1), .val (.int p2), .val (.int p3), .val (.int p4), .val (.int p5), .val (.int (1 : Int32)), .val (.int (p2.toUInt32.toUInt16.toUInt32.toInt32)), .val (.int (p3.toUInt32.toUInt16.toUInt32.toInt32)), .val (.int (p4.toUInt32.toUInt16.toUInt32.toInt32)), .val (.int (p5.toUInt32.toUInt16.toUInt32.toInt32)), .unset, .unset, .unset]) rfl ?_
    refine Owe.iload X0.here hx (hb hby at_25) rfl ?_
    refine Owe.ifYes X0.here hx (hb hby at_27) rfl ((if0 _ _).trans (feq (by decide)).2) (pc' := 38) (by decide) (by decide) ?_
    refine Owe.iload X0.here hx (hb hby at_38) rfl ?_
    refine Owe.iconst X0.here hx (hb hby at_40) (w := (1 : Int32)) rfl ?_
    refine Owe.icmpNo X0.here hx (hb hby at_41) rfl (teq (by decide)).2 ?_
    refine Owe.iconst X0.here hx (hb hby at_44) (w := (1 : Int32)) rfl ?_
    refine Owe.newarr X0 hx hZ (aty := .char) (wd hw 1) e0 (hb hby at_45) rfl (by decide) (cap := 1) (by decide) (by decide) (by decide) (by decide) fun T917 h917 b917 k917 g917 X917 e917 E917 V917 => ?_
    have sf_b917 := (Safe.new (Nat.le_of_eq g917.symm) : Safe Z own_EL s.vm h0 b917)
    have ge_b917 := Nat.le_trans Z0 (Nat.le_of_eq g917.symm)
    have hk918 := Nat.le_trans hk0 E917.1
    have sf_b917_918 := Safe.ext E917 H0 sf_b917
    have Rr918 := R0.trans (CHr.ext E917 H0)
    have H918 := CHv.ext E917 H0
    have Ol_919 := Ol.ext E917
    have Z_920 := Nat.le_trans Z0 E917.1
    have V_b917_917 : Arv Z h917 b917 k917 .char (1 : Int32) [(.int (0 : Int32))] (.int (0 : Int32)) := V917.pad (pad_rep [] (.int (0 : Int32)) 1)
    refine Owe.dup X917.here hx (hb hby at_47) rfl rfl ?_
    refine Owe.iconst X917.here hx (hb hby at_48) (w := (0 : Int32)) rfl ?_
    refine Owe.iload X917.here hx (hb hby at_49) rfl ?_
    refine Owe.castore X917 hx hZ e917 V_b917_917 (x := (p2.toUInt32.toUInt16.toUInt32.toInt32)) 0 rfl (nb rfl) (by decide) (hb hby at_51) rfl fun T921 h921 X921 e921 W921 (V921 : Arv Z h921 b917 k917 .char (1 : Int32) [(.int (nar .char (p2.toUInt32.toUInt16.toUInt32.toInt32)))] (.int (0 : Int32))) => ?_
    have hk922 := Nat.le_trans hk918 (Keep.of_wr W921).1
    have sf_b917_922 := Safe.wr W921 sf_b917_918 H918 sf_b917_918
    have Rr922 := Rr918.trans (CHr.wr W921 sf_b917_918 H918)
    have H922 := CHv.wr W921 sf_b917_918 H918
    have Ol_923 := Ol_919.wr W921 ge_b917
    have Z_924 := Nat.le_trans Z_920 (Keep.of_wr W921).1
    have N921 := Fr.snoc X921 N0 ge_b917
    refine Owe.astore X921.here hx (hb hby at_52) rfl rfl (l' := #[.val (.int p1), .val (.int p2), .val (.int p3), .val (.int p4), .val (.int p5), .val (.int (1 : Int32)), .val (.int (p2.toUInt32.toUInt16.toUInt32.toInt32)), .val (.int (p3.toUInt32.toUInt16.toUInt32.toInt32)), .val (.int (p4.toUInt32.toUInt16.toUInt32.toInt32)), .val (.int (p5.toUInt32.toUInt16.toUInt32.toInt32)), .val (.ref b917), .unset, .unset]) rfl ?_
    refine Owe.goto X921.here hx (hb hby at_54) (pc' := 135) (by decide) (by decide) ?_
    refine Owe.new X921 hx hZ hown1 (wd hw 2) (wd hw 3) (wd hw 4) e921 (hb hby at_135) (by decide) (by decide) fun T925 h925 b925 g925 X925 e925 E925 A925 D925 => ?_
    have ne_b917_b925 : b917 ≠ b925 := Nat.ne_of_lt (Nat.lt_of_lt_of_le V921.lt (Nat.le_of_eq g925.symm))
    have sf_b925 := (Safe.new (Nat.le_of_eq g925.symm) : Safe Z own_EL s.vm h921 b925)
    have ge_b925 := Nat.le_trans Z_924 (Nat.le_of_eq g925.symm)
    have hk926 := Nat.le_trans hk922 E925.1
    have sf_b917_926 := Safe.ext E925 H922 sf_b917_922
    have sf_b925_926 := Safe.ext E925 H922 sf_b925
    have Rr926 := Rr922.trans (CHr.ext E925 H922)
    have H926 := CHv.ext E925 H922
    have Ol_927 := Ol_923.ext E925
    have V921_928 := V921.ext E925
    have Z_929 := Nat.le_trans Z_924 E925.1
    have Fvalue_b925 : Fld Z h925 b925 "java/lang/String" "value" "[B" .null := D925 (Or.inr (wd hw 17)) (ty := (.array .byte)) (by decide)
    have Fcoder_b925 : Fld Z h925 b925 "java/lang/String" "coder" "B" (.int (0 : Int32)) := D925 (Or.inr (wd hw 18)) (ty := .byte) (by decide)
    refine Owe.dup X925.here hx (hb hby at_138) rfl rfl ?_
    refine Owe.aload X925.here hx (hb hby at_139) rfl rfl ?_
    by_cases hW930 : (255 : Int32) < (nar .char (p2.toUInt32.toUInt16.toUInt32.toInt32))
    · skip
      refine Owe.special X925 hx (y := Y9) rfl hown1 (mvT hZ (wd hw 5)) (mvT hZ (wd hw 6)) (mvT hZ (wd hw 7)) (by decide) (backOf (W := 1) (rmsi1_1 l Z a0 hw [] b925 b917 k917 (nar .char (p2.toUInt32.toUInt16.toUInt32.toInt32)) G1 h925 n0 Z_929 A925 Fvalue_b925 Fcoder_b925 ge_b925 V921_928 ne_b917_b925 hW930 (own_narR _) S_COMPACT_STRINGS cs0 Ol_927 S__assertionsDisabled S_HI_BYTE_SHIFT S_LO_BYTE_SHIFT) hZ (wd hw 7) (wd hw 4) (by decide) (by decide)) (by rw [hml]; rfl) (a := b925) (argsL := [(.ref b917)]) (rest := [(.ref b925)]) (lenOf pd_16 rfl) rfl (nb rfl) (hb hby at_141) rfl e925 (by decide) (by decide) fun T931 v931 L931 X931 hQ931 => ?_
      obtain ⟨b__931, kb1_931, rfl, Nq931, K931, E_a0__931, Fvalue_a0__931, Fcoder_a0__931, V_b__931⟩ := hQ931
      have N931 := Fr.app N921 Nq931
      have hk932 := Nat.le_trans hk926 K931.1
      have sf_b917_932 := Safe.keep K931 (sfS sf_b925_926 sf0) H926 sf_b917_926
      have sf_b925_932 := Safe.keep K931 (sfS sf_b925_926 sf0) H926 sf_b925_926
      have Rr932 := Rr926.trans (CHr.keep K931 (sfS sf_b925_926 sf0) H926)
      have H932 := CHv.keep K931 (sfS sf_b925_926 sf0) H926
      have Ol_933 := Ol_927.keep K931 (allS ge_b925 all0)
      have V921_934 := V921_928.keep K931 (ninS ne_b917_b925 nin0)
      have A925_935 := A925.keep K931
      have Z_936 := Nat.le_trans Z_929 K931.1
      refine Owe.astore X931.here hx (hb hby at_144) rfl rfl (l' := #[.val (.int p1), .val (.int p2), .val (.int p3), .val (.int p4), .val (.int p5), .val (.int (1 : Int32)), .val (.int (p2.toUInt32.toUInt16.toUInt32.toInt32)), .val (.int (p3.toUInt32.toUInt16.toUInt32.toInt32)), .val (.int (p4.toUInt32.toUInt16.toUInt32.toInt32)), .val (.int (p5.toUInt32.toUInt16.toUInt32.toInt32)), .val (.ref b917), .val (.ref b925), .unset]) rfl ?_
      refine Owe.iload X931.here hx (hb hby at_146) rfl ?_
      refine Owe.ifYes X931.here hx (hb hby at_148) rfl ((if0 _ _).trans (feq (by decide)).2) (pc' := 157) (by decide) (by decide) ?_
      refine Owe.iload X931.here hx (hb hby at_157) rfl ?_
      by_cases hok0_937 : okb (p2.toUInt32.toUInt16.toUInt32.toInt32) = true
      · skip
        refine Owe.stat X931 hx (y := Y22) hown1 (mvT hZ (wd hw 43)) (mvT hZ (wd hw 44)) (mvT hZ (wd hw 45)) (mvT hZ (wd hw 46)) (by decide) (backOf (W := 0) (rmoky l Z a0 hw [] (p2.toUInt32.toUInt16.toUInt32.toInt32) T931.heap n0 Z_936 hok0_937) hZ (wd hw 46) (wd hw 45) (by decide) (by decide)) (by rw [hml]; rfl) (argsL := [(.int (p2.toUInt32.toUInt16.toUInt32.toInt32))]) (rest := []) (lenOf pd_18 rfl) rfl (nb rfl) (hb hby at_159) rfl rfl (by decide) (by decide) fun T939 v939 L939 X939 hQ939 => ?_
        obtain ⟨rfl, Nq939, e939⟩ := hQ939
        have N939 := Fr.app N931 Nq939
        refine Owe.istore X939.here hx (hb hby at_162) rfl (l' := #[.val (.int p1), .val (.int p2), .val (.int p3), .val (.int p4), .val (.int p5), .val (.int (1 : Int32)), .val (.int (p2.toUInt32.toUInt16.toUInt32.toInt32)), .val (.int (p3.toUInt32.toUInt16.toUInt32.toInt32)), .val (.int (p4.toUInt32.toUInt16.toUInt32.toInt32)), .val (.int (p5.toUInt32.toUInt16.toUInt32.toInt32)), .val (.ref b917), .val (.ref b925), .val (.int (1 : Int32))]) rfl ?_
        refine Owe.iload X939.here hx (hb hby at_164) rfl ?_
        refine Owe.iconst X939.here hx (hb hby at_166) (w := (2 : Int32)) rfl ?_
        refine Owe.icmpYes X939.here hx (hb hby at_167) rfl (tlt (by decide)).1 (pc' := 190) (by decide) (by decide) ?_
        refine Owe.iload X939.here hx (hb hby at_190) rfl ?_
        refine Owe.iconst X939.here hx (hb hby at_192) (w := (3 : Int32)) rfl ?_
        refine Owe.icmpYes X939.here hx (hb hby at_193) rfl (tlt (by decide)).1 (pc' := 216) (by decide) (by decide) ?_
        refine Owe.iload X939.here hx (hb hby at_216) rfl ?_
        refine Owe.iconst X939.here hx (hb hby at_218) (w := (4 : Int32)) rfl ?_
        refine Owe.icmpYes X939.here hx (hb hby at_219) rfl (tlt (by decide)).1 (pc' := 242) (by decide) (by decide) ?_
        refine Owe.aload X939.here hx (hb hby at_242) rfl rfl ?_
        refine Owe.stat X939 hx (y := Y21) hown1 (mvT hZ (wd hw 23)) (mvT hZ (wd hw 24)) (mvT hZ (wd hw 25)) (mvT hZ (wd hw 26)) (by decide) (backOf (W := 0) (rmirc1_1 l Z a0 hw [] b925 b__931 kb1_931 fm G1 (nar .char (p2.toUInt32.toUInt16.toUInt32.toInt32)) (p2.toUInt32.toUInt16.toUInt32.toInt32) T931.heap n0 Z_936 Fvalue_a0__931 V_b__931 E_a0__931 Fcoder_a0__931 S_COMPACT_STRINGS cs0 Ol_933 S_SIOOBE_FORMATTER ir_fm S__assertionsDisabled S_HI_BYTE_SHIFT S_LO_BYTE_SHIFT ((own_gp _ (own_narR _)).trans (own_narc _)) (own_narc _)) hZ (wd hw 26) (wd hw 25) (by decide) (by decide)) (by rw [hml]; rfl) (argsL := [(.ref b925)]) (rest := []) (lenOf pd_17 rfl) rfl (nb rfl) (hb hby at_244) rfl e939 (by decide) (by decide) fun T940 v940 L940 X940 hQ940 => ?_
        obtain ⟨rfl, Nq940, e940⟩ := hQ940
        have N940 := Fr.app N939 Nq940
        refine Owe.iload X940.here hx (hb hby at_247) rfl ?_
        refine Owe.icmpNo X940.here hx (hb hby at_249) rfl (teq ((rcT hok0_937).trans rfl)).2 ?_
        refine Owe.iconst X940.here hx (hb hby at_252) (w := (1 : Int32)) rfl ?_
        refine Owe.goto X940.here hx (hb hby at_253) (pc' := 257) (by decide) (by decide) ?_
        refine Owe.retNW X940 hx hS0 e940 hk932 hlk (t := .boolean) hrt (by simp) (hb hby at_257) rfl fun fs hE => ?_
        rw [hG]
        refine ⟨_, _, rfl, ?_, ?_, coldMono hE (by decide) (by decide)⟩
        rotate_left
        · rw [hh]
          show CHr Z own_EL s.vm h0 T940.vm T940.heap
          rw [e940]
          exact Rr932.trans (CHv.at X940 hZ (own_ew hw) H932)
        show Q0 Z p1 p2 p3 p4 p5 fm G1 h0 n0 _ T940.heap _
        rw [e940]
        exact ⟨rfl, N940⟩
      · skip
        refine Owe.stat X931 hx (y := Y22) hown1 (mvT hZ (wd hw 43)) (mvT hZ (wd hw 44)) (mvT hZ (wd hw 45)) (mvT hZ (wd hw 46)) (by decide) (backOf (W := 0) (rmokn l Z a0 hw [] (p2.toUInt32.toUInt16.toUInt32.toInt32) T931.heap n0 Z_936 hok0_937) hZ (wd hw 46) (wd hw 45) (by decide) (by decide)) (by rw [hml]; rfl) (argsL := [(.int (p2.toUInt32.toUInt16.toUInt32.toInt32))]) (rest := []) (lenOf pd_18 rfl) rfl (nb rfl) (hb hby at_159) rfl rfl (by decide) (by decide) fun T942 v942 L942 X942 hQ942 => ?_
        obtain ⟨rfl, Nq942, e942⟩ := hQ942
        have N942 := Fr.app N931 Nq942
        refine Owe.istore X942.here hx (hb hby at_162) rfl (l' := #[.val (.int p1), .val (.int p2), .val (.int p3), .val (.int p4), .val (.int p5), .val (.int (1 : Int32)), .val (.int (p2.toUInt32.toUInt16.toUInt32.toInt32)), .val (.int (p3.toUInt32.toUInt16.toUInt32.toInt32)), .val (.int (p4.toUInt32.toUInt16.toUInt32.toInt32)), .val (.int (p5.toUInt32.toUInt16.toUInt32.toInt32)), .val (.ref b917), .val (.ref b925), .val (.int (0 : Int32))]) rfl ?_
        refine Owe.iload X942.here hx (hb hby at_164) rfl ?_
        refine Owe.iconst X942.here hx (hb hby at_166) (w := (2 : Int32)) rfl ?_
        refine Owe.icmpYes X942.here hx (hb hby at_167) rfl (tlt (by decide)).1 (pc' := 190) (by decide) (by decide) ?_
        refine Owe.iload X942.here hx (hb hby at_190) rfl ?_
        refine Owe.iconst X942.here hx (hb hby at_192) (w := (3 : Int32)) rfl ?_
        refine Owe.icmpYes X942.here hx (hb hby at_193) rfl (tlt (by decide)).1 (pc' := 216) (by decide) (by decide) ?_
        refine Owe.iload X942.here hx (hb hby at_216) rfl ?_
        refine Owe.iconst X942.here hx (hb hby at_218) (w := (4 : Int32)) rfl ?_
        refine Owe.icmpYes X942.here hx (hb hby at_219) rfl (tlt (by decide)).1 (pc' := 242) (by decide) (by decide) ?_
        refine Owe.aload X942.here hx (hb hby at_242) rfl rfl ?_
        refine Owe.stat X942 hx (y := Y21) hown1 (mvT hZ (wd hw 23)) (mvT hZ (wd hw 24)) (mvT hZ (wd hw 25)) (mvT hZ (wd hw 26)) (by decide) (backOf (W := 0) (rmirc1_1 l Z a0 hw [] b925 b__931 kb1_931 fm G1 (nar .char (p2.toUInt32.toUInt16.toUInt32.toInt32)) (p2.toUInt32.toUInt16.toUInt32.toInt32) T931.heap n0 Z_936 Fvalue_a0__931 V_b__931 E_a0__931 Fcoder_a0__931 S_COMPACT_STRINGS cs0 Ol_933 S_SIOOBE_FORMATTER ir_fm S__assertionsDisabled S_HI_BYTE_SHIFT S_LO_BYTE_SHIFT ((own_gp _ (own_narR _)).trans (own_narc _)) (own_narc _)) hZ (wd hw 26) (wd hw 25) (by decide) (by decide)) (by rw [hml]; rfl) (argsL := [(.ref b925)]) (rest := []) (lenOf pd_17 rfl) rfl (nb rfl) (hb hby at_244) rfl e942 (by decide) (by decide) fun T943 v943 L943 X943 hQ943 => ?_
        obtain ⟨rfl, Nq943, e943⟩ := hQ943
        have N943 := Fr.app N942 Nq943
        refine Owe.iload X943.here hx (hb hby at_247) rfl ?_
        refine Owe.icmpNo X943.here hx (hb hby at_249) rfl (teq (rcF hok0_937)).2 ?_
        refine Owe.iconst X943.here hx (hb hby at_252) (w := (1 : Int32)) rfl ?_
        refine Owe.goto X943.here hx (hb hby at_253) (pc' := 257) (by decide) (by decide) ?_
        refine Owe.retNW X943 hx hS0 e943 hk932 hlk (t := .boolean) hrt (by simp) (hb hby at_257) rfl fun fs hE => ?_
        rw [hG]
        refine ⟨_, _, rfl, ?_, ?_, coldMono hE (by decide) (by decide)⟩
        rotate_left
        · rw [hh]
          show CHr Z own_EL s.vm h0 T943.vm T943.heap
          rw [e943]
          exact Rr932.trans (CHv.at X943 hZ (own_ew hw) H932)
        show Q0 Z p1 p2 p3 p4 p5 fm G1 h0 n0 _ T943.heap _
        rw [e943]
        exact ⟨rfl, N943⟩
    · skip
      refine Owe.special X925 hx (y := Y9) rfl hown1 (mvT hZ (wd hw 5)) (mvT hZ (wd hw 6)) (mvT hZ (wd hw 7)) (by decide) (backOf (W := 1) (rmsi1_0 l Z a0 hw [] b925 b917 k917 (nar .char (p2.toUInt32.toUInt16.toUInt32.toInt32)) G1 h925 n0 Z_929 A925 Fvalue_b925 Fcoder_b925 ge_b925 V921_928 ne_b917_b925 (fun q => hW930 q) S_COMPACT_STRINGS cs0 Ol_927 S__assertionsDisabled S_HI_BYTE_SHIFT S_LO_BYTE_SHIFT) hZ (wd hw 7) (wd hw 4) (by decide) (by decide)) (by rw [hml]; rfl) (a := b925) (argsL := [(.ref b917)]) (rest := [(.ref b925)]) (lenOf pd_16 rfl) rfl (nb rfl) (hb hby at_141) rfl e925 (by decide) (by decide) fun T944 v944 L944 X944 hQ944 => ?_
      obtain ⟨b__944, kb1_944, rfl, Nq944, K944, E_a0__944, Fvalue_a0__944, Fcoder_a0__944, V_b__944⟩ := hQ944
      have N944 := Fr.app N921 Nq944
      have hk945 := Nat.le_trans hk926 K944.1
      have sf_b917_945 := Safe.keep K944 (sfS sf_b925_926 sf0) H926 sf_b917_926
      have sf_b925_945 := Safe.keep K944 (sfS sf_b925_926 sf0) H926 sf_b925_926
      have Rr945 := Rr926.trans (CHr.keep K944 (sfS sf_b925_926 sf0) H926)
      have H945 := CHv.keep K944 (sfS sf_b925_926 sf0) H926
      have Ol_946 := Ol_927.keep K944 (allS ge_b925 all0)
      have V921_947 := V921_928.keep K944 (ninS ne_b917_b925 nin0)
      have A925_948 := A925.keep K944
      have Z_949 := Nat.le_trans Z_929 K944.1
      refine Owe.astore X944.here hx (hb hby at_144) rfl rfl (l' := #[.val (.int p1), .val (.int p2), .val (.int p3), .val (.int p4), .val (.int p5), .val (.int (1 : Int32)), .val (.int (p2.toUInt32.toUInt16.toUInt32.toInt32)), .val (.int (p3.toUInt32.toUInt16.toUInt32.toInt32)), .val (.int (p4.toUInt32.toUInt16.toUInt32.toInt32)), .val (.int (p5.toUInt32.toUInt16.toUInt32.toInt32)), .val (.ref b917), .val (.ref b925), .unset]) rfl ?_
      refine Owe.iload X944.here hx (hb hby at_146) rfl ?_
      refine Owe.ifYes X944.here hx (hb hby at_148) rfl ((if0 _ _).trans (feq (by decide)).2) (pc' := 157) (by decide) (by decide) ?_
      refine Owe.iload X944.here hx (hb hby at_157) rfl ?_
      by_cases hok0_950 : okb (p2.toUInt32.toUInt16.toUInt32.toInt32) = true
      · skip
        refine Owe.stat X944 hx (y := Y22) hown1 (mvT hZ (wd hw 43)) (mvT hZ (wd hw 44)) (mvT hZ (wd hw 45)) (mvT hZ (wd hw 46)) (by decide) (backOf (W := 0) (rmoky l Z a0 hw [] (p2.toUInt32.toUInt16.toUInt32.toInt32) T944.heap n0 Z_949 hok0_950) hZ (wd hw 46) (wd hw 45) (by decide) (by decide)) (by rw [hml]; rfl) (argsL := [(.int (p2.toUInt32.toUInt16.toUInt32.toInt32))]) (rest := []) (lenOf pd_18 rfl) rfl (nb rfl) (hb hby at_159) rfl rfl (by decide) (by decide) fun T952 v952 L952 X952 hQ952 => ?_
        obtain ⟨rfl, Nq952, e952⟩ := hQ952
        have N952 := Fr.app N944 Nq952
        refine Owe.istore X952.here hx (hb hby at_162) rfl (l' := #[.val (.int p1), .val (.int p2), .val (.int p3), .val (.int p4), .val (.int p5), .val (.int (1 : Int32)), .val (.int (p2.toUInt32.toUInt16.toUInt32.toInt32)), .val (.int (p3.toUInt32.toUInt16.toUInt32.toInt32)), .val (.int (p4.toUInt32.toUInt16.toUInt32.toInt32)), .val (.int (p5.toUInt32.toUInt16.toUInt32.toInt32)), .val (.ref b917), .val (.ref b925), .val (.int (1 : Int32))]) rfl ?_
        refine Owe.iload X952.here hx (hb hby at_164) rfl ?_
        refine Owe.iconst X952.here hx (hb hby at_166) (w := (2 : Int32)) rfl ?_
        refine Owe.icmpYes X952.here hx (hb hby at_167) rfl (tlt (by decide)).1 (pc' := 190) (by decide) (by decide) ?_
        refine Owe.iload X952.here hx (hb hby at_190) rfl ?_
        refine Owe.iconst X952.here hx (hb hby at_192) (w := (3 : Int32)) rfl ?_
        refine Owe.icmpYes X952.here hx (hb hby at_193) rfl (tlt (by decide)).1 (pc' := 216) (by decide) (by decide) ?_
        refine Owe.iload X952.here hx (hb hby at_216) rfl ?_
        refine Owe.iconst X952.here hx (hb hby at_218) (w := (4 : Int32)) rfl ?_
        refine Owe.icmpYes X952.here hx (hb hby at_219) rfl (tlt (by decide)).1 (pc' := 242) (by decide) (by decide) ?_
        refine Owe.aload X952.here hx (hb hby at_242) rfl rfl ?_
        refine Owe.stat X952 hx (y := Y21) hown1 (mvT hZ (wd hw 23)) (mvT hZ (wd hw 24)) (mvT hZ (wd hw 25)) (mvT hZ (wd hw 26)) (by decide) (backOf (W := 0) (rmirc1_0 l Z a0 hw [] b925 b__944 kb1_944 fm G1 (nar .char (p2.toUInt32.toUInt16.toUInt32.toInt32)) (p2.toUInt32.toUInt16.toUInt32.toInt32) T944.heap n0 Z_949 Fvalue_a0__944 V_b__944 E_a0__944 Fcoder_a0__944 S_COMPACT_STRINGS cs0 Ol_946 S_SIOOBE_FORMATTER ir_fm S__assertionsDisabled S_HI_BYTE_SHIFT S_LO_BYTE_SHIFT ((own_lat _ (own_narR _) (fun q => hW930 q)).trans (own_narc _)) (own_narc _)) hZ (wd hw 26) (wd hw 25) (by decide) (by decide)) (by rw [hml]; rfl) (argsL := [(.ref b925)]) (rest := []) (lenOf pd_17 rfl) rfl (nb rfl) (hb hby at_244) rfl e952 (by decide) (by decide) fun T953 v953 L953 X953 hQ953 => ?_
        obtain ⟨rfl, Nq953, e953⟩ := hQ953
        have N953 := Fr.app N952 Nq953
        refine Owe.iload X953.here hx (hb hby at_247) rfl ?_
        refine Owe.icmpNo X953.here hx (hb hby at_249) rfl (teq ((rcT hok0_950).trans rfl)).2 ?_
        refine Owe.iconst X953.here hx (hb hby at_252) (w := (1 : Int32)) rfl ?_
        refine Owe.goto X953.here hx (hb hby at_253) (pc' := 257) (by decide) (by decide) ?_
        refine Owe.retNW X953 hx hS0 e953 hk945 hlk (t := .boolean) hrt (by simp) (hb hby at_257) rfl fun fs hE => ?_
        rw [hG]
        refine ⟨_, _, rfl, ?_, ?_, coldMono hE (by decide) (by decide)⟩
        rotate_left
        · rw [hh]
          show CHr Z own_EL s.vm h0 T953.vm T953.heap
          rw [e953]
          exact Rr945.trans (CHv.at X953 hZ (own_ew hw) H945)
        show Q0 Z p1 p2 p3 p4 p5 fm G1 h0 n0 _ T953.heap _
        rw [e953]
        exact ⟨rfl, N953⟩
      · skip
        refine Owe.stat X944 hx (y := Y22) hown1 (mvT hZ (wd hw 43)) (mvT hZ (wd hw 44)) (mvT hZ (wd hw 45)) (mvT hZ (wd hw 46)) (by decide) (backOf (W := 0) (rmokn l Z a0 hw [] (p2.toUInt32.toUInt16.toUInt32.toInt32) T944.heap n0 Z_949 hok0_950) hZ (wd hw 46) (wd hw 45) (by decide) (by decide)) (by rw [hml]; rfl) (argsL := [(.int (p2.toUInt32.toUInt16.toUInt32.toInt32))]) (rest := []) (lenOf pd_18 rfl) rfl (nb rfl) (hb hby at_159) rfl rfl (by decide) (by decide) fun T955 v955 L955 X955 hQ955 => ?_
        obtain ⟨rfl, Nq955, e955⟩ := hQ955
        have N955 := Fr.app N944 Nq955
        refine Owe.istore X955.here hx (hb hby at_162) rfl (l' := #[.val (.int p1), .val (.int p2), .val (.int p3), .val (.int p4), .val (.int p5), .val (.int (1 : Int32)), .val (.int (p2.toUInt32.toUInt16.toUInt32.toInt32)), .val (.int (p3.toUInt32.toUInt16.toUInt32.toInt32)), .val (.int (p4.toUInt32.toUInt16.toUInt32.toInt32)), .val (.int (p5.toUInt32.toUInt16.toUInt32.toInt32)), .val (.ref b917), .val (.ref b925), .val (.int (0 : Int32))]) rfl ?_
        refine Owe.iload X955.here hx (hb hby at_164) rfl ?_
        refine Owe.iconst X955.here hx (hb hby at_166) (w := (2 : Int32)) rfl ?_
        refine Owe.icmpYes X955.here hx (hb hby at_167) rfl (tlt (by decide)).1 (pc' := 190) (by decide) (by decide) ?_
        refine Owe.iload X955.here hx (hb hby at_190) rfl ?_
        refine Owe.iconst X955.here hx (hb hby at_192) (w := (3 : Int32)) rfl ?_
        refine Owe.icmpYes X955.here hx (hb hby at_193) rfl (tlt (by decide)).1 (pc' := 216) (by decide) (by decide) ?_
        refine Owe.iload X955.here hx (hb hby at_216) rfl ?_
        refine Owe.iconst X955.here hx (hb hby at_218) (w := (4 : Int32)) rfl ?_
        refine Owe.icmpYes X955.here hx (hb hby at_219) rfl (tlt (by decide)).1 (pc' := 242) (by decide) (by decide) ?_
        refine Owe.aload X955.here hx (hb hby at_242) rfl rfl ?_
        refine Owe.stat X955 hx (y := Y21) hown1 (mvT hZ (wd hw 23)) (mvT hZ (wd hw 24)) (mvT hZ (wd hw 25)) (mvT hZ (wd hw 26)) (by decide) (backOf (W := 0) (rmirc1_0 l Z a0 hw [] b925 b__944 kb1_944 fm G1 (nar .char (p2.toUInt32.toUInt16.toUInt32.toInt32)) (p2.toUInt32.toUInt16.toUInt32.toInt32) T944.heap n0 Z_949 Fvalue_a0__944 V_b__944 E_a0__944 Fcoder_a0__944 S_COMPACT_STRINGS cs0 Ol_946 S_SIOOBE_FORMATTER ir_fm S__assertionsDisabled S_HI_BYTE_SHIFT S_LO_BYTE_SHIFT ((own_lat _ (own_narR _) (fun q => hW930 q)).trans (own_narc _)) (own_narc _)) hZ (wd hw 26) (wd hw 25) (by decide) (by decide)) (by rw [hml]; rfl) (argsL := [(.ref b925)]) (rest := []) (lenOf pd_17 rfl) rfl (nb rfl) (hb hby at_244) rfl e955 (by decide) (by decide) fun T956 v956 L956 X956 hQ956 => ?_
        obtain ⟨rfl, Nq956, e956⟩ := hQ956
        have N956 := Fr.app N955 Nq956
        refine Owe.iload X956.here hx (hb hby at_247) rfl ?_
        refine Owe.icmpNo X956.here hx (hb hby at_249) rfl (teq (rcF hok0_950)).2 ?_
        refine Owe.iconst X956.here hx (hb hby at_252) (w := (1 : Int32)) rfl ?_
        refine Owe.goto X956.here hx (hb hby at_253) (pc' := 257) (by decide) (by decide) ?_
        refine Owe.retNW X956 hx hS0 e956 hk945 hlk (t := .boolean) hrt (by simp) (hb hby at_257) rfl fun fs hE => ?_
        rw [hG]
        refine ⟨_, _, rfl, ?_, ?_, coldMono hE (by decide) (by decide)⟩
        rotate_left
        · rw [hh]
          show CHr Z own_EL s.vm h0 T956.vm T956.heap
          rw [e956]
          exact Rr945.trans (CHv.at X956 hZ (own_ew hw) H945)
        show Q0 Z p1 p2 p3 p4 p5 fm G1 h0 n0 _ T956.heap _
        rw [e956]
        exact ⟨rfl, N956⟩
  · rw [hk]
    refine Owe.istore X0.here hx (hb hby at_6) rfl (l' := #[.val (.int p1), .val (.int p2), .val (.int p3), .val (.int p4), .val (.int p5), .val (.int (2 : Int32)), .unset, .unset, .unset, .unset, .unset, .unset, .unset]) rfl ?_
    refine Owe.iloadN X0.here hx (hb hby at_8) rfl ?_
    refine Owe.i2c X0.here hx (hb hby at_9) rfl ?_
    refine Owe.istore X0.here hx (hb hby at_10) rfl (l' := #[.val (.int p1), .val (.int p2), .val (.int p3), .val (.int p4), .val (.int p5), .val (.int (2 : Int32)), .val (.int (p2.toUInt32.toUInt16.toUInt32.toInt32)), .unset, .unset, .unset, .unset, .unset, .unset]) rfl ?_
    refine Owe.iloadN X0.here hx (hb hby at_12) rfl ?_
    refine Owe.i2c X0.here hx (hb hby at_13) rfl ?_
    refine Owe.istore X0.here hx (hb hby at_14) rfl (l' := #[.val (.int p1), .val (.int p2), .val (.int p3), .val (.int p4), .val (.int p5), .val (.int (2 : Int32)), .val (.int (p2.toUInt32.toUInt16.toUInt32.toInt32)), .val (.int (p3.toUInt32.toUInt16.toUInt32.toInt32)), .unset, .unset, .unset, .unset, .unset]) rfl ?_
    refine Owe.iloadN X0.here hx (hb hby at_16) rfl ?_
    refine Owe.i2c X0.here hx (hb hby at_17) rfl ?_
    refine Owe.istore X0.here hx (hb hby at_18) rfl (l' := #[.val (.int p1), .val (.int p2), .val (.int p3), .val (.int p4), .val (.int p5), .val (.int (2 : Int32)), .val (.int (p2.toUInt32.toUInt16.toUInt32.toInt32)), .val (.int (p3.toUInt32.toUInt16.toUInt32.toInt32)), .val (.int (p4.toUInt32.toUInt16.toUInt32.toInt32)), .unset, .unset, .unset, .unset]) rfl ?_
    refine Owe.iload X0.here hx (hb hby at_20) rfl ?_
    refine Owe.i2c X0.here hx (hb hby at_22) rfl ?_
    refine Owe.istore X0.here hx (hb hby at_23) rfl (l' := #[.val (.int p1), .val (.int p2), .val (.int p3), .val (.int p4), .val (.int p5), .val (.int (2 : Int32)), .val (.int (p2.toUInt32.toUInt16.toUInt32.toInt32)), .val (.int (p3.toUInt32.toUInt16.toUInt32.toInt32)), .val (.int (p4.toUInt32.toUInt16.toUInt32.toInt32)), .val (.int (p5.toUInt32.toUInt16.toUInt32.toInt32)), .unset, .unset, .unset]) rfl ?_
    refine Owe.iload X0.here hx (hb hby at_25) rfl ?_
    refine Owe.ifYes X0.here hx (hb hby at_27) rfl ((if0 _ _).trans (feq (by decide)).2) (pc' := 38) (by decide) (by decide) ?_
    refine Owe.iload X0.here hx (hb hby at_38) rfl ?_
    refine Owe.iconst X0.here hx (hb hby at_40) (w := (1 : Int32)) rfl ?_
    refine Owe.icmpYes X0.here hx (hb hby at_41) rfl (feq (by decide)).2 (pc' := 57) (by decide) (by decide) ?_
    refine Owe.iload X0.here hx (hb hby at_57) rfl ?_
    refine Owe.iconst X0.here hx (hb hby at_59) (w := (2 : Int32)) rfl ?_
    refine Owe.icmpNo X0.here hx (hb hby at_60) rfl (teq (by decide)).2 ?_
    refine Owe.iconst X0.here hx (hb hby at_63) (w := (2 : Int32)) rfl ?_
    refine Owe.newarr X0 hx hZ (aty := .char) (wd hw 1) e0 (hb hby at_64) rfl (by decide) (cap := 2) (by decide) (by decide) (by decide) (by decide) fun T957 h957 b957 k957 g957 X957 e957 E957 V957 => ?_
    have sf_b957 := (Safe.new (Nat.le_of_eq g957.symm) : Safe Z own_EL s.vm h0 b957)
    have ge_b957 := Nat.le_trans Z0 (Nat.le_of_eq g957.symm)
    have hk958 := Nat.le_trans hk0 E957.1
    have sf_b957_958 := Safe.ext E957 H0 sf_b957
    have Rr958 := R0.trans (CHr.ext E957 H0)
    have H958 := CHv.ext E957 H0
    have Ol_959 := Ol.ext E957
    have Z_960 := Nat.le_trans Z0 E957.1
    have V_b957_957 : Arv Z h957 b957 k957 .char (2 : Int32) [(.int (0 : Int32)), (.int (0 : Int32))] (.int (0 : Int32)) := V957.pad (pad_rep [] (.int (0 : Int32)) 2)
    refine Owe.dup X957.here hx (hb hby at_66) rfl rfl ?_
    refine Owe.iconst X957.here hx (hb hby at_67) (w := (0 : Int32)) rfl ?_
    refine Owe.iload X957.here hx (hb hby at_68) rfl ?_
    refine Owe.castore X957 hx hZ e957 V_b957_957 (x := (p2.toUInt32.toUInt16.toUInt32.toInt32)) 0 rfl (nb rfl) (by decide) (hb hby at_70) rfl fun T961 h961 X961 e961 W961 (V961 : Arv Z h961 b957 k957 .char (2 : Int32) [(.int (nar .char (p2.toUInt32.toUInt16.toUInt32.toInt32))), (.int (0 : Int32))] (.int (0 : Int32))) => ?_
    have hk962 := Nat.le_trans hk958 (Keep.of_wr W961).1
    have sf_b957_962 := Safe.wr W961 sf_b957_958 H958 sf_b957_958
    have Rr962 := Rr958.trans (CHr.wr W961 sf_b957_958 H958)
    have H962 := CHv.wr W961 sf_b957_958 H958
    have Ol_963 := Ol_959.wr W961 ge_b957
    have Z_964 := Nat.le_trans Z_960 (Keep.of_wr W961).1
    have N961 := Fr.snoc X961 N0 ge_b957
    refine Owe.dup X961.here hx (hb hby at_71) rfl rfl ?_
    refine Owe.iconst X961.here hx (hb hby at_72) (w := (1 : Int32)) rfl ?_
    refine Owe.iload X961.here hx (hb hby at_73) rfl ?_
    refine Owe.castore X961 hx hZ e961 V961 (x := (p3.toUInt32.toUInt16.toUInt32.toInt32)) 1 rfl (nb rfl) (by decide) (hb hby at_75) rfl fun T965 h965 X965 e965 W965 (V965 : Arv Z h965 b957 k957 .char (2 : Int32) [(.int (nar .char (p2.toUInt32.toUInt16.toUInt32.toInt32))), (.int (nar .char (p3.toUInt32.toUInt16.toUInt32.toInt32)))] (.int (0 : Int32))) => ?_
    have hk966 := Nat.le_trans hk962 (Keep.of_wr W965).1
    have sf_b957_966 := Safe.wr W965 sf_b957_962 H962 sf_b957_962
    have Rr966 := Rr962.trans (CHr.wr W965 sf_b957_962 H962)
    have H966 := CHv.wr W965 sf_b957_962 H962
    have Ol_967 := Ol_963.wr W965 ge_b957
    have Z_968 := Nat.le_trans Z_964 (Keep.of_wr W965).1
    have N965 := Fr.snoc X965 N961 ge_b957
    refine Owe.astore X965.here hx (hb hby at_76) rfl rfl (l' := #[.val (.int p1), .val (.int p2), .val (.int p3), .val (.int p4), .val (.int p5), .val (.int (2 : Int32)), .val (.int (p2.toUInt32.toUInt16.toUInt32.toInt32)), .val (.int (p3.toUInt32.toUInt16.toUInt32.toInt32)), .val (.int (p4.toUInt32.toUInt16.toUInt32.toInt32)), .val (.int (p5.toUInt32.toUInt16.toUInt32.toInt32)), .val (.ref b957), .unset, .unset]) rfl ?_
    refine Owe.goto X965.here hx (hb hby at_78) (pc' := 135) (by decide) (by decide) ?_
    refine Owe.new X965 hx hZ hown1 (wd hw 2) (wd hw 3) (wd hw 4) e965 (hb hby at_135) (by decide) (by decide) fun T969 h969 b969 g969 X969 e969 E969 A969 D969 => ?_
    have ne_b957_b969 : b957 ≠ b969 := Nat.ne_of_lt (Nat.lt_of_lt_of_le V965.lt (Nat.le_of_eq g969.symm))
    have sf_b969 := (Safe.new (Nat.le_of_eq g969.symm) : Safe Z own_EL s.vm h965 b969)
    have ge_b969 := Nat.le_trans Z_968 (Nat.le_of_eq g969.symm)
    have hk970 := Nat.le_trans hk966 E969.1
    have sf_b957_970 := Safe.ext E969 H966 sf_b957_966
    have sf_b969_970 := Safe.ext E969 H966 sf_b969
    have Rr970 := Rr966.trans (CHr.ext E969 H966)
    have H970 := CHv.ext E969 H966
    have Ol_971 := Ol_967.ext E969
    have V965_972 := V965.ext E969
    have Z_973 := Nat.le_trans Z_968 E969.1
    have Fvalue_b969 : Fld Z h969 b969 "java/lang/String" "value" "[B" .null := D969 (Or.inr (wd hw 17)) (ty := (.array .byte)) (by decide)
    have Fcoder_b969 : Fld Z h969 b969 "java/lang/String" "coder" "B" (.int (0 : Int32)) := D969 (Or.inr (wd hw 18)) (ty := .byte) (by decide)
    refine Owe.dup X969.here hx (hb hby at_138) rfl rfl ?_
    refine Owe.aload X969.here hx (hb hby at_139) rfl rfl ?_
    by_cases hW974 : (255 : Int32) < (nar .char (p2.toUInt32.toUInt16.toUInt32.toInt32)) ∨ (255 : Int32) < (nar .char (p3.toUInt32.toUInt16.toUInt32.toInt32))
    · skip
      refine Owe.special X969 hx (y := Y9) rfl hown1 (mvT hZ (wd hw 5)) (mvT hZ (wd hw 6)) (mvT hZ (wd hw 7)) (by decide) (backOf (W := 1) (rmsi2_1 l Z a0 hw [] b969 b957 k957 (nar .char (p2.toUInt32.toUInt16.toUInt32.toInt32)) (nar .char (p3.toUInt32.toUInt16.toUInt32.toInt32)) G1 h969 n0 Z_973 A969 Fvalue_b969 Fcoder_b969 ge_b969 V965_972 ne_b957_b969 hW974 (own_narR _) (own_narR _) S_COMPACT_STRINGS cs0 Ol_971 S__assertionsDisabled S_HI_BYTE_SHIFT S_LO_BYTE_SHIFT) hZ (wd hw 7) (wd hw 4) (by decide) (by decide)) (by rw [hml]; rfl) (a := b969) (argsL := [(.ref b957)]) (rest := [(.ref b969)]) (lenOf pd_16 rfl) rfl (nb rfl) (hb hby at_141) rfl e969 (by decide) (by decide) fun T975 v975 L975 X975 hQ975 => ?_
      obtain ⟨b__975, kb1_975, rfl, Nq975, K975, E_a0__975, Fvalue_a0__975, Fcoder_a0__975, V_b__975⟩ := hQ975
      have N975 := Fr.app N965 Nq975
      have hk976 := Nat.le_trans hk970 K975.1
      have sf_b957_976 := Safe.keep K975 (sfS sf_b969_970 sf0) H970 sf_b957_970
      have sf_b969_976 := Safe.keep K975 (sfS sf_b969_970 sf0) H970 sf_b969_970
      have Rr976 := Rr970.trans (CHr.keep K975 (sfS sf_b969_970 sf0) H970)
      have H976 := CHv.keep K975 (sfS sf_b969_970 sf0) H970
      have Ol_977 := Ol_971.keep K975 (allS ge_b969 all0)
      have V965_978 := V965_972.keep K975 (ninS ne_b957_b969 nin0)
      have A969_979 := A969.keep K975
      have Z_980 := Nat.le_trans Z_973 K975.1
      refine Owe.astore X975.here hx (hb hby at_144) rfl rfl (l' := #[.val (.int p1), .val (.int p2), .val (.int p3), .val (.int p4), .val (.int p5), .val (.int (2 : Int32)), .val (.int (p2.toUInt32.toUInt16.toUInt32.toInt32)), .val (.int (p3.toUInt32.toUInt16.toUInt32.toInt32)), .val (.int (p4.toUInt32.toUInt16.toUInt32.toInt32)), .val (.int (p5.toUInt32.toUInt16.toUInt32.toInt32)), .val (.ref b957), .val (.ref b969), .unset]) rfl ?_
      refine Owe.iload X975.here hx (hb hby at_146) rfl ?_
      refine Owe.ifYes X975.here hx (hb hby at_148) rfl ((if0 _ _).trans (feq (by decide)).2) (pc' := 157) (by decide) (by decide) ?_
      refine Owe.iload X975.here hx (hb hby at_157) rfl ?_
      by_cases hok0_981 : okb (p2.toUInt32.toUInt16.toUInt32.toInt32) = true
      · skip
        refine Owe.stat X975 hx (y := Y22) hown1 (mvT hZ (wd hw 43)) (mvT hZ (wd hw 44)) (mvT hZ (wd hw 45)) (mvT hZ (wd hw 46)) (by decide) (backOf (W := 0) (rmoky l Z a0 hw [] (p2.toUInt32.toUInt16.toUInt32.toInt32) T975.heap n0 Z_980 hok0_981) hZ (wd hw 46) (wd hw 45) (by decide) (by decide)) (by rw [hml]; rfl) (argsL := [(.int (p2.toUInt32.toUInt16.toUInt32.toInt32))]) (rest := []) (lenOf pd_18 rfl) rfl (nb rfl) (hb hby at_159) rfl rfl (by decide) (by decide) fun T983 v983 L983 X983 hQ983 => ?_
        obtain ⟨rfl, Nq983, e983⟩ := hQ983
        have N983 := Fr.app N975 Nq983
        refine Owe.istore X983.here hx (hb hby at_162) rfl (l' := #[.val (.int p1), .val (.int p2), .val (.int p3), .val (.int p4), .val (.int p5), .val (.int (2 : Int32)), .val (.int (p2.toUInt32.toUInt16.toUInt32.toInt32)), .val (.int (p3.toUInt32.toUInt16.toUInt32.toInt32)), .val (.int (p4.toUInt32.toUInt16.toUInt32.toInt32)), .val (.int (p5.toUInt32.toUInt16.toUInt32.toInt32)), .val (.ref b957), .val (.ref b969), .val (.int (1 : Int32))]) rfl ?_
        refine Owe.iload X983.here hx (hb hby at_164) rfl ?_
        refine Owe.iconst X983.here hx (hb hby at_166) (w := (2 : Int32)) rfl ?_
        refine Owe.icmpNo X983.here hx (hb hby at_167) rfl (flt (by decide)).1 ?_
        refine Owe.iload X983.here hx (hb hby at_170) rfl ?_
        refine Owe.ifNo X983.here hx (hb hby at_172) rfl ((if0 _ _).trans (feq (by decide)).1) ?_
        refine Owe.iload X983.here hx (hb hby at_175) rfl ?_
        by_cases hok1_984 : okb (p3.toUInt32.toUInt16.toUInt32.toInt32) = true
        · skip
          refine Owe.stat X983 hx (y := Y22) hown1 (mvT hZ (wd hw 43)) (mvT hZ (wd hw 44)) (mvT hZ (wd hw 45)) (mvT hZ (wd hw 46)) (by decide) (backOf (W := 0) (rmoky l Z a0 hw [] (p3.toUInt32.toUInt16.toUInt32.toInt32) T975.heap n0 Z_980 hok1_984) hZ (wd hw 46) (wd hw 45) (by decide) (by decide)) (by rw [hml]; rfl) (argsL := [(.int (p3.toUInt32.toUInt16.toUInt32.toInt32))]) (rest := []) (lenOf pd_18 rfl) rfl (nb rfl) (hb hby at_177) rfl e983 (by decide) (by decide) fun T986 v986 L986 X986 hQ986 => ?_
          obtain ⟨rfl, Nq986, e986⟩ := hQ986
          have N986 := Fr.app N983 Nq986
          refine Owe.ifNo X986.here hx (hb hby at_180) rfl ((if0 _ _).trans (feq (by decide)).1) ?_
          refine Owe.iconst X986.here hx (hb hby at_183) (w := (1 : Int32)) rfl ?_
          refine Owe.goto X986.here hx (hb hby at_184) (pc' := 188) (by decide) (by decide) ?_
          refine Owe.istore X986.here hx (hb hby at_188) rfl (l' := #[.val (.int p1), .val (.int p2), .val (.int p3), .val (.int p4), .val (.int p5), .val (.int (2 : Int32)), .val (.int (p2.toUInt32.toUInt16.toUInt32.toInt32)), .val (.int (p3.toUInt32.toUInt16.toUInt32.toInt32)), .val (.int (p4.toUInt32.toUInt16.toUInt32.toInt32)), .val (.int (p5.toUInt32.toUInt16.toUInt32.toInt32)), .val (.ref b957), .val (.ref b969), .val (.int (1 : Int32))]) rfl ?_
          refine Owe.iload X986.here hx (hb hby at_190) rfl ?_
          refine Owe.iconst X986.here hx (hb hby at_192) (w := (3 : Int32)) rfl ?_
          refine Owe.icmpYes X986.here hx (hb hby at_193) rfl (tlt (by decide)).1 (pc' := 216) (by decide) (by decide) ?_
          refine Owe.iload X986.here hx (hb hby at_216) rfl ?_
          refine Owe.iconst X986.here hx (hb hby at_218) (w := (4 : Int32)) rfl ?_
          refine Owe.icmpYes X986.here hx (hb hby at_219) rfl (tlt (by decide)).1 (pc' := 242) (by decide) (by decide) ?_
          refine Owe.aload X986.here hx (hb hby at_242) rfl rfl ?_
          refine Owe.stat X986 hx (y := Y21) hown1 (mvT hZ (wd hw 23)) (mvT hZ (wd hw 24)) (mvT hZ (wd hw 25)) (mvT hZ (wd hw 26)) (by decide) (backOf (W := 0) (rmirc2_1 l Z a0 hw [] b969 b__975 kb1_975 fm G1 (nar .char (p2.toUInt32.toUInt16.toUInt32.toInt32)) (nar .char (p3.toUInt32.toUInt16.toUInt32.toInt32)) (p2.toUInt32.toUInt16.toUInt32.toInt32) (p3.toUInt32.toUInt16.toUInt32.toInt32) T975.heap n0 Z_980 Fvalue_a0__975 V_b__975 E_a0__975 Fcoder_a0__975 S_COMPACT_STRINGS cs0 Ol_977 S_SIOOBE_FORMATTER ir_fm S__assertionsDisabled S_HI_BYTE_SHIFT S_LO_BYTE_SHIFT ((own_gp _ (own_narR _)).trans (own_narc _)) ((own_gp _ (own_narR _)).trans (own_narc _)) (own_narc _) (own_narc _)) hZ (wd hw 26) (wd hw 25) (by decide) (by decide)) (by rw [hml]; rfl) (argsL := [(.ref b969)]) (rest := []) (lenOf pd_17 rfl) rfl (nb rfl) (hb hby at_244) rfl e986 (by decide) (by decide) fun T987 v987 L987 X987 hQ987 => ?_
          obtain ⟨rfl, Nq987, e987⟩ := hQ987
          have N987 := Fr.app N986 Nq987
          refine Owe.iload X987.here hx (hb hby at_247) rfl ?_
          refine Owe.icmpNo X987.here hx (hb hby at_249) rfl (teq ((rcT hok0_981).trans ((rcT hok1_984).trans rfl))).2 ?_
          refine Owe.iconst X987.here hx (hb hby at_252) (w := (1 : Int32)) rfl ?_
          refine Owe.goto X987.here hx (hb hby at_253) (pc' := 257) (by decide) (by decide) ?_
          refine Owe.retNW X987 hx hS0 e987 hk976 hlk (t := .boolean) hrt (by simp) (hb hby at_257) rfl fun fs hE => ?_
          rw [hG]
          refine ⟨_, _, rfl, ?_, ?_, coldMono hE (by decide) (by decide)⟩
          rotate_left
          · rw [hh]
            show CHr Z own_EL s.vm h0 T987.vm T987.heap
            rw [e987]
            exact Rr976.trans (CHv.at X987 hZ (own_ew hw) H976)
          show Q0 Z p1 p2 p3 p4 p5 fm G1 h0 n0 _ T987.heap _
          rw [e987]
          exact ⟨rfl, N987⟩
        · skip
          refine Owe.stat X983 hx (y := Y22) hown1 (mvT hZ (wd hw 43)) (mvT hZ (wd hw 44)) (mvT hZ (wd hw 45)) (mvT hZ (wd hw 46)) (by decide) (backOf (W := 0) (rmokn l Z a0 hw [] (p3.toUInt32.toUInt16.toUInt32.toInt32) T975.heap n0 Z_980 hok1_984) hZ (wd hw 46) (wd hw 45) (by decide) (by decide)) (by rw [hml]; rfl) (argsL := [(.int (p3.toUInt32.toUInt16.toUInt32.toInt32))]) (rest := []) (lenOf pd_18 rfl) rfl (nb rfl) (hb hby at_177) rfl e983 (by decide) (by decide) fun T989 v989 L989 X989 hQ989 => ?_
          obtain ⟨rfl, Nq989, e989⟩ := hQ989
          have N989 := Fr.app N983 Nq989
          refine Owe.ifYes X989.here hx (hb hby at_180) rfl ((if0 _ _).trans (teq (by decide)).1) (pc' := 187) (by decide) (by decide) ?_
          refine Owe.iconst X989.here hx (hb hby at_187) (w := (0 : Int32)) rfl ?_
          refine Owe.istore X989.here hx (hb hby at_188) rfl (l' := #[.val (.int p1), .val (.int p2), .val (.int p3), .val (.int p4), .val (.int p5), .val (.int (2 : Int32)), .val (.int (p2.toUInt32.toUInt16.toUInt32.toInt32)), .val (.int (p3.toUInt32.toUInt16.toUInt32.toInt32)), .val (.int (p4.toUInt32.toUInt16.toUInt32.toInt32)), .val (.int (p5.toUInt32.toUInt16.toUInt32.toInt32)), .val (.ref b957), .val (.ref b969), .val (.int (0 : Int32))]) rfl ?_
          refine Owe.iload X989.here hx (hb hby at_190) rfl ?_
          refine Owe.iconst X989.here hx (hb hby at_192) (w := (3 : Int32)) rfl ?_
          refine Owe.icmpYes X989.here hx (hb hby at_193) rfl (tlt (by decide)).1 (pc' := 216) (by decide) (by decide) ?_
          refine Owe.iload X989.here hx (hb hby at_216) rfl ?_
          refine Owe.iconst X989.here hx (hb hby at_218) (w := (4 : Int32)) rfl ?_
          refine Owe.icmpYes X989.here hx (hb hby at_219) rfl (tlt (by decide)).1 (pc' := 242) (by decide) (by decide) ?_
          refine Owe.aload X989.here hx (hb hby at_242) rfl rfl ?_
          refine Owe.stat X989 hx (y := Y21) hown1 (mvT hZ (wd hw 23)) (mvT hZ (wd hw 24)) (mvT hZ (wd hw 25)) (mvT hZ (wd hw 26)) (by decide) (backOf (W := 0) (rmirc2_1 l Z a0 hw [] b969 b__975 kb1_975 fm G1 (nar .char (p2.toUInt32.toUInt16.toUInt32.toInt32)) (nar .char (p3.toUInt32.toUInt16.toUInt32.toInt32)) (p2.toUInt32.toUInt16.toUInt32.toInt32) (p3.toUInt32.toUInt16.toUInt32.toInt32) T975.heap n0 Z_980 Fvalue_a0__975 V_b__975 E_a0__975 Fcoder_a0__975 S_COMPACT_STRINGS cs0 Ol_977 S_SIOOBE_FORMATTER ir_fm S__assertionsDisabled S_HI_BYTE_SHIFT S_LO_BYTE_SHIFT ((own_gp _ (own_narR _)).trans (own_narc _)) ((own_gp _ (own_narR _)).trans (own_narc _)) (own_narc _) (own_narc _)) hZ (wd hw 26) (wd hw 25) (by decide) (by decide)) (by rw [hml]; rfl) (argsL := [(.ref b969)]) (rest := []) (lenOf pd_17 rfl) rfl (nb rfl) (hb hby at_244) rfl e989 (by decide) (by decide) fun T990 v990 L990 X990 hQ990 => ?_
          obtain ⟨rfl, Nq990, e990⟩ := hQ990
          have N990 := Fr.app N989 Nq990
          refine Owe.iload X990.here hx (hb hby at_247) rfl ?_
          refine Owe.icmpNo X990.here hx (hb hby at_249) rfl (teq ((rcT hok0_981).trans (rcF hok1_984))).2 ?_
          refine Owe.iconst X990.here hx (hb hby at_252) (w := (1 : Int32)) rfl ?_
          refine Owe.goto X990.here hx (hb hby at_253) (pc' := 257) (by decide) (by decide) ?_
          refine Owe.retNW X990 hx hS0 e990 hk976 hlk (t := .boolean) hrt (by simp) (hb hby at_257) rfl fun fs hE => ?_
          rw [hG]
          refine ⟨_, _, rfl, ?_, ?_, coldMono hE (by decide) (by decide)⟩
          rotate_left
          · rw [hh]
            show CHr Z own_EL s.vm h0 T990.vm T990.heap
            rw [e990]
            exact Rr976.trans (CHv.at X990 hZ (own_ew hw) H976)
          show Q0 Z p1 p2 p3 p4 p5 fm G1 h0 n0 _ T990.heap _
          rw [e990]
          exact ⟨rfl, N990⟩
      · skip
        refine Owe.stat X975 hx (y := Y22) hown1 (mvT hZ (wd hw 43)) (mvT hZ (wd hw 44)) (mvT hZ (wd hw 45)) (mvT hZ (wd hw 46)) (by decide) (backOf (W := 0) (rmokn l Z a0 hw [] (p2.toUInt32.toUInt16.toUInt32.toInt32) T975.heap n0 Z_980 hok0_981) hZ (wd hw 46) (wd hw 45) (by decide) (by decide)) (by rw [hml]; rfl) (argsL := [(.int (p2.toUInt32.toUInt16.toUInt32.toInt32))]) (rest := []) (lenOf pd_18 rfl) rfl (nb rfl) (hb hby at_159) rfl rfl (by decide) (by decide) fun T992 v992 L992 X992 hQ992 => ?_
        obtain ⟨rfl, Nq992, e992⟩ := hQ992
        have N992 := Fr.app N975 Nq992
        refine Owe.istore X992.here hx (hb hby at_162) rfl (l' := #[.val (.int p1), .val (.int p2), .val (.int p3), .val (.int p4), .val (.int p5), .val (.int (2 : Int32)), .val (.int (p2.toUInt32.toUInt16.toUInt32.toInt32)), .val (.int (p3.toUInt32.toUInt16.toUInt32.toInt32)), .val (.int (p4.toUInt32.toUInt16.toUInt32.toInt32)), .val (.int (p5.toUInt32.toUInt16.toUInt32.toInt32)), .val (.ref b957), .val (.ref b969), .val (.int (0 : Int32))]) rfl ?_
        refine Owe.iload X992.here hx (hb hby at_164) rfl ?_
        refine Owe.iconst X992.here hx (hb hby at_166) (w := (2 : Int32)) rfl ?_
        refine Owe.icmpNo X992.here hx (hb hby at_167) rfl (flt (by decide)).1 ?_
        refine Owe.iload X992.here hx (hb hby at_170) rfl ?_
        refine Owe.ifYes X992.here hx (hb hby at_172) rfl ((if0 _ _).trans (teq (by decide)).1) (pc' := 187) (by decide) (by decide) ?_
        refine Owe.iconst X992.here hx (hb hby at_187) (w := (0 : Int32)) rfl ?_
        refine Owe.istore X992.here hx (hb hby at_188) rfl (l' := #[.val (.int p1), .val (.int p2), .val (.int p3), .val (.int p4), .val (.int p5), .val (.int (2 : Int32)), .val (.int (p2.toUInt32.toUInt16.toUInt32.toInt32)), .val (.int (p3.toUInt32.toUInt16.toUInt32.toInt32)), .val (.int (p4.toUInt32.toUInt16.toUInt32.toInt32)), .val (.int (p5.toUInt32.toUInt16.toUInt32.toInt32)), .val (.ref b957), .val (.ref b969), .val (.int (0 : Int32))]) rfl ?_
        refine Owe.iload X992.here hx (hb hby at_190) rfl ?_
        refine Owe.iconst X992.here hx (hb hby at_192) (w := (3 : Int32)) rfl ?_
        refine Owe.icmpYes X992.here hx (hb hby at_193) rfl (tlt (by decide)).1 (pc' := 216) (by decide) (by decide) ?_
        refine Owe.iload X992.here hx (hb hby at_216) rfl ?_
        refine Owe.iconst X992.here hx (hb hby at_218) (w := (4 : Int32)) rfl ?_
        refine Owe.icmpYes X992.here hx (hb hby at_219) rfl (tlt (by decide)).1 (pc' := 242) (by decide) (by decide) ?_
        refine Owe.aload X992.here hx (hb hby at_242) rfl rfl ?_
        refine Owe.stat X992 hx (y := Y21) hown1 (mvT hZ (wd hw 23)) (mvT hZ (wd hw 24)) (mvT hZ (wd hw 25)) (mvT hZ (wd hw 26)) (by decide) (backOf (W := 0) (rmirc2_1 l Z a0 hw [] b969 b__975 kb1_975 fm G1 (nar .char (p2.toUInt32.toUInt16.toUInt32.toInt32)) (nar .char (p3.toUInt32.toUInt16.toUInt32.toInt32)) (p2.toUInt32.toUInt16.toUInt32.toInt32) (p3.toUInt32.toUInt16.toUInt32.toInt32) T975.heap n0 Z_980 Fvalue_a0__975 V_b__975 E_a0__975 Fcoder_a0__975 S_COMPACT_STRINGS cs0 Ol_977 S_SIOOBE_FORMATTER ir_fm S__assertionsDisabled S_HI_BYTE_SHIFT S_LO_BYTE_SHIFT ((own_gp _ (own_narR _)).trans (own_narc _)) ((own_gp _ (own_narR _)).trans (own_narc _)) (own_narc _) (own_narc _)) hZ (wd hw 26) (wd hw 25) (by decide) (by decide)) (by rw [hml]; rfl) (argsL := [(.ref b969)]) (rest := []) (lenOf pd_17 rfl) rfl (nb rfl) (hb hby at_244) rfl e992 (by decide) (by decide) fun T993 v993 L993 X993 hQ993 => ?_
        obtain ⟨rfl, Nq993, e993⟩ := hQ993
        have N993 := Fr.app N992 Nq993
        refine Owe.iload X993.here hx (hb hby at_247) rfl ?_
        refine Owe.icmpNo X993.here hx (hb hby at_249) rfl (teq (rcF hok0_981)).2 ?_
        refine Owe.iconst X993.here hx (hb hby at_252) (w := (1 : Int32)) rfl ?_
        refine Owe.goto X993.here hx (hb hby at_253) (pc' := 257) (by decide) (by decide) ?_
        refine Owe.retNW X993 hx hS0 e993 hk976 hlk (t := .boolean) hrt (by simp) (hb hby at_257) rfl fun fs hE => ?_
        rw [hG]
        refine ⟨_, _, rfl, ?_, ?_, coldMono hE (by decide) (by decide)⟩
        rotate_left
        · rw [hh]
          show CHr Z own_EL s.vm h0 T993.vm T993.heap
          rw [e993]
          exact Rr976.trans (CHv.at X993 hZ (own_ew hw) H976)
        show Q0 Z p1 p2 p3 p4 p5 fm G1 h0 n0 _ T993.heap _
        rw [e993]
        exact ⟨rfl, N993⟩
    · skip
      refine Owe.special X969 hx (y := Y9) rfl hown1 (mvT hZ (wd hw 5)) (mvT hZ (wd hw 6)) (mvT hZ (wd hw 7)) (by decide) (backOf (W := 1) (rmsi2_0 l Z a0 hw [] b969 b957 k957 (nar .char (p2.toUInt32.toUInt16.toUInt32.toInt32)) (nar .char (p3.toUInt32.toUInt16.toUInt32.toInt32)) G1 h969 n0 Z_973 A969 Fvalue_b969 Fcoder_b969 ge_b969 V965_972 ne_b957_b969 (fun q => hW974 (Or.inl q)) (fun q => hW974 (Or.inr q)) S_COMPACT_STRINGS cs0 Ol_971 S__assertionsDisabled S_HI_BYTE_SHIFT S_LO_BYTE_SHIFT) hZ (wd hw 7) (wd hw 4) (by decide) (by decide)) (by rw [hml]; rfl) (a := b969) (argsL := [(.ref b957)]) (rest := [(.ref b969)]) (lenOf pd_16 rfl) rfl (nb rfl) (hb hby at_141) rfl e969 (by decide) (by decide) fun T994 v994 L994 X994 hQ994 => ?_
      obtain ⟨b__994, kb1_994, rfl, Nq994, K994, E_a0__994, Fvalue_a0__994, Fcoder_a0__994, V_b__994⟩ := hQ994
      have N994 := Fr.app N965 Nq994
      have hk995 := Nat.le_trans hk970 K994.1
      have sf_b957_995 := Safe.keep K994 (sfS sf_b969_970 sf0) H970 sf_b957_970
      have sf_b969_995 := Safe.keep K994 (sfS sf_b969_970 sf0) H970 sf_b969_970
      have Rr995 := Rr970.trans (CHr.keep K994 (sfS sf_b969_970 sf0) H970)
      have H995 := CHv.keep K994 (sfS sf_b969_970 sf0) H970
      have Ol_996 := Ol_971.keep K994 (allS ge_b969 all0)
      have V965_997 := V965_972.keep K994 (ninS ne_b957_b969 nin0)
      have A969_998 := A969.keep K994
      have Z_999 := Nat.le_trans Z_973 K994.1
      refine Owe.astore X994.here hx (hb hby at_144) rfl rfl (l' := #[.val (.int p1), .val (.int p2), .val (.int p3), .val (.int p4), .val (.int p5), .val (.int (2 : Int32)), .val (.int (p2.toUInt32.toUInt16.toUInt32.toInt32)), .val (.int (p3.toUInt32.toUInt16.toUInt32.toInt32)), .val (.int (p4.toUInt32.toUInt16.toUInt32.toInt32)), .val (.int (p5.toUInt32.toUInt16.toUInt32.toInt32)), .val (.ref b957), .val (.ref b969), .unset]) rfl ?_
      refine Owe.iload X994.here hx (hb hby at_146) rfl ?_
      refine Owe.ifYes X994.here hx (hb hby at_148) rfl ((if0 _ _).trans (feq (by decide)).2) (pc' := 157) (by decide) (by decide) ?_
      refine Owe.iload X994.here hx (hb hby at_157) rfl ?_
      by_cases hok0_1000 : okb (p2.toUInt32.toUInt16.toUInt32.toInt32) = true
      · skip
        refine Owe.stat X994 hx (y := Y22) hown1 (mvT hZ (wd hw 43)) (mvT hZ (wd hw 44)) (mvT hZ (wd hw 45)) (mvT hZ (wd hw 46)) (by decide) (backOf (W := 0) (rmoky l Z a0 hw [] (p2.toUInt32.toUInt16.toUInt32.toInt32) T994.heap n0 Z_999 hok0_1000) hZ (wd hw 46) (wd hw 45) (by decide) (by decide)) (by rw [hml]; rfl) (argsL := [(.int (p2.toUInt32.toUInt16.toUInt32.toInt32))]) (rest := []) (lenOf pd_18 rfl) rfl (nb rfl) (hb hby at_159) rfl rfl (by decide) (by decide) fun T1002 v1002 L1002 X1002 hQ1002 => ?_
        obtain ⟨rfl, Nq1002, e1002⟩ := hQ1002
        have N1002 := Fr.app N994 Nq1002
        refine Owe.istore X1002.here hx (hb hby at_162) rfl (l' := #[.val (.int p1), .val (.int p2), .val (.int p3), .val (.int p4), .val (.int p5), .val (.int (2 : Int32)), .val (.int (p2.toUInt32.toUInt16.toUInt32.toInt32)), .val (.int (p3.toUInt32.toUInt16.toUInt32.toInt32)), .val (.int (p4.toUInt32.toUInt16.toUInt32.toInt32)), .val (.int (p5.toUInt32.toUInt16.toUInt32.toInt32)), .val (.ref b957), .val (.ref b969), .val (.int (1 : Int32))]) rfl ?_
        refine Owe.iload X1002.here hx (hb hby at_164) rfl ?_
        refine Owe.iconst X1002.here hx (hb hby at_166) (w := (2 : Int32)) rfl ?_
        refine Owe.icmpNo X1002.here hx (hb hby at_167) rfl (flt (by decide)).1 ?_
        refine Owe.iload X1002.here hx (hb hby at_170) rfl ?_
        refine Owe.ifNo X1002.here hx (hb hby at_172) rfl ((if0 _ _).trans (feq (by decide)).1) ?_
        refine Owe.iload X1002.here hx (hb hby at_175) rfl ?_
        by_cases hok1_1003 : okb (p3.toUInt32.toUInt16.toUInt32.toInt32) = true
        · skip
          refine Owe.stat X1002 hx (y := Y22) hown1 (mvT hZ (wd hw 43)) (mvT hZ (wd hw 44)) (mvT hZ (wd hw 45)) (mvT hZ (wd hw 46)) (by decide) (backOf (W := 0) (rmoky l Z a0 hw [] (p3.toUInt32.toUInt16.toUInt32.toInt32) T994.heap n0 Z_999 hok1_1003) hZ (wd hw 46) (wd hw 45) (by decide) (by decide)) (by rw [hml]; rfl) (argsL := [(.int (p3.toUInt32.toUInt16.toUInt32.toInt32))]) (rest := []) (lenOf pd_18 rfl) rfl (nb rfl) (hb hby at_177) rfl e1002 (by decide) (by decide) fun T1005 v1005 L1005 X1005 hQ1005 => ?_
          obtain ⟨rfl, Nq1005, e1005⟩ := hQ1005
          have N1005 := Fr.app N1002 Nq1005
          refine Owe.ifNo X1005.here hx (hb hby at_180) rfl ((if0 _ _).trans (feq (by decide)).1) ?_
          refine Owe.iconst X1005.here hx (hb hby at_183) (w := (1 : Int32)) rfl ?_
          refine Owe.goto X1005.here hx (hb hby at_184) (pc' := 188) (by decide) (by decide) ?_
          refine Owe.istore X1005.here hx (hb hby at_188) rfl (l' := #[.val (.int p1), .val (.int p2), .val (.int p3), .val (.int p4), .val (.int p5), .val (.int (2 : Int32)), .val (.int (p2.toUInt32.toUInt16.toUInt32.toInt32)), .val (.int (p3.toUInt32.toUInt16.toUInt32.toInt32)), .val (.int (p4.toUInt32.toUInt16.toUInt32.toInt32)), .val (.int (p5.toUInt32.toUInt16.toUInt32.toInt32)), .val (.ref b957), .val (.ref b969), .val (.int (1 : Int32))]) rfl ?_
          refine Owe.iload X1005.here hx (hb hby at_190) rfl ?_
          refine Owe.iconst X1005.here hx (hb hby at_192) (w := (3 : Int32)) rfl ?_
          refine Owe.icmpYes X1005.here hx (hb hby at_193) rfl (tlt (by decide)).1 (pc' := 216) (by decide) (by decide) ?_
          refine Owe.iload X1005.here hx (hb hby at_216) rfl ?_
          refine Owe.iconst X1005.here hx (hb hby at_218) (w := (4 : Int32)) rfl ?_
          refine Owe.icmpYes X1005.here hx (hb hby at_219) rfl (tlt (by decide)).1 (pc' := 242) (by decide) (by decide) ?_
          refine Owe.aload X1005.here hx (hb hby at_242) rfl rfl ?_
          refine Owe.stat X1005 hx (y := Y21) hown1 (mvT hZ (wd hw 23)) (mvT hZ (wd hw 24)) (mvT hZ (wd hw 25)) (mvT hZ (wd hw 26)) (by decide) (backOf (W := 0) (rmirc2_0 l Z a0 hw [] b969 b__994 kb1_994 fm G1 (nar .char (p2.toUInt32.toUInt16.toUInt32.toInt32)) (nar .char (p3.toUInt32.toUInt16.toUInt32.toInt32)) (p2.toUInt32.toUInt16.toUInt32.toInt32) (p3.toUInt32.toUInt16.toUInt32.toInt32) T994.heap n0 Z_999 Fvalue_a0__994 V_b__994 E_a0__994 Fcoder_a0__994 S_COMPACT_STRINGS cs0 Ol_996 S_SIOOBE_FORMATTER ir_fm S__assertionsDisabled S_HI_BYTE_SHIFT S_LO_BYTE_SHIFT ((own_lat _ (own_narR _) (fun q => hW974 (Or.inl q))).trans (own_narc _)) ((own_lat _ (own_narR _) (fun q => hW974 (Or.inr q))).trans (own_narc _)) (own_narc _) (own_narc _)) hZ (wd hw 26) (wd hw 25) (by decide) (by decide)) (by rw [hml]; rfl) (argsL := [(.ref b969)]) (rest := []) (lenOf pd_17 rfl) rfl (nb rfl) (hb hby at_244) rfl e1005 (by decide) (by decide) fun T1006 v1006 L1006 X1006 hQ1006 => ?_
          obtain ⟨rfl, Nq1006, e1006⟩ := hQ1006
          have N1006 := Fr.app N1005 Nq1006
          refine Owe.iload X1006.here hx (hb hby at_247) rfl ?_
          refine Owe.icmpNo X1006.here hx (hb hby at_249) rfl (teq ((rcT hok0_1000).trans ((rcT hok1_1003).trans rfl))).2 ?_
          refine Owe.iconst X1006.here hx (hb hby at_252) (w := (1 : Int32)) rfl ?_
          refine Owe.goto X1006.here hx (hb hby at_253) (pc' := 257) (by decide) (by decide) ?_
          refine Owe.retNW X1006 hx hS0 e1006 hk995 hlk (t := .boolean) hrt (by simp) (hb hby at_257) rfl fun fs hE => ?_
          rw [hG]
          refine ⟨_, _, rfl, ?_, ?_, coldMono hE (by decide) (by decide)⟩
          rotate_left
          · rw [hh]
            show CHr Z own_EL s.vm h0 T1006.vm T1006.heap
            rw [e1006]
            exact Rr995.trans (CHv.at X1006 hZ (own_ew hw) H995)
          show Q0 Z p1 p2 p3 p4 p5 fm G1 h0 n0 _ T1006.heap _
          rw [e1006]
          exact ⟨rfl, N1006⟩
        · skip
          refine Owe.stat X1002 hx (y := Y22) hown1 (mvT hZ (wd hw 43)) (mvT hZ (wd hw 44)) (mvT hZ (wd hw 45)) (mvT hZ (wd hw 46)) (by decide) (backOf (W := 0) (rmokn l Z a0 hw [] (p3.toUInt32.toUInt16.toUInt32.toInt32) T994.heap n0 Z_999 hok1_1003) hZ (wd hw 46) (wd hw 45) (by decide) (by decide)) (by rw [hml]; rfl) (argsL := [(.int (p3.toUInt32.toUInt16.toUInt32.toInt32))]) (rest := []) (lenOf pd_18 rfl) rfl (nb rfl) (hb hby at_177) rfl e1002 (by decide) (by decide) fun T1008 v1008 L1008 X1008 hQ1008 => ?_
          obtain ⟨rfl, Nq1008, e1008⟩ := hQ1008
          have N1008 := Fr.app N1002 Nq1008
          refine Owe.ifYes X1008.here hx (hb hby at_180) rfl ((if0 _ _).trans (teq (by decide)).1) (pc' := 187) (by decide) (by decide) ?_
          refine Owe.iconst X1008.here hx (hb hby at_187) (w := (0 : Int32)) rfl ?_
          refine Owe.istore X1008.here hx (hb hby at_188) rfl (l' := #[.val (.int p1), .val (.int p2), .val (.int p3), .val (.int p4), .val (.int p5), .val (.int (2 : Int32)), .val (.int (p2.toUInt32.toUInt16.toUInt32.toInt32)), .val (.int (p3.toUInt32.toUInt16.toUInt32.toInt32)), .val (.int (p4.toUInt32.toUInt16.toUInt32.toInt32)), .val (.int (p5.toUInt32.toUInt16.toUInt32.toInt32)), .val (.ref b957), .val (.ref b969), .val (.int (0 : Int32))]) rfl ?_
          refine Owe.iload X1008.here hx (hb hby at_190) rfl ?_
          refine Owe.iconst X1008.here hx (hb hby at_192) (w := (3 : Int32)) rfl ?_
          refine Owe.icmpYes X1008.here hx (hb hby at_193) rfl (tlt (by decide)).1 (pc' := 216) (by decide) (by decide) ?_
          refine Owe.iload X1008.here hx (hb hby at_216) rfl ?_
          refine Owe.iconst X1008.here hx (hb hby at_218) (w := (4 : Int32)) rfl ?_
          refine Owe.icmpYes X1008.here hx (hb hby at_219) rfl (tlt (by decide)).1 (pc' := 242) (by decide) (by decide) ?_
          refine Owe.aload X1008.here hx (hb hby at_242) rfl rfl ?_
          refine Owe.stat X1008 hx (y := Y21) hown1 (mvT hZ (wd hw 23)) (mvT hZ (wd hw 24)) (mvT hZ (wd hw 25)) (mvT hZ (wd hw 26)) (by decide) (backOf (W := 0) (rmirc2_0 l Z a0 hw [] b969 b__994 kb1_994 fm G1 (nar .char (p2.toUInt32.toUInt16.toUInt32.toInt32)) (nar .char (p3.toUInt32.toUInt16.toUInt32.toInt32)) (p2.toUInt32.toUInt16.toUInt32.toInt32) (p3.toUInt32.toUInt16.toUInt32.toInt32) T994.heap n0 Z_999 Fvalue_a0__994 V_b__994 E_a0__994 Fcoder_a0__994 S_COMPACT_STRINGS cs0 Ol_996 S_SIOOBE_FORMATTER ir_fm S__assertionsDisabled S_HI_BYTE_SHIFT S_LO_BYTE_SHIFT ((own_lat _ (own_narR _) (fun q => hW974 (Or.inl q))).trans (own_narc _)) ((own_lat _ (own_narR _) (fun q => hW974 (Or.inr q))).trans (own_narc _)) (own_narc _) (own_narc _)) hZ (wd hw 26) (wd hw 25) (by decide) (by decide)) (by rw [hml]; rfl) (argsL := [(.ref b969)]) (rest := []) (lenOf pd_17 rfl) rfl (nb rfl) (hb hby at_244) rfl e1008 (by decide) (by decide) fun T1009 v1009 L1009 X1009 hQ1009 => ?_
          obtain ⟨rfl, Nq1009, e1009⟩ := hQ1009
          have N1009 := Fr.app N1008 Nq1009
          refine Owe.iload X1009.here hx (hb hby at_247) rfl ?_
          refine Owe.icmpNo X1009.here hx (hb hby at_249) rfl (teq ((rcT hok0_1000).trans (rcF hok1_1003))).2 ?_
          refine Owe.iconst X1009.here hx (hb hby at_252) (w := (1 : Int32)) rfl ?_
          refine Owe.goto X1009.here hx (hb hby at_253) (pc' := 257) (by decide) (by decide) ?_
          refine Owe.retNW X1009 hx hS0 e1009 hk995 hlk (t := .boolean) hrt (by simp) (hb hby at_257) rfl fun fs hE => ?_
          rw [hG]
          refine ⟨_, _, rfl, ?_, ?_, coldMono hE (by decide) (by decide)⟩
          rotate_left
          · rw [hh]
            show CHr Z own_EL s.vm h0 T1009.vm T1009.heap
            rw [e1009]
            exact Rr995.trans (CHv.at X1009 hZ (own_ew hw) H995)
          show Q0 Z p1 p2 p3 p4 p5 fm G1 h0 n0 _ T1009.heap _
          rw [e1009]
          exact ⟨rfl, N1009⟩
      · skip
        refine Owe.stat X994 hx (y := Y22) hown1 (mvT hZ (wd hw 43)) (mvT hZ (wd hw 44)) (mvT hZ (wd hw 45)) (mvT hZ (wd hw 46)) (by decide) (backOf (W := 0) (rmokn l Z a0 hw [] (p2.toUInt32.toUInt16.toUInt32.toInt32) T994.heap n0 Z_999 hok0_1000) hZ (wd hw 46) (wd hw 45) (by decide) (by decide)) (by rw [hml]; rfl) (argsL := [(.int (p2.toUInt32.toUInt16.toUInt32.toInt32))]) (rest := []) (lenOf pd_18 rfl) rfl (nb rfl) (hb hby at_159) rfl rfl (by decide) (by decide) fun T1011 v1011 L1011 X1011 hQ1011 => ?_
        obtain ⟨rfl, Nq1011, e1011⟩ := hQ1011
        have N1011 := Fr.app N994 Nq1011
        refine Owe.istore X1011.here hx (hb hby at_162) rfl (l' := #[.val (.int p1), .val (.int p2), .val (.int p3), .val (.int p4), .val (.int p5), .val (.int (2 : Int32)), .val (.int (p2.toUInt32.toUInt16.toUInt32.toInt32)), .val (.int (p3.toUInt32.toUInt16.toUInt32.toInt32)), .val (.int (p4.toUInt32.toUInt16.toUInt32.toInt32)), .val (.int (p5.toUInt32.toUInt16.toUInt32.toInt32)), .val (.ref b957), .val (.ref b969), .val (.int (0 : Int32))]) rfl ?_
        refine Owe.iload X1011.here hx (hb hby at_164) rfl ?_
        refine Owe.iconst X1011.here hx (hb hby at_166) (w := (2 : Int32)) rfl ?_
        refine Owe.icmpNo X1011.here hx (hb hby at_167) rfl (flt (by decide)).1 ?_
        refine Owe.iload X1011.here hx (hb hby at_170) rfl ?_
        refine Owe.ifYes X1011.here hx (hb hby at_172) rfl ((if0 _ _).trans (teq (by decide)).1) (pc' := 187) (by decide) (by decide) ?_
        refine Owe.iconst X1011.here hx (hb hby at_187) (w := (0 : Int32)) rfl ?_
        refine Owe.istore X1011.here hx (hb hby at_188) rfl (l' := #[.val (.int p1), .val (.int p2), .val (.int p3), .val (.int p4), .val (.int p5), .val (.int (2 : Int32)), .val (.int (p2.toUInt32.toUInt16.toUInt32.toInt32)), .val (.int (p3.toUInt32.toUInt16.toUInt32.toInt32)), .val (.int (p4.toUInt32.toUInt16.toUInt32.toInt32)), .val (.int (p5.toUInt32.toUInt16.toUInt32.toInt32)), .val (.ref b957), .val (.ref b969), .val (.int (0 : Int32))]) rfl ?_
        refine Owe.iload X1011.here hx (hb hby at_190) rfl ?_
        refine Owe.iconst X1011.here hx (hb hby at_192) (w := (3 : Int32)) rfl ?_
        refine Owe.icmpYes X1011.here hx (hb hby at_193) rfl (tlt (by decide)).1 (pc' := 216) (by decide) (by decide) ?_
        refine Owe.iload X1011.here hx (hb hby at_216) rfl ?_
        refine Owe.iconst X1011.here hx (hb hby at_218) (w := (4 : Int32)) rfl ?_
        refine Owe.icmpYes X1011.here hx (hb hby at_219) rfl (tlt (by decide)).1 (pc' := 242) (by decide) (by decide) ?_
        refine Owe.aload X1011.here hx (hb hby at_242) rfl rfl ?_
        refine Owe.stat X1011 hx (y := Y21) hown1 (mvT hZ (wd hw 23)) (mvT hZ (wd hw 24)) (mvT hZ (wd hw 25)) (mvT hZ (wd hw 26)) (by decide) (backOf (W := 0) (rmirc2_0 l Z a0 hw [] b969 b__994 kb1_994 fm G1 (nar .char (p2.toUInt32.toUInt16.toUInt32.toInt32)) (nar .char (p3.toUInt32.toUInt16.toUInt32.toInt32)) (p2.toUInt32.toUInt16.toUInt32.toInt32) (p3.toUInt32.toUInt16.toUInt32.toInt32) T994.heap n0 Z_999 Fvalue_a0__994 V_b__994 E_a0__994 Fcoder_a0__994 S_COMPACT_STRINGS cs0 Ol_996 S_SIOOBE_FORMATTER ir_fm S__assertionsDisabled S_HI_BYTE_SHIFT S_LO_BYTE_SHIFT ((own_lat _ (own_narR _) (fun q => hW974 (Or.inl q))).trans (own_narc _)) ((own_lat _ (own_narR _) (fun q => hW974 (Or.inr q))).trans (own_narc _)) (own_narc _) (own_narc _)) hZ (wd hw 26) (wd hw 25) (by decide) (by decide)) (by rw [hml]; rfl) (argsL := [(.ref b969)]) (rest := []) (lenOf pd_17 rfl) rfl (nb rfl) (hb hby at_244) rfl e1011 (by decide) (by decide) fun T1012 v1012 L1012 X1012 hQ1012 => ?_
        obtain ⟨rfl, Nq1012, e1012⟩ := hQ1012
        have N1012 := Fr.app N1011 Nq1012
        refine Owe.iload X1012.here hx (hb hby at_247) rfl ?_
        refine Owe.icmpNo X1012.here hx (hb hby at_249) rfl (teq (rcF hok0_1000)).2 ?_
        refine Owe.iconst X1012.here hx (hb hby at_252) (w := (1 : Int32)) rfl ?_
        refine Owe.goto X1012.here hx (hb hby at_253) (pc' := 257) (by decide) (by decide) ?_
        refine Owe.retNW X1012 hx hS0 e1012 hk995 hlk (t := .boolean) hrt (by simp) (hb hby at_257) rfl fun fs hE => ?_
        rw [hG]
        refine ⟨_, _, rfl, ?_, ?_, coldMono hE (by decide) (by decide)⟩
        rotate_left
        · rw [hh]
          show CHr Z own_EL s.vm h0 T1012.vm T1012.heap
          rw [e1012]
          exact Rr995.trans (CHv.at X1012 hZ (own_ew hw) H995)
        show Q0 Z p1 p2 p3 p4 p5 fm G1 h0 n0 _ T1012.heap _
        rw [e1012]
        exact ⟨rfl, N1012⟩
  · rw [hk]
    refine Owe.istore X0.here hx (hb hby at_6) rfl (l' := #[.val (.int p1), .val (.int p2), .val (.int p3), .val (.int p4), .val (.int p5), .val (.int (3 : Int32)), .unset, .unset, .unset, .unset, .unset, .unset, .unset]) rfl ?_
    refine Owe.iloadN X0.here hx (hb hby at_8) rfl ?_
    refine Owe.i2c X0.here hx (hb hby at_9) rfl ?_
    refine Owe.istore X0.here hx (hb hby at_10) rfl (l' := #[.val (.int p1), .val (.int p2), .val (.int p3), .val (.int p4), .val (.int p5), .val (.int (3 : Int32)), .val (.int (p2.toUInt32.toUInt16.toUInt32.toInt32)), .unset, .unset, .unset, .unset, .unset, .unset]) rfl ?_
    refine Owe.iloadN X0.here hx (hb hby at_12) rfl ?_
    refine Owe.i2c X0.here hx (hb hby at_13) rfl ?_
    refine Owe.istore X0.here hx (hb hby at_14) rfl (l' := #[.val (.int p1), .val (.int p2), .val (.int p3), .val (.int p4), .val (.int p5), .val (.int (3 : Int32)), .val (.int (p2.toUInt32.toUInt16.toUInt32.toInt32)), .val (.int (p3.toUInt32.toUInt16.toUInt32.toInt32)), .unset, .unset, .unset, .unset, .unset]) rfl ?_
    refine Owe.iloadN X0.here hx (hb hby at_16) rfl ?_
    refine Owe.i2c X0.here hx (hb hby at_17) rfl ?_
    refine Owe.istore X0.here hx (hb hby at_18) rfl (l' := #[.val (.int p1), .val (.int p2), .val (.int p3), .val (.int p4), .val (.int p5), .val (.int (3 : Int32)), .val (.int (p2.toUInt32.toUInt16.toUInt32.toInt32)), .val (.int (p3.toUInt32.toUInt16.toUInt32.toInt32)), .val (.int (p4.toUInt32.toUInt16.toUInt32.toInt32)), .unset, .unset, .unset, .unset]) rfl ?_
    refine Owe.iload X0.here hx (hb hby at_20) rfl ?_
    refine Owe.i2c X0.here hx (hb hby at_22) rfl ?_
    refine Owe.istore X0.here hx (hb hby at_23) rfl (l' := #[.val (.int p1), .val (.int p2), .val (.int p3), .val (.int p4), .val (.int p5), .val (.int (3 : Int32)), .val (.int (p2.toUInt32.toUInt16.toUInt32.toInt32)), .val (.int (p3.toUInt32.toUInt16.toUInt32.toInt32)), .val (.int (p4.toUInt32.toUInt16.toUInt32.toInt32)), .val (.int (p5.toUInt32.toUInt16.toUInt32.toInt32)), .unset, .unset, .unset]) rfl ?_
    refine Owe.iload X0.here hx (hb hby at_25) rfl ?_
    refine Owe.ifYes X0.here hx (hb hby at_27) rfl ((if0 _ _).trans (feq (by decide)).2) (pc' := 38) (by decide) (by decide) ?_
    refine Owe.iload X0.here hx (hb hby at_38) rfl ?_
    refine Owe.iconst X0.here hx (hb hby at_40) (w := (1 : Int32)) rfl ?_
    refine Owe.icmpYes X0.here hx (hb hby at_41) rfl (feq (by decide)).2 (pc' := 57) (by decide) (by decide) ?_
    refine Owe.iload X0.here hx (hb hby at_57) rfl ?_
    refine Owe.iconst X0.here hx (hb hby at_59) (w := (2 : Int32)) rfl ?_
    refine Owe.icmpYes X0.here hx (hb hby at_60) rfl (feq (by decide)).2 (pc' := 81) (by decide) (by decide) ?_
    refine Owe.iload X0.here hx (hb hby at_81) rfl ?_
    refine Owe.iconst X0.here hx (hb hby at_83) (w := (3 : Int32)) rfl ?_
    refine Owe.icmpNo X0.here hx (hb hby at_84) rfl (teq (by decide)).2 ?_
    refine Owe.iconst X0.here hx (hb hby at_87) (w := (3 : Int32)) rfl ?_
    refine Owe.newarr X0 hx hZ (aty := .char) (wd hw 1) e0 (hb hby at_88) rfl (by decide) (cap := 3) (by decide) (by decide) (by decide) (by decide) fun T1013 h1013 b1013 k1013 g1013 X1013 e1013 E1013 V1013 => ?_
    have sf_b1013 := (Safe.new (Nat.le_of_eq g1013.symm) : Safe Z own_EL s.vm h0 b1013)
    have ge_b1013 := Nat.le_trans Z0 (Nat.le_of_eq g1013.symm)
    have hk1014 := Nat.le_trans hk0 E1013.1
    have sf_b1013_1014 := Safe.ext E1013 H0 sf_b1013
    have Rr1014 := R0.trans (CHr.ext E1013 H0)
    have H1014 := CHv.ext E1013 H0
    have Ol_1015 := Ol.ext E1013
    have Z_1016 := Nat.le_trans Z0 E1013.1
    have V_b1013_1013 : Arv Z h1013 b1013 k1013 .char (3 : Int32) [(.int (0 : Int32)), (.int (0 : Int32)), (.int (0 : Int32))] (.int (0 : Int32)) := V1013.pad (pad_rep [] (.int (0 : Int32)) 3)
    refine Owe.dup X1013.here hx (hb hby at_90) rfl rfl ?_
    refine Owe.iconst X1013.here hx (hb hby at_91) (w := (0 : Int32)) rfl ?_
    refine Owe.iload X1013.here hx (hb hby at_92) rfl ?_
    refine Owe.castore X1013 hx hZ e1013 V_b1013_1013 (x := (p2.toUInt32.toUInt16.toUInt32.toInt32)) 0 rfl (nb rfl) (by decide) (hb hby at_94) rfl fun T1017 h1017 X1017 e1017 W1017 (V1017 : Arv Z h1017 b1013 k1013 .char (3 : Int32) [(.int (nar .char (p2.toUInt32.toUInt16.toUInt32.toInt32))), (.int (0 : Int32)), (.int (0 : Int32))] (.int (0 : Int32))) => ?_
    have hk1018 := Nat.le_trans hk1014 (Keep.of_wr W1017).1
    have sf_b1013_1018 := Safe.wr W1017 sf_b1013_1014 H1014 sf_b1013_1014
    have Rr1018 := Rr1014.trans (CHr.wr W1017 sf_b1013_1014 H1014)
    have H1018 := CHv.wr W1017 sf_b1013_1014 H1014
    have Ol_1019 := Ol_1015.wr W1017 ge_b1013
    have Z_1020 := Nat.le_trans Z_1016 (Keep.of_wr W1017).1
    have N1017 := Fr.snoc X1017 N0 ge_b1013
    refine Owe.dup X1017.here hx (hb hby at_95) rfl rfl ?_
    refine Owe.iconst X1017.here hx (hb hby at_96) (w := (1 : Int32)) rfl ?_
    refine Owe.iload X1017.here hx (hb hby at_97) rfl ?_
    refine Owe.castore X1017 hx hZ e1017 V1017 (x := (p3.toUInt32.toUInt16.toUInt32.toInt32)) 1 rfl (nb rfl) (by decide) (hb hby at_99) rfl fun T1021 h1021 X1021 e1021 W1021 (V1021 : Arv Z h1021 b1013 k1013 .char (3 : Int32) [(.int (nar .char (p2.toUInt32.toUInt16.toUInt32.toInt32))), (.int (nar .char (p3.toUInt32.toUInt16.toUInt32.toInt32))), (.int (0 : Int32))] (.int (0 : Int32))) => ?_
    have hk1022 := Nat.le_trans hk1018 (Keep.of_wr W1021).1
    have sf_b1013_1022 := Safe.wr W1021 sf_b1013_1018 H1018 sf_b1013_1018
    have Rr1022 := Rr1018.trans (CHr.wr W1021 sf_b1013_1018 H1018)
    have H1022 := CHv.wr W1021 sf_b1013_1018 H1018
    have Ol_1023 := Ol_1019.wr W1021 ge_b1013
    have Z_1024 := Nat.le_trans Z_1020 (Keep.of_wr W1021).1
    have N1021 := Fr.snoc X1021 N1017 ge_b1013
    refine Owe.dup X1021.here hx (hb hby at_100) rfl rfl ?_
    refine Owe.iconst X1021.here hx (hb hby at_101) (w := (2 : Int32)) rfl ?_
    refine Owe.iload X1021.here hx (hb hby at_102) rfl ?_
    refine Owe.castore X1021 hx hZ e1021 V1021 (x := (p4.toUInt32.toUInt16.toUInt32.toInt32)) 2 rfl (nb rfl) (by decide) (hb hby at_104) rfl fun T1025 h1025 X1025 e1025 W1025 (V1025 : Arv Z h1025 b1013 k1013 .char (3 : Int32) [(.int (nar .char (p2.toUInt32.toUInt16.toUInt32.toInt32))), (.int (nar .char (p3.toUInt32.toUInt16.toUInt32.toInt32))), (.int (nar .char (p4.toUInt32.toUInt16.toUInt32.toInt32)))] (.int (0 : Int32))) => ?_
    have hk1026 := Nat.le_trans hk1022 (Keep.of_wr W1025).1
    have sf_b1013_1026 := Safe.wr W1025 sf_b1013_1022 H1022 sf_b1013_1022
    have Rr1026 := Rr1022.trans (CHr.wr W1025 sf_b1013_1022 H1022)
    have H1026 := CHv.wr W1025 sf_b1013_1022 H1022
    have Ol_1027 := Ol_1023.wr W1025 ge_b1013
    have Z_1028 := Nat.le_trans Z_1024 (Keep.of_wr W1025).1
    have N1025 := Fr.snoc X1025 N1021 ge_b1013
    refine Owe.astore X1025.here hx (hb hby at_105) rfl rfl (l' := #[.val (.int p1), .val (.int p2), .val (.int p3), .val (.int p4), .val (.int p5), .val (.int (3 : Int32)), .val (.int (p2.toUInt32.toUInt16.toUInt32.toInt32)), .val (.int (p3.toUInt32.toUInt16.toUInt32.toInt32)), .val (.int (p4.toUInt32.toUInt16.toUInt32.toInt32)), .val (.int (p5.toUInt32.toUInt16.toUInt32.toInt32)), .val (.ref b1013), .unset, .unset]) rfl ?_
    refine Owe.goto X1025.here hx (hb hby at_107) (pc' := 135) (by decide) (by decide) ?_
    refine Owe.new X1025 hx hZ hown1 (wd hw 2) (wd hw 3) (wd hw 4) e1025 (hb hby at_135) (by decide) (by decide) fun T1029 h1029 b1029 g1029 X1029 e1029 E1029 A1029 D1029 => ?_
    have ne_b1013_b1029 : b1013 ≠ b1029 := Nat.ne_of_lt (Nat.lt_of_lt_of_le V1025.lt (Nat.le_of_eq g1029.symm))
    have sf_b1029 := (Safe.new (Nat.le_of_eq g1029.symm) : Safe Z own_EL s.vm h1025 b1029)
    have ge_b1029 := Nat.le_trans Z_1028 (Nat.le_of_eq g1029.symm)
    have hk1030 := Nat.le_trans hk1026 E1029.1
    have sf_b1013_1030 := Safe.ext E1029 H1026 sf_b1013_1026
    have sf_b1029_1030 := Safe.ext E1029 H1026 sf_b1029
    have Rr1030 := Rr1026.trans (CHr.ext E1029 H1026)
    have H1030 := CHv.ext E1029 H1026
    have Ol_1031 := Ol_1027.ext E1029
    have V1025_1032 := V1025.ext E1029
    have Z_1033 := Nat.le_trans Z_1028 E1029.1
    have Fvalue_b1029 : Fld Z h1029 b1029 "java/lang/String" "value" "[B" .null := D1029 (Or.inr (wd hw 17)) (ty := (.array .byte)) (by decide)
    have Fcoder_b1029 : Fld Z h1029 b1029 "java/lang/String" "coder" "B" (.int (0 : Int32)) := D1029 (Or.inr (wd hw 18)) (ty := .byte) (by decide)
    refine Owe.dup X1029.here hx (hb hby at_138) rfl rfl ?_
    refine Owe.aload X1029.here hx (hb hby at_139) rfl rfl ?_
    by_cases hW1034 : (255 : Int32) < (nar .char (p2.toUInt32.toUInt16.toUInt32.toInt32)) ∨ (255 : Int32) < (nar .char (p3.toUInt32.toUInt16.toUInt32.toInt32)) ∨ (255 : Int32) < (nar .char (p4.toUInt32.toUInt16.toUInt32.toInt32))
    · skip
      refine Owe.special X1029 hx (y := Y9) rfl hown1 (mvT hZ (wd hw 5)) (mvT hZ (wd hw 6)) (mvT hZ (wd hw 7)) (by decide) (backOf (W := 1) (rmsi3_1 l Z a0 hw [] b1029 b1013 k1013 (nar .char (p2.toUInt32.toUInt16.toUInt32.toInt32)) (nar .char (p3.toUInt32.toUInt16.toUInt32.toInt32)) (nar .char (p4.toUInt32.toUInt16.toUInt32.toInt32)) G1 h1029 n0 Z_1033 A1029 Fvalue_b1029 Fcoder_b1029 ge_b1029 V1025_1032 ne_b1013_b1029 hW1034 (own_narR _) (own_narR _) (own_narR _) S_COMPACT_STRINGS cs0 Ol_1031 S__assertionsDisabled S_HI_BYTE_SHIFT S_LO_BYTE_SHIFT) hZ (wd hw 7) (wd hw 4) (by decide) (by decide)) (by rw [hml]; rfl) (a := b1029) (argsL := [(.ref b1013)]) (rest := [(.ref b1029)]) (lenOf pd_16 rfl) rfl (nb rfl) (hb hby at_141) rfl e1029 (by decide) (by decide) fun T1035 v1035 L1035 X1035 hQ1035 => ?_
      obtain ⟨b__1035, kb1_1035, rfl, Nq1035, K1035, E_a0__1035, Fvalue_a0__1035, Fcoder_a0__1035, V_b__1035⟩ := hQ1035
      have N1035 := Fr.app N1025 Nq1035
      have hk1036 := Nat.le_trans hk1030 K1035.1
      have sf_b1013_1036 := Safe.keep K1035 (sfS sf_b1029_1030 sf0) H1030 sf_b1013_1030
      have sf_b1029_1036 := Safe.keep K1035 (sfS sf_b1029_1030 sf0) H1030 sf_b1029_1030
      have Rr1036 := Rr1030.trans (CHr.keep K1035 (sfS sf_b1029_1030 sf0) H1030)
      have H1036 := CHv.keep K1035 (sfS sf_b1029_1030 sf0) H1030
      have Ol_1037 := Ol_1031.keep K1035 (allS ge_b1029 all0)
      have V1025_1038 := V1025_1032.keep K1035 (ninS ne_b1013_b1029 nin0)
      have A1029_1039 := A1029.keep K1035
      have Z_1040 := Nat.le_trans Z_1033 K1035.1
      refine Owe.astore X1035.here hx (hb hby at_144) rfl rfl (l' := #[.val (.int p1), .val (.int p2), .val (.int p3), .val (.int p4), .val (.int p5), .val (.int (3 : Int32)), .val (.int (p2.toUInt32.toUInt16.toUInt32.toInt32)), .val (.int (p3.toUInt32.toUInt16.toUInt32.toInt32)), .val (.int (p4.toUInt32.toUInt16.toUInt32.toInt32)), .val (.int (p5.toUInt32.toUInt16.toUInt32.toInt32)), .val (.ref b1013), .val (.ref b1029), .unset]) rfl ?_
      refine Owe.iload X1035.here hx (hb hby at_146) rfl ?_
      refine Owe.ifYes X1035.here hx (hb hby at_148) rfl ((if0 _ _).trans (feq (by decide)).2) (pc' := 157) (by decide) (by decide) ?_
      refine Owe.iload X1035.here hx (hb hby at_157) rfl ?_
      by_cases hok0_1041 : okb (p2.toUInt32.toUInt16.toUInt32.toInt32) = true
      · skip
        refine Owe.stat X1035 hx (y := Y22) hown1 (mvT hZ (wd hw 43)) (mvT hZ (wd hw 44)) (mvT hZ (wd hw 45)) (mvT hZ (wd hw 46)) (by decide) (backOf (W := 0) (rmoky l Z a0 hw [] (p2.toUInt32.toUInt16.toUInt32.toInt32) T1035.heap n0 Z_1040 hok0_1041) hZ (wd hw 46) (wd hw 45) (by decide) (by decide)) (by rw [hml]; rfl) (argsL := [(.int (p2.toUInt32.toUInt16.toUInt32.toInt32))]) (rest := []) (lenOf pd_18 rfl) rfl (nb rfl) (hb hby at_159) rfl rfl (by decide) (by decide) fun T1043 v1043 L1043 X1043 hQ1043 => ?_
        obtain ⟨rfl, Nq1043, e1043⟩ := hQ1043
        have N1043 := Fr.app N1035 Nq1043
        refine Owe.istore X1043.here hx (hb hby at_162) rfl (l' := #[.val (.int p1), .val (.int p2), .val (.int p3), .val (.int p4), .val (.int p5), .val (.int (3 : Int32)), .val (.int (p2.toUInt32.toUInt16.toUInt32.toInt32)), .val (.int (p3.toUInt32.toUInt16.toUInt32.toInt32)), .val (.int (p4.toUInt32.toUInt16.toUInt32.toInt32)), .val (.int (p5.toUInt32.toUInt16.toUInt32.toInt32)), .val (.ref b1013), .val (.ref b1029), .val (.int (1 : Int32))]) rfl ?_
        refine Owe.iload X1043.here hx (hb hby at_164) rfl ?_
        refine Owe.iconst X1043.here hx (hb hby at_166) (w := (2 : Int32)) rfl ?_
        refine Owe.icmpNo X1043.here hx (hb hby at_167) rfl (flt (by decide)).1 ?_
        refine Owe.iload X1043.here hx (hb hby at_170) rfl ?_
        refine Owe.ifNo X1043.here hx (hb hby at_172) rfl ((if0 _ _).trans (feq (by decide)).1) ?_
        refine Owe.iload X1043.here hx (hb hby at_175) rfl ?_
        by_cases hok1_1044 : okb (p3.toUInt32.toUInt16.toUInt32.toInt32) = true
        · skip
          refine Owe.stat X1043 hx (y := Y22) hown1 (mvT hZ (wd hw 43)) (mvT hZ (wd hw 44)) (mvT hZ (wd hw 45)) (mvT hZ (wd hw 46)) (by decide) (backOf (W := 0) (rmoky l Z a0 hw [] (p3.toUInt32.toUInt16.toUInt32.toInt32) T1035.heap n0 Z_1040 hok1_1044) hZ (wd hw 46) (wd hw 45) (by decide) (by decide)) (by rw [hml]; rfl) (argsL := [(.int (p3.toUInt32.toUInt16.toUInt32.toInt32))]) (rest := []) (lenOf pd_18 rfl) rfl (nb rfl) (hb hby at_177) rfl e1043 (by decide) (by decide) fun T1046 v1046 L1046 X1046 hQ1046 => ?_
          obtain ⟨rfl, Nq1046, e1046⟩ := hQ1046
          have N1046 := Fr.app N1043 Nq1046
          refine Owe.ifNo X1046.here hx (hb hby at_180) rfl ((if0 _ _).trans (feq (by decide)).1) ?_
          refine Owe.iconst X1046.here hx (hb hby at_183) (w := (1 : Int32)) rfl ?_
          refine Owe.goto X1046.here hx (hb hby at_184) (pc' := 188) (by decide) (by decide) ?_
          refine Owe.istore X1046.here hx (hb hby at_188) rfl (l' := #[.val (.int p1), .val (.int p2), .val (.int p3), .val (.int p4), .val (.int p5), .val (.int (3 : Int32)), .val (.int (p2.toUInt32.toUInt16.toUInt32.toInt32)), .val (.int (p3.toUInt32.toUInt16.toUInt32.toInt32)), .val (.int (p4.toUInt32.toUInt16.toUInt32.toInt32)), .val (.int (p5.toUInt32.toUInt16.toUInt32.toInt32)), .val (.ref b1013), .val (.ref b1029), .val (.int (1 : Int32))]) rfl ?_
          refine Owe.iload X1046.here hx (hb hby at_190) rfl ?_
          refine Owe.iconst X1046.here hx (hb hby at_192) (w := (3 : Int32)) rfl ?_
          refine Owe.icmpNo X1046.here hx (hb hby at_193) rfl (flt (by decide)).1 ?_
          refine Owe.iload X1046.here hx (hb hby at_196) rfl ?_
          refine Owe.ifNo X1046.here hx (hb hby at_198) rfl ((if0 _ _).trans (feq (by decide)).1) ?_
          refine Owe.iload X1046.here hx (hb hby at_201) rfl ?_
          by_cases hok2_1047 : okb (p4.toUInt32.toUInt16.toUInt32.toInt32) = true
          · skip
            refine Owe.stat X1046 hx (y := Y22) hown1 (mvT hZ (wd hw 43)) (mvT hZ (wd hw 44)) (mvT hZ (wd hw 45)) (mvT hZ (wd hw 46)) (by decide) (backOf (W := 0) (rmoky l Z a0 hw [] (p4.toUInt32.toUInt16.toUInt32.toInt32) T1035.heap n0 Z_1040 hok2_1047) hZ (wd hw 46) (wd hw 45) (by decide) (by decide)) (by rw [hml]; rfl) (argsL := [(.int (p4.toUInt32.toUInt16.toUInt32.toInt32))]) (rest := []) (lenOf pd_18 rfl) rfl (nb rfl) (hb hby at_203) rfl e1046 (by decide) (by decide) fun T1049 v1049 L1049 X1049 hQ1049 => ?_
            obtain ⟨rfl, Nq1049, e1049⟩ := hQ1049
            have N1049 := Fr.app N1046 Nq1049
            refine Owe.ifNo X1049.here hx (hb hby at_206) rfl ((if0 _ _).trans (feq (by decide)).1) ?_
            refine Owe.iconst X1049.here hx (hb hby at_209) (w := (1 : Int32)) rfl ?_
            refine Owe.goto X1049.here hx (hb hby at_210) (pc' := 214) (by decide) (by decide) ?_
            refine Owe.istore X1049.here hx (hb hby at_214) rfl (l' := #[.val (.int p1), .val (.int p2), .val (.int p3), .val (.int p4), .val (.int p5), .val (.int (3 : Int32)), .val (.int (p2.toUInt32.toUInt16.toUInt32.toInt32)), .val (.int (p3.toUInt32.toUInt16.toUInt32.toInt32)), .val (.int (p4.toUInt32.toUInt16.toUInt32.toInt32)), .val (.int (p5.toUInt32.toUInt16.toUInt32.toInt32)), .val (.ref b1013), .val (.ref b1029), .val (.int (1 : Int32))]) rfl ?_
            refine Owe.iload X1049.here hx (hb hby at_216) rfl ?_
            refine Owe.iconst X1049.here hx (hb hby at_218) (w := (4 : Int32)) rfl ?_
            refine Owe.icmpYes X1049.here hx (hb hby at_219) rfl (tlt (by decide)).1 (pc' := 242) (by decide) (by decide) ?_
            refine Owe.aload X1049.here hx (hb hby at_242) rfl rfl ?_
            refine Owe.stat X1049 hx (y := Y21) hown1 (mvT hZ (wd hw 23)) (mvT hZ (wd hw 24)) (mvT hZ (wd hw 25)) (mvT hZ (wd hw 26)) (by decide) (backOf (W := 0) (rmirc3_1 l Z a0 hw [] b1029 b__1035 kb1_1035 fm G1 (nar .char (p2.toUInt32.toUInt16.toUInt32.toInt32)) (nar .char (p3.toUInt32.toUInt16.toUInt32.toInt32)) (nar .char (p4.toUInt32.toUInt16.toUInt32.toInt32)) (p2.toUInt32.toUInt16.toUInt32.toInt32) (p3.toUInt32.toUInt16.toUInt32.toInt32) (p4.toUInt32.toUInt16.toUInt32.toInt32) T1035.heap n0 Z_1040 Fvalue_a0__1035 V_b__1035 E_a0__1035 Fcoder_a0__1035 S_COMPACT_STRINGS cs0 Ol_1037 S_SIOOBE_FORMATTER ir_fm S__assertionsDisabled S_HI_BYTE_SHIFT S_LO_BYTE_SHIFT ((own_gp _ (own_narR _)).trans (own_narc _)) ((own_gp _ (own_narR _)).trans (own_narc _)) ((own_gp _ (own_narR _)).trans (own_narc _)) (own_narc _) (own_narc _) (own_narc _)) hZ (wd hw 26) (wd hw 25) (by decide) (by decide)) (by rw [hml]; rfl) (argsL := [(.ref b1029)]) (rest := []) (lenOf pd_17 rfl) rfl (nb rfl) (hb hby at_244) rfl e1049 (by decide) (by decide) fun T1050 v1050 L1050 X1050 hQ1050 => ?_
            obtain ⟨rfl, Nq1050, e1050⟩ := hQ1050
            have N1050 := Fr.app N1049 Nq1050
            refine Owe.iload X1050.here hx (hb hby at_247) rfl ?_
            refine Owe.icmpNo X1050.here hx (hb hby at_249) rfl (teq ((rcT hok0_1041).trans ((rcT hok1_1044).trans ((rcT hok2_1047).trans rfl)))).2 ?_
            refine Owe.iconst X1050.here hx (hb hby at_252) (w := (1 : Int32)) rfl ?_
            refine Owe.goto X1050.here hx (hb hby at_253) (pc' := 257) (by decide) (by decide) ?_
            refine Owe.retNW X1050 hx hS0 e1050 hk1036 hlk (t := .boolean) hrt (by simp) (hb hby at_257) rfl fun fs hE => ?_
            rw [hG]
            refine ⟨_, _, rfl, ?_, ?_, coldMono hE (by decide) (by decide)⟩
            rotate_left
            · rw [hh]
              show CHr Z own_EL s.vm h0 T1050.vm T1050.heap
              rw [e1050]
              exact Rr1036.trans (CHv.at X1050 hZ (own_ew hw) H1036)
            show Q0 Z p1 p2 p3 p4 p5 fm G1 h0 n0 _ T1050.heap _
            rw [e1050]
            exact ⟨rfl, N1050⟩
          · skip
            refine Owe.stat X1046 hx (y := Y22) hown1 (mvT hZ (wd hw 43)) (mvT hZ (wd hw 44)) (mvT hZ (wd hw 45)) (mvT hZ (wd hw 46)) (by decide) (backOf (W := 0) (rmokn l Z a0 hw [] (p4.toUInt32.toUInt16.toUInt32.toInt32) T1035.heap n0 Z_1040 hok2_1047) hZ (wd hw 46) (wd hw 45) (by decide) (by decide)) (by rw [hml]; rfl) (argsL := [(.int (p4.toUInt32.toUInt16.toUInt32.toInt32))]) (rest := []) (lenOf pd_18 rfl) rfl (nb rfl) (hb hby at_203) rfl e1046 (by decide) (by decide) fun T1052 v1052 L1052 X1052 hQ1052 => ?_
            obtain ⟨rfl, Nq1052, e1052⟩ := hQ1052
            have N1052 := Fr.app N1046 Nq1052
            refine Owe.ifYes X1052.here hx (hb hby at_206) rfl ((if0 _ _).trans (teq (by decide)).1) (pc' := 213) (by decide) (by decide) ?_
            refine Owe.iconst X1052.here hx (hb hby at_213) (w := (0 : Int32)) rfl ?_
            refine Owe.istore X1052.here hx (hb hby at_214) rfl (l' := #[.val (.int p1), .val (.int p2), .val (.int p3), .val (.int p4), .val (.int p5), .val (.int (3 : Int32)), .val (.int (p2.toUInt32.toUInt16.toUInt32.toInt32)), .val (.int (p3.toUInt32.toUInt16.toUInt32.toInt32)), .val (.int (p4.toUInt32.toUInt16.toUInt32.toInt32)), .val (.int (p5.toUInt32.toUInt16.toUInt32.toInt32)), .val (.ref b1013), .val (.ref b1029), .val (.int (0 : Int32))]) rfl ?_
            refine Owe.iload X1052.here hx (hb hby at_216) rfl ?_
            refine Owe.iconst X1052.here hx (hb hby at_218) (w := (4 : Int32)) rfl ?_
            refine Owe.icmpYes X1052.here hx (hb hby at_219) rfl (tlt (by decide)).1 (pc' := 242) (by decide) (by decide) ?_
            refine Owe.aload X1052.here hx (hb hby at_242) rfl rfl ?_
            refine Owe.stat X1052 hx (y := Y21) hown1 (mvT hZ (wd hw 23)) (mvT hZ (wd hw 24)) (mvT hZ (wd hw 25)) (mvT hZ (wd hw 26)) (by decide) (backOf (W := 0) (rmirc3_1 l Z a0 hw [] b1029 b__1035 kb1_1035 fm G1 (nar .char (p2.toUInt32.toUInt16.toUInt32.toInt32)) (nar .char (p3.toUInt32.toUInt16.toUInt32.toInt32)) (nar .char (p4.toUInt32.toUInt16.toUInt32.toInt32)) (p2.toUInt32.toUInt16.toUInt32.toInt32) (p3.toUInt32.toUInt16.toUInt32.toInt32) (p4.toUInt32.toUInt16.toUInt32.toInt32) T1035.heap n0 Z_1040 Fvalue_a0__1035 V_b__1035 E_a0__1035 Fcoder_a0__1035 S_COMPACT_STRINGS cs0 Ol_1037 S_SIOOBE_FORMATTER ir_fm S__assertionsDisabled S_HI_BYTE_SHIFT S_LO_BYTE_SHIFT ((own_gp _ (own_narR _)).trans (own_narc _)) ((own_gp _ (own_narR _)).trans (own_narc _)) ((own_gp _ (own_narR _)).trans (own_narc _)) (own_narc _) (own_narc _) (own_narc _)) hZ (wd hw 26) (wd hw 25) (by decide) (by decide)) (by rw [hml]; rfl) (argsL := [(.ref b1029)]) (rest := []) (lenOf pd_17 rfl) rfl (nb rfl) (hb hby at_244) rfl e1052 (by decide) (by decide) fun T1053 v1053 L1053 X1053 hQ1053 => ?_
            obtain ⟨rfl, Nq1053, e1053⟩ := hQ1053
            have N1053 := Fr.app N1052 Nq1053
            refine Owe.iload X1053.here hx (hb hby at_247) rfl ?_
            refine Owe.icmpNo X1053.here hx (hb hby at_249) rfl (teq ((rcT hok0_1041).trans ((rcT hok1_1044).trans (rcF hok2_1047)))).2 ?_
            refine Owe.iconst X1053.here hx (hb hby at_252) (w := (1 : Int32)) rfl ?_
            refine Owe.goto X1053.here hx (hb hby at_253) (pc' := 257) (by decide) (by decide) ?_
            refine Owe.retNW X1053 hx hS0 e1053 hk1036 hlk (t := .boolean) hrt (by simp) (hb hby at_257) rfl fun fs hE => ?_
            rw [hG]
            refine ⟨_, _, rfl, ?_, ?_, coldMono hE (by decide) (by decide)⟩
            rotate_left
            · rw [hh]
              show CHr Z own_EL s.vm h0 T1053.vm T1053.heap
              rw [e1053]
              exact Rr1036.trans (CHv.at X1053 hZ (own_ew hw) H1036)
            show Q0 Z p1 p2 p3 p4 p5 fm G1 h0 n0 _ T1053.heap _
            rw [e1053]
            exact ⟨rfl, N1053⟩
        · skip
          refine Owe.stat X1043 hx (y := Y22) hown1 (mvT hZ (wd hw 43)) (mvT hZ (wd hw 44)) (mvT hZ (wd hw 45)) (mvT hZ (wd hw 46)) (by decide) (backOf (W := 0) (rmokn l Z a0 hw [] (p3.toUInt32.toUInt16.toUInt32.toInt32) T1035.heap n0 Z_1040 hok1_1044) hZ (wd hw 46) (wd hw 45) (by decide) (by decide)) (by rw [hml]; rfl) (argsL := [(.int (p3.toUInt32.toUInt16.toUInt32.toInt32))]) (rest := []) (lenOf pd_18 rfl) rfl (nb rfl) (hb hby at_177) rfl e1043 (by decide) (by decide) fun T1055 v1055 L1055 X1055 hQ1055 => ?_
          obtain ⟨rfl, Nq1055, e1055⟩ := hQ1055
          have N1055 := Fr.app N1043 Nq1055
          refine Owe.ifYes X1055.here hx (hb hby at_180) rfl ((if0 _ _).trans (teq (by decide)).1) (pc' := 187) (by decide) (by decide) ?_
          refine Owe.iconst X1055.here hx (hb hby at_187) (w := (0 : Int32)) rfl ?_
          refine Owe.istore X1055.here hx (hb hby at_188) rfl (l' := #[.val (.int p1), .val (.int p2), .val (.int p3), .val (.int p4), .val (.int p5), .val (.int (3 : Int32)), .val (.int (p2.toUInt32.toUInt16.toUInt32.toInt32)), .val (.int (p3.toUInt32.toUInt16.toUInt32.toInt32)), .val (.int (p4.toUInt32.toUInt16.toUInt32.toInt32)), .val (.int (p5.toUInt32.toUInt16.toUInt32.toInt32)), .val (.ref b1013), .val (.ref b1029), .val (.int (0 : Int32))]) rfl ?_
          refine Owe.iload X1055.here hx (hb hby at_190) rfl ?_
          refine Owe.iconst X1055.here hx (hb hby at_192) (w := (3 : Int32)) rfl ?_
          refine Owe.icmpNo X1055.here hx (hb hby at_193) rfl (flt (by decide)).1 ?_
          refine Owe.iload X1055.here hx (hb hby at_196) rfl ?_
          refine Owe.ifYes X1055.here hx (hb hby at_198) rfl ((if0 _ _).trans (teq (by decide)).1) (pc' := 213) (by decide) (by decide) ?_
          refine Owe.iconst X1055.here hx (hb hby at_213) (w := (0 : Int32)) rfl ?_
          refine Owe.istore X1055.here hx (hb hby at_214) rfl (l' := #[.val (.int p1), .val (.int p2), .val (.int p3), .val (.int p4), .val (.int p5), .val (.int (3 : Int32)), .val (.int (p2.toUInt32.toUInt16.toUInt32.toInt32)), .val (.int (p3.toUInt32.toUInt16.toUInt32.toInt32)), .val (.int (p4.toUInt32.toUInt16.toUInt32.toInt32)), .val (.int (p5.toUInt32.toUInt16.toUInt32.toInt32)), .val (.ref b1013), .val (.ref b1029), .val (.int (0 : Int32))]) rfl ?_
          refine Owe.iload X1055.here hx (hb hby at_216) rfl ?_
          refine Owe.iconst X1055.here hx (hb hby at_218) (w := (4 : Int32)) rfl ?_
          refine Owe.icmpYes X1055.here hx (hb hby at_219) rfl (tlt (by decide)).1 (pc' := 242) (by decide) (by decide) ?_
          refine Owe.aload X1055.here hx (hb hby at_242) rfl rfl ?_
          refine Owe.stat X1055 hx (y := Y21) hown1 (mvT hZ (wd hw 23)) (mvT hZ (wd hw 24)) (mvT hZ (wd hw 25)) (mvT hZ (wd hw 26)) (by decide) (backOf (W := 0) (rmirc3_1 l Z a0 hw [] b1029 b__1035 kb1_1035 fm G1 (nar .char (p2.toUInt32.toUInt16.toUInt32.toInt32)) (nar .char (p3.toUInt32.toUInt16.toUInt32.toInt32)) (nar .char (p4.toUInt32.toUInt16.toUInt32.toInt32)) (p2.toUInt32.toUInt16.toUInt32.toInt32) (p3.toUInt32.toUInt16.toUInt32.toInt32) (p4.toUInt32.toUInt16.toUInt32.toInt32) T1035.heap n0 Z_1040 Fvalue_a0__1035 V_b__1035 E_a0__1035 Fcoder_a0__1035 S_COMPACT_STRINGS cs0 Ol_1037 S_SIOOBE_FORMATTER ir_fm S__assertionsDisabled S_HI_BYTE_SHIFT S_LO_BYTE_SHIFT ((own_gp _ (own_narR _)).trans (own_narc _)) ((own_gp _ (own_narR _)).trans (own_narc _)) ((own_gp _ (own_narR _)).trans (own_narc _)) (own_narc _) (own_narc _) (own_narc _)) hZ (wd hw 26) (wd hw 25) (by decide) (by decide)) (by rw [hml]; rfl) (argsL := [(.ref b1029)]) (rest := []) (lenOf pd_17 rfl) rfl (nb rfl) (hb hby at_244) rfl e1055 (by decide) (by decide) fun T1056 v1056 L1056 X1056 hQ1056 => ?_
          obtain ⟨rfl, Nq1056, e1056⟩ := hQ1056
          have N1056 := Fr.app N1055 Nq1056
          refine Owe.iload X1056.here hx (hb hby at_247) rfl ?_
          refine Owe.icmpNo X1056.here hx (hb hby at_249) rfl (teq ((rcT hok0_1041).trans (rcF hok1_1044))).2 ?_
          refine Owe.iconst X1056.here hx (hb hby at_252) (w := (1 : Int32)) rfl ?_
          refine Owe.goto X1056.here hx (hb hby at_253) (pc' := 257) (by decide) (by decide) ?_
          refine Owe.retNW X1056 hx hS0 e1056 hk1036 hlk (t := .boolean) hrt (by simp) (hb hby at_257) rfl fun fs hE => ?_
          rw [hG]
          refine ⟨_, _, rfl, ?_, ?_, coldMono hE (by decide) (by decide)⟩
          rotate_left
          · rw [hh]
            show CHr Z own_EL s.vm h0 T1056.vm T1056.heap
            rw [e1056]
            exact Rr1036.trans (CHv.at X1056 hZ (own_ew hw) H1036)
          show Q0 Z p1 p2 p3 p4 p5 fm G1 h0 n0 _ T1056.heap _
          rw [e1056]
          exact ⟨rfl, N1056⟩
      · skip
        refine Owe.stat X1035 hx (y := Y22) hown1 (mvT hZ (wd hw 43)) (mvT hZ (wd hw 44)) (mvT hZ (wd hw 45)) (mvT hZ (wd hw 46)) (by decide) (backOf (W := 0) (rmokn l Z a0 hw [] (p2.toUInt32.toUInt16.toUInt32.toInt32) T1035.heap n0 Z_1040 hok0_1041) hZ (wd hw 46) (wd hw 45) (by decide) (by decide)) (by rw [hml]; rfl) (argsL := [(.int (p2.toUInt32.toUInt16.toUInt32.toInt32))]) (rest := []) (lenOf pd_18 rfl) rfl (nb rfl) (hb hby at_159) rfl rfl (by decide) (by decide) fun T1058 v1058 L1058 X1058 hQ1058 => ?_
        obtain ⟨rfl, Nq1058, e1058⟩ := hQ1058
        have N1058 := Fr.app N1035 Nq1058
        refine Owe.istore X1058.here hx (hb hby at_162) rfl (l' := #[.val (.int p1), .val (.int p2), .val (.int p3), .val (.int p4), .val (.int p5), .val (.int (3 : Int32)), .val (.int (p2.toUInt32.toUInt16.toUInt32.toInt32)), .val (.int (p3.toUInt32.toUInt16.toUInt32.toInt32)), .val (.int (p4.toUInt32.toUInt16.toUInt32.toInt32)), .val (.int (p5.toUInt32.toUInt16.toUInt32.toInt32)), .val (.ref b1013), .val (.ref b1029), .val (.int (0 : Int32))]) rfl ?_
        refine Owe.iload X1058.here hx (hb hby at_164) rfl ?_
        refine Owe.iconst X1058.here hx (hb hby at_166) (w := (2 : Int32)) rfl ?_
        refine Owe.icmpNo X1058.here hx (hb hby at_167) rfl (flt (by decide)).1 ?_
        refine Owe.iload X1058.here hx (hb hby at_170) rfl ?_
        refine Owe.ifYes X1058.here hx (hb hby at_172) rfl ((if0 _ _).trans (teq (by decide)).1) (pc' := 187) (by decide) (by decide) ?_
        refine Owe.iconst X1058.here hx (hb hby at_187) (w := (0 : Int32)) rfl ?_
        refine Owe.istore X1058.here hx (hb hby at_188) rfl (l' := #[.val (.int p1), .val (.int p2), .val (.int p3), .val (.int p4), .val (.int p5), .val (.int (3 : Int32)), .val (.int (p2.toUInt32.toUInt16.toUInt32.toInt32)), .val (.int (p3.toUInt32.toUInt16.toUInt32.toInt32)), .val (.int (p4.toUInt32.toUInt16.toUInt32.toInt32)), .val (.int (p5.toUInt32.toUInt16.toUInt32.toInt32)), .val (.ref b1013), .val (.ref b1029), .val (.int (0 : Int32))]) rfl ?_
        refine Owe.iload X1058.here hx (hb hby at_190) rfl ?_
        refine Owe.iconst X1058.here hx (hb hby at_192) (w := (3 : Int32)) rfl ?_
        refine Owe.icmpNo X1058.here hx (hb hby at_193) rfl (flt (by decide)).1 ?_
        refine Owe.iload X1058.here hx (hb hby at_196) rfl ?_
        refine Owe.ifYes X1058.here hx (hb hby at_198) rfl ((if0 _ _).trans (teq (by decide)).1) (pc' := 213) (by decide) (by decide) ?_
        refine Owe.iconst X1058.here hx (hb hby at_213) (w := (0 : Int32)) rfl ?_
        refine Owe.istore X1058.here hx (hb hby at_214) rfl (l' := #[.val (.int p1), .val (.int p2), .val (.int p3), .val (.int p4), .val (.int p5), .val (.int (3 : Int32)), .val (.int (p2.toUInt32.toUInt16.toUInt32.toInt32)), .val (.int (p3.toUInt32.toUInt16.toUInt32.toInt32)), .val (.int (p4.toUInt32.toUInt16.toUInt32.toInt32)), .val (.int (p5.toUInt32.toUInt16.toUInt32.toInt32)), .val (.ref b1013), .val (.ref b1029), .val (.int (0 : Int32))]) rfl ?_
        refine Owe.iload X1058.here hx (hb hby at_216) rfl ?_
        refine Owe.iconst X1058.here hx (hb hby at_218) (w := (4 : Int32)) rfl ?_
        refine Owe.icmpYes X1058.here hx (hb hby at_219) rfl (tlt (by decide)).1 (pc' := 242) (by decide) (by decide) ?_
        refine Owe.aload X1058.here hx (hb hby at_242) rfl rfl ?_
        refine Owe.stat X1058 hx (y := Y21) hown1 (mvT hZ (wd hw 23)) (mvT hZ (wd hw 24)) (mvT hZ (wd hw 25)) (mvT hZ (wd hw 26)) (by decide) (backOf (W := 0) (rmirc3_1 l Z a0 hw [] b1029 b__1035 kb1_1035 fm G1 (nar .char (p2.toUInt32.toUInt16.toUInt32.toInt32)) (nar .char (p3.toUInt32.toUInt16.toUInt32.toInt32)) (nar .char (p4.toUInt32.toUInt16.toUInt32.toInt32)) (p2.toUInt32.toUInt16.toUInt32.toInt32) (p3.toUInt32.toUInt16.toUInt32.toInt32) (p4.toUInt32.toUInt16.toUInt32.toInt32) T1035.heap n0 Z_1040 Fvalue_a0__1035 V_b__1035 E_a0__1035 Fcoder_a0__1035 S_COMPACT_STRINGS cs0 Ol_1037 S_SIOOBE_FORMATTER ir_fm S__assertionsDisabled S_HI_BYTE_SHIFT S_LO_BYTE_SHIFT ((own_gp _ (own_narR _)).trans (own_narc _)) ((own_gp _ (own_narR _)).trans (own_narc _)) ((own_gp _ (own_narR _)).trans (own_narc _)) (own_narc _) (own_narc _) (own_narc _)) hZ (wd hw 26) (wd hw 25) (by decide) (by decide)) (by rw [hml]; rfl) (argsL := [(.ref b1029)]) (rest := []) (lenOf pd_17 rfl) rfl (nb rfl) (hb hby at_244) rfl e1058 (by decide) (by decide) fun T1059 v1059 L1059 X1059 hQ1059 => ?_
        obtain ⟨rfl, Nq1059, e1059⟩ := hQ1059
        have N1059 := Fr.app N1058 Nq1059
        refine Owe.iload X1059.here hx (hb hby at_247) rfl ?_
        refine Owe.icmpNo X1059.here hx (hb hby at_249) rfl (teq (rcF hok0_1041)).2 ?_
        refine Owe.iconst X1059.here hx (hb hby at_252) (w := (1 : Int32)) rfl ?_
        refine Owe.goto X1059.here hx (hb hby at_253) (pc' := 257) (by decide) (by decide) ?_
        refine Owe.retNW X1059 hx hS0 e1059 hk1036 hlk (t := .boolean) hrt (by simp) (hb hby at_257) rfl fun fs hE => ?_
        rw [hG]
        refine ⟨_, _, rfl, ?_, ?_, coldMono hE (by decide) (by decide)⟩
        rotate_left
        · rw [hh]
          show CHr Z own_EL s.vm h0 T1059.vm T1059.heap
          rw [e1059]
          exact Rr1036.trans (CHv.at X1059 hZ (own_ew hw) H1036)
        show Q0 Z p1 p2 p3 p4 p5 fm G1 h0 n0 _ T1059.heap _
        rw [e1059]
        exact ⟨rfl, N1059⟩
    · skip
      refine Owe.special X1029 hx (y := Y9) rfl hown1 (mvT hZ (wd hw 5)) (mvT hZ (wd hw 6)) (mvT hZ (wd hw 7)) (by decide) (backOf (W := 1) (rmsi3_0 l Z a0 hw [] b1029 b1013 k1013 (nar .char (p2.toUInt32.toUInt16.toUInt32.toInt32)) (nar .char (p3.toUInt32.toUInt16.toUInt32.toInt32)) (nar .char (p4.toUInt32.toUInt16.toUInt32.toInt32)) G1 h1029 n0 Z_1033 A1029 Fvalue_b1029 Fcoder_b1029 ge_b1029 V1025_1032 ne_b1013_b1029 (fun q => hW1034 (Or.inl q)) (fun q => hW1034 (Or.inr (Or.inl q))) (fun q => hW1034 (Or.inr (Or.inr q))) S_COMPACT_STRINGS cs0 Ol_1031 S__assertionsDisabled S_HI_BYTE_SHIFT S_LO_BYTE_SHIFT) hZ (wd hw 7) (wd hw 4) (by decide) (by decide)) (by rw [hml]; rfl) (a := b1029) (argsL := [(.ref b1013)]) (rest := [(.ref b1029)]) (lenOf pd_16 rfl) rfl (nb rfl) (hb hby at_141) rfl e1029 (by decide) (by decide) fun T1060 v1060 L1060 X1060 hQ1060 => ?_
      obtain ⟨b__1060, kb1_1060, rfl, Nq1060, K1060, E_a0__1060, Fvalue_a0__1060, Fcoder_a0__1060, V_b__1060⟩ := hQ1060
      have N1060 := Fr.app N1025 Nq1060
      have hk1061 := Nat.le_trans hk1030 K1060.1
      have sf_b1013_1061 := Safe.keep K1060 (sfS sf_b1029_1030 sf0) H1030 sf_b1013_1030
      have sf_b1029_1061 := Safe.keep K1060 (sfS sf_b1029_1030 sf0) H1030 sf_b1029_1030
      have Rr1061 := Rr1030.trans (CHr.keep K1060 (sfS sf_b1029_1030 sf0) H1030)
      have H1061 := CHv.keep K1060 (sfS sf_b1029_1030 sf0) H1030
      have Ol_1062 := Ol_1031.keep K1060 (allS ge_b1029 all0)
      have V1025_1063 := V1025_1032.keep K1060 (ninS ne_b1013_b1029 nin0)
      have A1029_1064 := A1029.keep K1060
      have Z_1065 := Nat.le_trans Z_1033 K1060.1
      refine Owe.astore X1060.here hx (hb hby at_144) rfl rfl (l' := #[.val (.int p1), .val (.int p2), .val (.int p3), .val (.int p4), .val (.int p5), .val (.int (3 : Int32)), .val (.int (p2.toUInt32.toUInt16.toUInt32.toInt32)), .val (.int (p3.toUInt32.toUInt16.toUInt32.toInt32)), .val (.int (p4.toUInt32.toUInt16.toUInt32.toInt32)), .val (.int (p5.toUInt32.toUInt16.toUInt32.toInt32)), .val (.ref b1013), .val (.ref b1029), .unset]) rfl ?_
      refine Owe.iload X1060.here hx (hb hby at_146) rfl ?_
      refine Owe.ifYes X1060.here hx (hb hby at_148) rfl ((if0 _ _).trans (feq (by decide)).2) (pc' := 157) (by decide) (by decide) ?_
      refine Owe.iload X1060.here hx (hb hby at_157) rfl ?_
      by_cases hok0_1066 : okb (p2.toUInt32.toUInt16.toUInt32.toInt32) = true
      · skip
        refine Owe.stat X1060 hx (y := Y22) hown1 (mvT hZ (wd hw 43)) (mvT hZ (wd hw 44)) (mvT hZ (wd hw 45)) (mvT hZ (wd hw 46)) (by decide) (backOf (W := 0) (rmoky l Z a0 hw [] (p2.toUInt32.toUInt16.toUInt32.toInt32) T1060.heap n0 Z_1065 hok0_1066) hZ (wd hw 46) (wd hw 45) (by decide) (by decide)) (by rw [hml]; rfl) (argsL := [(.int (p2.toUInt32.toUInt16.toUInt32.toInt32))]) (rest := []) (lenOf pd_18 rfl) rfl (nb rfl) (hb hby at_159) rfl rfl (by decide) (by decide) fun T1068 v1068 L1068 X1068 hQ1068 => ?_
        obtain ⟨rfl, Nq1068, e1068⟩ := hQ1068
        have N1068 := Fr.app N1060 Nq1068
        refine Owe.istore X1068.here hx (hb hby at_162) rfl (l' := #[.val (.int p1), .val (.int p2), .val (.int p3), .val (.int p4), .val (.int p5), .val (.int (3 : Int32)), .val (.int (p2.toUInt32.toUInt16.toUInt32.toInt32)), .val (.int (p3.toUInt32.toUInt16.toUInt32.toInt32)), .val (.int (p4.toUInt32.toUInt16.toUInt32.toInt32)), .val (.int (p5.toUInt32.toUInt16.toUInt32.toInt32)), .val (.ref b1013), .val (.ref b1029), .val (.int (1 : Int32))]) rfl ?_
        refine Owe.iload X1068.here hx (hb hby at_164) rfl ?_
        refine Owe.iconst X1068.here hx (hb hby at_166) (w := (2 : Int32)) rfl ?_
        refine Owe.icmpNo X1068.here hx (hb hby at_167) rfl (flt (by decide)).1 ?_
        refine Owe.iload X1068.here hx (hb hby at_170) rfl ?_
        refine Owe.ifNo X1068.here hx (hb hby at_172) rfl ((if0 _ _).trans (feq (by decide)).1) ?_
        refine Owe.iload X1068.here hx (hb hby at_175) rfl ?_
        by_cases hok1_1069 : okb (p3.toUInt32.toUInt16.toUInt32.toInt32) = true
        · skip
          refine Owe.stat X1068 hx (y := Y22) hown1 (mvT hZ (wd hw 43)) (mvT hZ (wd hw 44)) (mvT hZ (wd hw 45)) (mvT hZ (wd hw 46)) (by decide) (backOf (W := 0) (rmoky l Z a0 hw [] (p3.toUInt32.toUInt16.toUInt32.toInt32) T1060.heap n0 Z_1065 hok1_1069) hZ (wd hw 46) (wd hw 45) (by decide) (by decide)) (by rw [hml]; rfl) (argsL := [(.int (p3.toUInt32.toUInt16.toUInt32.toInt32))]) (rest := []) (lenOf pd_18 rfl) rfl (nb rfl) (hb hby at_177) rfl e1068 (by decide) (by decide) fun T1071 v1071 L1071 X1071 hQ1071 => ?_
          obtain ⟨rfl, Nq1071, e1071⟩ := hQ1071
          have N1071 := Fr.app N1068 Nq1071
          refine Owe.ifNo X1071.here hx (hb hby at_180) rfl ((if0 _ _).trans (feq (by decide)).1) ?_
          refine Owe.iconst X1071.here hx (hb hby at_183) (w := (1 : Int32)) rfl ?_
          refine Owe.goto X1071.here hx (hb hby at_184) (pc' := 188) (by decide) (by decide) ?_
          refine Owe.istore X1071.here hx (hb hby at_188) rfl (l' := #[.val (.int p1), .val (.int p2), .val (.int p3), .val (.int p4), .val (.int p5), .val (.int (3 : Int32)), .val (.int (p2.toUInt32.toUInt16.toUInt32.toInt32)), .val (.int (p3.toUInt32.toUInt16.toUInt32.toInt32)), .val (.int (p4.toUInt32.toUInt16.toUInt32.toInt32)), .val (.int (p5.toUInt32.toUInt16.toUInt32.toInt32)), .val (.ref b1013), .val (.ref b1029), .val (.int (1 : Int32))]) rfl ?_
          refine Owe.iload X1071.here hx (hb hby at_190) rfl ?_
          refine Owe.iconst X1071.here hx (hb hby at_192) (w := (3 : Int32)) rfl ?_
          refine Owe.icmpNo X1071.here hx (hb hby at_193) rfl (flt (by decide)).1 ?_
          refine Owe.iload X1071.here hx (hb hby at_196) rfl ?_
          refine Owe.ifNo X1071.here hx (hb hby at_198) rfl ((if0 _ _).trans (feq (by decide)).1) ?_
          refine Owe.iload X1071.here hx (hb hby at_201) rfl ?_
          by_cases hok2_1072 : okb (p4.toUInt32.toUInt16.toUInt32.toInt32) = true
          · skip
            refine Owe.stat X1071 hx (y := Y22) hown1 (mvT hZ (wd hw 43)) (mvT hZ (wd hw 44)) (mvT hZ (wd hw 45)) (mvT hZ (wd hw 46)) (by decide) (backOf (W := 0) (rmoky l Z a0 hw [] (p4.toUInt32.toUInt16.toUInt32.toInt32) T1060.heap n0 Z_1065 hok2_1072) hZ (wd hw 46) (wd hw 45) (by decide) (by decide)) (by rw [hml]; rfl) (argsL := [(.int (p4.toUInt32.toUInt16.toUInt32.toInt32))]) (rest := []) (lenOf pd_18 rfl) rfl (nb rfl) (hb hby at_203) rfl e1071 (by decide) (by decide) fun T1074 v1074 L1074 X1074 hQ1074 => ?_
            obtain ⟨rfl, Nq1074, e1074⟩ := hQ1074
            have N1074 := Fr.app N1071 Nq1074
            refine Owe.ifNo X1074.here hx (hb hby at_206) rfl ((if0 _ _).trans (feq (by decide)).1) ?_
            refine Owe.iconst X1074.here hx (hb hby at_209) (w := (1 : Int32)) rfl ?_
            refine Owe.goto X1074.here hx (hb hby at_210) (pc' := 214) (by decide) (by decide) ?_
            refine Owe.istore X1074.here hx (hb hby at_214) rfl (l' := #[.val (.int p1), .val (.int p2), .val (.int p3), .val (.int p4), .val (.int p5), .val (.int (3 : Int32)), .val (.int (p2.toUInt32.toUInt16.toUInt32.toInt32)), .val (.int (p3.toUInt32.toUInt16.toUInt32.toInt32)), .val (.int (p4.toUInt32.toUInt16.toUInt32.toInt32)), .val (.int (p5.toUInt32.toUInt16.toUInt32.toInt32)), .val (.ref b1013), .val (.ref b1029), .val (.int (1 : Int32))]) rfl ?_
            refine Owe.iload X1074.here hx (hb hby at_216) rfl ?_
            refine Owe.iconst X1074.here hx (hb hby at_218) (w := (4 : Int32)) rfl ?_
            refine Owe.icmpYes X1074.here hx (hb hby at_219) rfl (tlt (by decide)).1 (pc' := 242) (by decide) (by decide) ?_
            refine Owe.aload X1074.here hx (hb hby at_242) rfl rfl ?_
            refine Owe.stat X1074 hx (y := Y21) hown1 (mvT hZ (wd hw 23)) (mvT hZ (wd hw 24)) (mvT hZ (wd hw 25)) (mvT hZ (wd hw 26)) (by decide) (backOf (W := 0) (rmirc3_0 l Z a0 hw [] b1029 b__1060 kb1_1060 fm G1 (nar .char (p2.toUInt32.toUInt16.toUInt32.toInt32)) (nar .char (p3.toUInt32.toUInt16.toUInt32.toInt32)) (nar .char (p4.toUInt32.toUInt16.toUInt32.toInt32)) (p2.toUInt32.toUInt16.toUInt32.toInt32) (p3.toUInt32.toUInt16.toUInt32.toInt32) (p4.toUInt32.toUInt16.toUInt32.toInt32) T1060.heap n0 Z_1065 Fvalue_a0__1060 V_b__1060 E_a0__1060 Fcoder_a0__1060 S_COMPACT_STRINGS cs0 Ol_1062 S_SIOOBE_FORMATTER ir_fm S__assertionsDisabled S_HI_BYTE_SHIFT S_LO_BYTE_SHIFT ((own_lat _ (own_narR _) (fun q => hW1034 (Or.inl q))).trans (own_narc _)) ((own_lat _ (own_narR _) (fun q => hW1034 (Or.inr (Or.inl q)))).trans (own_narc _)) ((own_lat _ (own_narR _) (fun q => hW1034 (Or.inr (Or.inr q)))).trans (own_narc _)) (own_narc _) (own_narc _) (own_narc _)) hZ (wd hw 26) (wd hw 25) (by decide) (by decide)) (by rw [hml]; rfl) (argsL := [(.ref b1029)]) (rest := []) (lenOf pd_17 rfl) rfl (nb rfl) (hb hby at_244) rfl e1074 (by decide) (by decide) fun T1075 v1075 L1075 X1075 hQ1075 => ?_
            obtain ⟨rfl, Nq1075, e1075⟩ := hQ1075
            have N1075 := Fr.app N1074 Nq1075
            refine Owe.iload X1075.here hx (hb hby at_247) rfl ?_
            refine Owe.icmpNo X1075.here hx (hb hby at_249) rfl (teq ((rcT hok0_1066).trans ((rcT hok1_1069).trans ((rcT hok2_1072).trans rfl)))).2 ?_
            refine Owe.iconst X1075.here hx (hb hby at_252) (w := (1 : Int32)) rfl ?_
            refine Owe.goto X1075.here hx (hb hby at_253) (pc' := 257) (by decide) (by decide) ?_
            refine Owe.retNW X1075 hx hS0 e1075 hk1061 hlk (t := .boolean) hrt (by simp) (hb hby at_257) rfl fun fs hE => ?_
            rw [hG]
            refine ⟨_, _, rfl, ?_, ?_, coldMono hE (by decide) (by decide)⟩
            rotate_left
            · rw [hh]
              show CHr Z own_EL s.vm h0 T1075.vm T1075.heap
              rw [e1075]
              exact Rr1061.trans (CHv.at X1075 hZ (own_ew hw) H1061)
            show Q0 Z p1 p2 p3 p4 p5 fm G1 h0 n0 _ T1075.heap _
            rw [e1075]
            exact ⟨rfl, N1075⟩
          · skip
            refine Owe.stat X1071 hx (y := Y22) hown1 (mvT hZ (wd hw 43)) (mvT hZ (wd hw 44)) (mvT hZ (wd hw 45)) (mvT hZ (wd hw 46)) (by decide) (backOf (W := 0) (rmokn l Z a0 hw [] (p4.toUInt32.toUInt16.toUInt32.toInt32) T1060.heap n0 Z_1065 hok2_1072) hZ (wd hw 46) (wd hw 45) (by decide) (by decide)) (by rw [hml]; rfl) (argsL := [(.int (p4.toUInt32.toUInt16.toUInt32.toInt32))]) (rest := []) (lenOf pd_18 rfl) rfl (nb rfl) (hb hby at_203) rfl e1071 (by decide) (by decide) fun T1077 v1077 L1077 X1077 hQ1077 => ?_
            obtain ⟨rfl, Nq1077, e1077⟩ := hQ1077
            have N1077 := Fr.app N1071 Nq1077
            refine Owe.ifYes X1077.here hx (hb hby at_206) rfl ((if0 _ _).trans (teq (by decide)).1) (pc' := 213) (by decide) (by decide) ?_
            refine Owe.iconst X1077.here hx (hb hby at_213) (w := (0 : Int32)) rfl ?_
            refine Owe.istore X1077.here hx (hb hby at_214) rfl (l' := #[.val (.int p1), .val (.int p2), .val (.int p3), .val (.int p4), .val (.int p5), .val (.int (3 : Int32)), .val (.int (p2.toUInt32.toUInt16.toUInt32.toInt32)), .val (.int (p3.toUInt32.toUInt16.toUInt32.toInt32)), .val (.int (p4.toUInt32.toUInt16.toUInt32.toInt32)), .val (.int (p5.toUInt32.toUInt16.toUInt32.toInt32)), .val (.ref b1013), .val (.ref b1029), .val (.int (0 : Int32))]) rfl ?_
            refine Owe.iload X1077.here hx (hb hby at_216) rfl ?_
            refine Owe.iconst X1077.here hx (hb hby at_218) (w := (4 : Int32)) rfl ?_
            refine Owe.icmpYes X1077.here hx (hb hby at_219) rfl (tlt (by decide)).1 (pc' := 242) (by decide) (by decide) ?_
            refine Owe.aload X1077.here hx (hb hby at_242) rfl rfl ?_
            refine Owe.stat X1077 hx (y := Y21) hown1 (mvT hZ (wd hw 23)) (mvT hZ (wd hw 24)) (mvT hZ (wd hw 25)) (mvT hZ (wd hw 26)) (by decide) (backOf (W := 0) (rmirc3_0 l Z a0 hw [] b1029 b__1060 kb1_1060 fm G1 (nar .char (p2.toUInt32.toUInt16.toUInt32.toInt32)) (nar .char (p3.toUInt32.toUInt16.toUInt32.toInt32)) (nar .char (p4.toUInt32.toUInt16.toUInt32.toInt32)) (p2.toUInt32.toUInt16.toUInt32.toInt32) (p3.toUInt32.toUInt16.toUInt32.toInt32) (p4.toUInt32.toUInt16.toUInt32.toInt32) T1060.heap n0 Z_1065 Fvalue_a0__1060 V_b__1060 E_a0__1060 Fcoder_a0__1060 S_COMPACT_STRINGS cs0 Ol_1062 S_SIOOBE_FORMATTER ir_fm S__assertionsDisabled S_HI_BYTE_SHIFT S_LO_BYTE_SHIFT ((own_lat _ (own_narR _) (fun q => hW1034 (Or.inl q))).trans (own_narc _)) ((own_lat _ (own_narR _) (fun q => hW1034 (Or.inr (Or.inl q)))).trans (own_narc _)) ((own_lat _ (own_narR _) (fun q => hW1034 (Or.inr (Or.inr q)))).trans (own_narc _)) (own_narc _) (own_narc _) (own_narc _)) hZ (wd hw 26) (wd hw 25) (by decide) (by decide)) (by rw [hml]; rfl) (argsL := [(.ref b1029)]) (rest := []) (lenOf pd_17 rfl) rfl (nb rfl) (hb hby at_244) rfl e1077 (by decide) (by decide) fun T1078 v1078 L1078 X1078 hQ1078 => ?_
            obtain ⟨rfl, Nq1078, e1078⟩ := hQ1078
            have N1078 := Fr.app N1077 Nq1078
            refine Owe.iload X1078.here hx (hb hby at_247) rfl ?_
            refine Owe.icmpNo X1078.here hx (hb hby at_249) rfl (teq ((rcT hok0_1066).trans ((rcT hok1_1069).trans (rcF hok2_1072)))).2 ?_
            refine Owe.iconst X1078.here hx (hb hby at_252) (w := (1 : Int32)) rfl ?_
            refine Owe.goto X1078.here hx (hb hby at_253) (pc' := 257) (by decide) (by decide) ?_
            refine Owe.retNW X1078 hx hS0 e1078 hk1061 hlk (t := .boolean) hrt (by simp) (hb hby at_257) rfl fun fs hE => ?_
            rw [hG]
            refine ⟨_, _, rfl, ?_, ?_, coldMono hE (by decide) (by decide)⟩
            rotate_left
            · rw [hh]
              show CHr Z own_EL s.vm h0 T1078.vm T1078.heap
              rw [e1078]
              exact Rr1061.trans (CHv.at X1078 hZ (own_ew hw) H1061)
            show Q0 Z p1 p2 p3 p4 p5 fm G1 h0 n0 _ T1078.heap _
            rw [e1078]
            exact ⟨rfl, N1078⟩
        · skip
          refine Owe.stat X1068 hx (y := Y22) hown1 (mvT hZ (wd hw 43)) (mvT hZ (wd hw 44)) (mvT hZ (wd hw 45)) (mvT hZ (wd hw 46)) (by decide) (backOf (W := 0) (rmokn l Z a0 hw [] (p3.toUInt32.toUInt16.toUInt32.toInt32) T1060.heap n0 Z_1065 hok1_1069) hZ (wd hw 46) (wd hw 45) (by decide) (by decide)) (by rw [hml]; rfl) (argsL := [(.int (p3.toUInt32.toUInt16.toUInt32.toInt32))]) (rest := []) (lenOf pd_18 rfl) rfl (nb rfl) (hb hby at_177) rfl e1068 (by decide) (by decide) fun T1080 v1080 L1080 X1080 hQ1080 => ?_
          obtain ⟨rfl, Nq1080, e1080⟩ := hQ1080
          have N1080 := Fr.app N1068 Nq1080
          refine Owe.ifYes X1080.here hx (hb hby at_180) rfl ((if0 _ _).trans (teq (by decide)).1) (pc' := 187) (by decide) (by decide) ?_
          refine Owe.iconst X1080.here hx (hb hby at_187) (w := (0 : Int32)) rfl ?_
          refine Owe.istore X1080.here hx (hb hby at_188) rfl (l' := #[.val (.int p1), .val (.int p2), .val (.int p3), .val (.int p4), .val (.int p5), .val (.int (3 : Int32)), .val (.int (p2.toUInt32.toUInt16.toUInt32.toInt32)), .val (.int (p3.toUInt32.toUInt16.toUInt32.toInt32)), .val (.int (p4.toUInt32.toUInt16.toUInt32.toInt32)), .val (.int (p5.toUInt32.toUInt16.toUInt32.toInt32)), .val (.ref b1013), .val (.ref b1029), .val (.int (0 : Int32))]) rfl ?_
          refine Owe.iload X1080.here hx (hb hby at_190) rfl ?_
          refine Owe.iconst X1080.here hx (hb hby at_192) (w := (3 : Int32)) rfl ?_
          refine Owe.icmpNo X1080.here hx (hb hby at_193) rfl (flt (by decide)).1 ?_
          refine Owe.iload X1080.here hx (hb hby at_196) rfl ?_
          refine Owe.ifYes X1080.here hx (hb hby at_198) rfl ((if0 _ _).trans (teq (by decide)).1) (pc' := 213) (by decide) (by decide) ?_
          refine Owe.iconst X1080.here hx (hb hby at_213) (w := (0 : Int32)) rfl ?_
          refine Owe.istore X1080.here hx (hb hby at_214) rfl (l' := #[.val (.int p1), .val (.int p2), .val (.int p3), .val (.int p4), .val (.int p5), .val (.int (3 : Int32)), .val (.int (p2.toUInt32.toUInt16.toUInt32.toInt32)), .val (.int (p3.toUInt32.toUInt16.toUInt32.toInt32)), .val (.int (p4.toUInt32.toUInt16.toUInt32.toInt32)), .val (.int (p5.toUInt32.toUInt16.toUInt32.toInt32)), .val (.ref b1013), .val (.ref b1029), .val (.int (0 : Int32))]) rfl ?_
          refine Owe.iload X1080.here hx (hb hby at_216) rfl ?_
          refine Owe.iconst X1080.here hx (hb hby at_218) (w := (4 : Int32)) rfl ?_
          refine Owe.icmpYes X1080.here hx (hb hby at_219) rfl (tlt (by decide)).1 (pc' := 242) (by decide) (by decide) ?_
          refine Owe.aload X1080.here hx (hb hby at_242) rfl rfl ?_
          refine Owe.stat X1080 hx (y := Y21) hown1 (mvT hZ (wd hw 23)) (mvT hZ (wd hw 24)) (mvT hZ (wd hw 25)) (mvT hZ (wd hw 26)) (by decide) (backOf (W := 0) (rmirc3_0 l Z a0 hw [] b1029 b__1060 kb1_1060 fm G1 (nar .char (p2.toUInt32.toUInt16.toUInt32.toInt32)) (nar .char (p3.toUInt32.toUInt16.toUInt32.toInt32)) (nar .char (p4.toUInt32.toUInt16.toUInt32.toInt32)) (p2.toUInt32.toUInt16.toUInt32.toInt32) (p3.toUInt32.toUInt16.toUInt32.toInt32) (p4.toUInt32.toUInt16.toUInt32.toInt32) T1060.heap n0 Z_1065 Fvalue_a0__1060 V_b__1060 E_a0__1060 Fcoder_a0__1060 S_COMPACT_STRINGS cs0 Ol_1062 S_SIOOBE_FORMATTER ir_fm S__assertionsDisabled S_HI_BYTE_SHIFT S_LO_BYTE_SHIFT ((own_lat _ (own_narR _) (fun q => hW1034 (Or.inl q))).trans (own_narc _)) ((own_lat _ (own_narR _) (fun q => hW1034 (Or.inr (Or.inl q)))).trans (own_narc _)) ((own_lat _ (own_narR _) (fun q => hW1034 (Or.inr (Or.inr q)))).trans (own_narc _)) (own_narc _) (own_narc _) (own_narc _)) hZ (wd hw 26) (wd hw 25) (by decide) (by decide)) (by rw [hml]; rfl) (argsL := [(.ref b1029)]) (rest := []) (lenOf pd_17 rfl) rfl (nb rfl) (hb hby at_244) rfl e1080 (by decide) (by decide) fun T1081 v1081 L1081 X1081 hQ1081 => ?_
          obtain ⟨rfl, Nq1081, e1081⟩ := hQ1081
          have N1081 := Fr.app N1080 Nq1081
          refine Owe.iload X1081.here hx (hb hby at_247) rfl ?_
          refine Owe.icmpNo X1081.here hx (hb hby at_249) rfl (teq ((rcT hok0_1066).trans (rcF hok1_1069))).2 ?_
          refine Owe.iconst X1081.here hx (hb hby at_252) (w := (1 : Int32)) rfl ?_
          refine Owe.goto X1081.here hx (hb hby at_253) (pc' := 257) (by decide) (by decide) ?_
          refine Owe.retNW X1081 hx hS0 e1081 hk1061 hlk (t := .boolean) hrt (by simp) (hb hby at_257) rfl fun fs hE => ?_
          rw [hG]
          refine ⟨_, _, rfl, ?_, ?_, coldMono hE (by decide) (by decide)⟩
          rotate_left
          · rw [hh]
            show CHr Z own_EL s.vm h0 T1081.vm T1081.heap
            rw [e1081]
            exact Rr1061.trans (CHv.at X1081 hZ (own_ew hw) H1061)
          show Q0 Z p1 p2 p3 p4 p5 fm G1 h0 n0 _ T1081.heap _
          rw [e1081]
          exact ⟨rfl, N1081⟩
      · skip
        refine Owe.stat X1060 hx (y := Y22) hown1 (mvT hZ (wd hw 43)) (mvT hZ (wd hw 44)) (mvT hZ (wd hw 45)) (mvT hZ (wd hw 46)) (by decide) (backOf (W := 0) (rmokn l Z a0 hw [] (p2.toUInt32.toUInt16.toUInt32.toInt32) T1060.heap n0 Z_1065 hok0_1066) hZ (wd hw 46) (wd hw 45) (by decide) (by decide)) (by rw [hml]; rfl) (argsL := [(.int (p2.toUInt32.toUInt16.toUInt32.toInt32))]) (rest := []) (lenOf pd_18 rfl) rfl (nb rfl) (hb hby at_159) rfl rfl (by decide) (by decide) fun T1083 v1083 L1083 X1083 hQ1083 => ?_
        obtain ⟨rfl, Nq1083, e1083⟩ := hQ1083
        have N1083 := Fr.app N1060 Nq1083
        refine Owe.istore X1083.here hx (hb hby at_162) rfl (l' := #[.val (.int p1), .val (.int p2), .val (.int p3), .val (.int p4), .val (.int p5), .val (.int (3 : Int32)), .val (.int (p2.toUInt32.toUInt16.toUInt32.toInt32)), .val (.int (p3.toUInt32.toUInt16.toUInt32.toInt32)), .val (.int (p4.toUInt32.toUInt16.toUInt32.toInt32)), .val (.int (p5.toUInt32.toUInt16.toUInt32.toInt32)), .val (.ref b1013), .val (.ref b1029), .val (.int (0 : Int32))]) rfl ?_
        refine Owe.iload X1083.here hx (hb hby at_164) rfl ?_
        refine Owe.iconst X1083.here hx (hb hby at_166) (w := (2 : Int32)) rfl ?_
        refine Owe.icmpNo X1083.here hx (hb hby at_167) rfl (flt (by decide)).1 ?_
        refine Owe.iload X1083.here hx (hb hby at_170) rfl ?_
        refine Owe.ifYes X1083.here hx (hb hby at_172) rfl ((if0 _ _).trans (teq (by decide)).1) (pc' := 187) (by decide) (by decide) ?_
        refine Owe.iconst X1083.here hx (hb hby at_187) (w := (0 : Int32)) rfl ?_
        refine Owe.istore X1083.here hx (hb hby at_188) rfl (l' := #[.val (.int p1), .val (.int p2), .val (.int p3), .val (.int p4), .val (.int p5), .val (.int (3 : Int32)), .val (.int (p2.toUInt32.toUInt16.toUInt32.toInt32)), .val (.int (p3.toUInt32.toUInt16.toUInt32.toInt32)), .val (.int (p4.toUInt32.toUInt16.toUInt32.toInt32)), .val (.int (p5.toUInt32.toUInt16.toUInt32.toInt32)), .val (.ref b1013), .val (.ref b1029), .val (.int (0 : Int32))]) rfl ?_
        refine Owe.iload X1083.here hx (hb hby at_190) rfl ?_
        refine Owe.iconst X1083.here hx (hb hby at_192) (w := (3 : Int32)) rfl ?_
        refine Owe.icmpNo X1083.here hx (hb hby at_193) rfl (flt (by decide)).1 ?_
        refine Owe.iload X1083.here hx (hb hby at_196) rfl ?_
        refine Owe.ifYes X1083.here hx (hb hby at_198) rfl ((if0 _ _).trans (teq (by decide)).1) (pc' := 213) (by decide) (by decide) ?_
        refine Owe.iconst X1083.here hx (hb hby at_213) (w := (0 : Int32)) rfl ?_
        refine Owe.istore X1083.here hx (hb hby at_214) rfl (l' := #[.val (.int p1), .val (.int p2), .val (.int p3), .val (.int p4), .val (.int p5), .val (.int (3 : Int32)), .val (.int (p2.toUInt32.toUInt16.toUInt32.toInt32)), .val (.int (p3.toUInt32.toUInt16.toUInt32.toInt32)), .val (.int (p4.toUInt32.toUInt16.toUInt32.toInt32)), .val (.int (p5.toUInt32.toUInt16.toUInt32.toInt32)), .val (.ref b1013), .val (.ref b1029), .val (.int (0 : Int32))]) rfl ?_
        refine Owe.iload X1083.here hx (hb hby at_216) rfl ?_
        refine Owe.iconst X1083.here hx (hb hby at_218) (w := (4 : Int32)) rfl ?_
        refine Owe.icmpYes X1083.here hx (hb hby at_219) rfl (tlt (by decide)).1 (pc' := 242) (by decide) (by decide) ?_
        refine Owe.aload X1083.here hx (hb hby at_242) rfl rfl ?_
        refine Owe.stat X1083 hx (y := Y21) hown1 (mvT hZ (wd hw 23)) (mvT hZ (wd hw 24)) (mvT hZ (wd hw 25)) (mvT hZ (wd hw 26)) (by decide) (backOf (W := 0) (rmirc3_0 l Z a0 hw [] b1029 b__1060 kb1_1060 fm G1 (nar .char (p2.toUInt32.toUInt16.toUInt32.toInt32)) (nar .char (p3.toUInt32.toUInt16.toUInt32.toInt32)) (nar .char (p4.toUInt32.toUInt16.toUInt32.toInt32)) (p2.toUInt32.toUInt16.toUInt32.toInt32) (p3.toUInt32.toUInt16.toUInt32.toInt32) (p4.toUInt32.toUInt16.toUInt32.toInt32) T1060.heap n0 Z_1065 Fvalue_a0__1060 V_b__1060 E_a0__1060 Fcoder_a0__1060 S_COMPACT_STRINGS cs0 Ol_1062 S_SIOOBE_FORMATTER ir_fm S__assertionsDisabled S_HI_BYTE_SHIFT S_LO_BYTE_SHIFT ((own_lat _ (own_narR _) (fun q => hW1034 (Or.inl q))).trans (own_narc _)) ((own_lat _ (own_narR _) (fun q => hW1034 (Or.inr (Or.inl q)))).trans (own_narc _)) ((own_lat _ (own_narR _) (fun q => hW1034 (Or.inr (Or.inr q)))).trans (own_narc _)) (own_narc _) (own_narc _) (own_narc _)) hZ (wd hw 26) (wd hw 25) (by decide) (by decide)) (by rw [hml]; rfl) (argsL := [(.ref b1029)]) (rest := []) (lenOf pd_17 rfl) rfl (nb rfl) (hb hby at_244) rfl e1083 (by decide) (by decide) fun T1084 v1084 L1084 X1084 hQ1084 => ?_
        obtain ⟨rfl, Nq1084, e1084⟩ := hQ1084
        have N1084 := Fr.app N1083 Nq1084
        refine Owe.iload X1084.here hx (hb hby at_247) rfl ?_
        refine Owe.icmpNo X1084.here hx (hb hby at_249) rfl (teq (rcF hok0_1066)).2 ?_
        refine Owe.iconst X1084.here hx (hb hby at_252) (w := (1 : Int32)) rfl ?_
        refine Owe.goto X1084.here hx (hb hby at_253) (pc' := 257) (by decide) (by decide) ?_
        refine Owe.retNW X1084 hx hS0 e1084 hk1061 hlk (t := .boolean) hrt (by simp) (hb hby at_257) rfl fun fs hE => ?_
        rw [hG]
        refine ⟨_, _, rfl, ?_, ?_, coldMono hE (by decide) (by decide)⟩
        rotate_left
        · rw [hh]
          show CHr Z own_EL s.vm h0 T1084.vm T1084.heap
          rw [e1084]
          exact Rr1061.trans (CHv.at X1084 hZ (own_ew hw) H1061)
        show Q0 Z p1 p2 p3 p4 p5 fm G1 h0 n0 _ T1084.heap _
        rw [e1084]
        exact ⟨rfl, N1084⟩
  · rw [hk]
    refine Owe.istore X0.here hx (hb hby at_6) rfl (l' := #[.val (.int p1), .val (.int p2), .val (.int p3), .val (.int p4), .val (.int p5), .val (.int (4 : Int32)), .unset, .unset, .unset, .unset, .unset, .unset, .unset]) rfl ?_
    refine Owe.iloadN X0.here hx (hb hby at_8) rfl ?_
    refine Owe.i2c X0.here hx (hb hby at_9) rfl ?_
    refine Owe.istore X0.here hx (hb hby at_10) rfl (l' := #[.val (.int p1), .val (.int p2), .val (.int p3), .val (.int p4), .val (.int p5), .val (.int (4 : Int32)), .val (.int (p2.toUInt32.toUInt16.toUInt32.toInt32)), .unset, .unset, .unset, .unset, .unset, .unset]) rfl ?_
    refine Owe.iloadN X0.here hx (hb hby at_12) rfl ?_
    refine Owe.i2c X0.here hx (hb hby at_13) rfl ?_
    refine Owe.istore X0.here hx (hb hby at_14) rfl (l' := #[.val (.int p1), .val (.int p2), .val (.int p3), .val (.int p4), .val (.int p5), .val (.int (4 : Int32)), .val (.int (p2.toUInt32.toUInt16.toUInt32.toInt32)), .val (.int (p3.toUInt32.toUInt16.toUInt32.toInt32)), .unset, .unset, .unset, .unset, .unset]) rfl ?_
    refine Owe.iloadN X0.here hx (hb hby at_16) rfl ?_
    refine Owe.i2c X0.here hx (hb hby at_17) rfl ?_
    refine Owe.istore X0.here hx (hb hby at_18) rfl (l' := #[.val (.int p1), .val (.int p2), .val (.int p3), .val (.int p4), .val (.int p5), .val (.int (4 : Int32)), .val (.int (p2.toUInt32.toUInt16.toUInt32.toInt32)), .val (.int (p3.toUInt32.toUInt16.toUInt32.toInt32)), .val (.int (p4.toUInt32.toUInt16.toUInt32.toInt32)), .unset, .unset, .unset, .unset]) rfl ?_
    refine Owe.iload X0.here hx (hb hby at_20) rfl ?_
    refine Owe.i2c X0.here hx (hb hby at_22) rfl ?_
    refine Owe.istore X0.here hx (hb hby at_23) rfl (l' := #[.val (.int p1), .val (.int p2), .val (.int p3), .val (.int p4), .val (.int p5), .val (.int (4 : Int32)), .val (.int (p2.toUInt32.toUInt16.toUInt32.toInt32)), .val (.int (p3.toUInt32.toUInt16.toUInt32.toInt32)), .val (.int (p4.toUInt32.toUInt16.toUInt32.toInt32)), .val (.int (p5.toUInt32.toUInt16.toUInt32.toInt32)), .unset, .unset, .unset]) rfl ?_
    refine Owe.iload X0.here hx (hb hby at_25) rfl ?_
    refine Owe.ifYes X0.here hx (hb hby at_27) rfl ((if0 _ _).trans (feq (by decide)).2) (pc' := 38) (by decide) (by decide) ?_
    refine Owe.iload X0.here hx (hb hby at_38) rfl ?_
    refine Owe.iconst X0.here hx (hb hby at_40) (w := (1 : Int32)) rfl ?_
    refine Owe.icmpYes X0.here hx (hb hby at_41) rfl (feq (by decide)).2 (pc' := 57) (by decide) (by decide) ?_
    refine Owe.iload X0.here hx (hb hby at_57) rfl ?_
    refine Owe.iconst X0.here hx (hb hby at_59) (w := (2 : Int32)) rfl ?_
    refine Owe.icmpYes X0.here hx (hb hby at_60) rfl (feq (by decide)).2 (pc' := 81) (by decide) (by decide) ?_
    refine Owe.iload X0.here hx (hb hby at_81) rfl ?_
    refine Owe.iconst X0.here hx (hb hby at_83) (w := (3 : Int32)) rfl ?_
    refine Owe.icmpYes X0.here hx (hb hby at_84) rfl (feq (by decide)).2 (pc' := 110) (by decide) (by decide) ?_
    refine Owe.iconst X0.here hx (hb hby at_110) (w := (4 : Int32)) rfl ?_
    refine Owe.newarr X0 hx hZ (aty := .char) (wd hw 1) e0 (hb hby at_111) rfl (by decide) (cap := 4) (by decide) (by decide) (by decide) (by decide) fun T1085 h1085 b1085 k1085 g1085 X1085 e1085 E1085 V1085 => ?_
    have sf_b1085 := (Safe.new (Nat.le_of_eq g1085.symm) : Safe Z own_EL s.vm h0 b1085)
    have ge_b1085 := Nat.le_trans Z0 (Nat.le_of_eq g1085.symm)
    have hk1086 := Nat.le_trans hk0 E1085.1
    have sf_b1085_1086 := Safe.ext E1085 H0 sf_b1085
    have Rr1086 := R0.trans (CHr.ext E1085 H0)
    have H1086 := CHv.ext E1085 H0
    have Ol_1087 := Ol.ext E1085
    have Z_1088 := Nat.le_trans Z0 E1085.1
    have V_b1085_1085 : Arv Z h1085 b1085 k1085 .char (4 : Int32) [(.int (0 : Int32)), (.int (0 : Int32)), (.int (0 : Int32)), (.int (0 : Int32))] (.int (0 : Int32)) := V1085.pad (pad_rep [] (.int (0 : Int32)) 4)
    refine Owe.dup X1085.here hx (hb hby at_113) rfl rfl ?_
    refine Owe.iconst X1085.here hx (hb hby at_114) (w := (0 : Int32)) rfl ?_
    refine Owe.iload X1085.here hx (hb hby at_115) rfl ?_
    refine Owe.castore X1085 hx hZ e1085 V_b1085_1085 (x := (p2.toUInt32.toUInt16.toUInt32.toInt32)) 0 rfl (nb rfl) (by decide) (hb hby at_117) rfl fun T1089 h1089 X1089 e1089 W1089 (V1089 : Arv Z h1089 b1085 k1085 .char (4 : Int32) [(.int (nar .char (p2.toUInt32.toUInt16.toUInt32.toInt32))), (.int (0 : Int32)), (.int (0 : Int32)), (.int (0 : Int32))] (.int (0 : Int32))) => ?_
    have hk1090 := Nat.le_trans hk1086 (Keep.of_wr W1089).1
    have sf_b1085_1090 := Safe.wr W1089 sf_b1085_1086 H1086 sf_b1085_1086
    have Rr1090 := Rr1086.trans (CHr.wr W1089 sf_b1085_1086 H1086)
    have H1090 := CHv.wr W1089 sf_b1085_1086 H1086
    have Ol_1091 := Ol_1087.wr W1089 ge_b1085
    have Z_1092 := Nat.le_trans Z_1088 (Keep.of_wr W1089).1
    have N1089 := Fr.snoc X1089 N0 ge_b1085
    refine Owe.dup X1089.here hx (hb hby at_118) rfl rfl ?_
    refine Owe.iconst X1089.here hx (hb hby at_119) (w := (1 : Int32)) rfl ?_
    refine Owe.iload X1089.here hx (hb hby at_120) rfl ?_
    refine Owe.castore X1089 hx hZ e1089 V1089 (x := (p3.toUInt32.toUInt16.toUInt32.toInt32)) 1 rfl (nb rfl) (by decide) (hb hby at_122) rfl fun T1093 h1093 X1093 e1093 W1093 (V1093 : Arv Z h1093 b1085 k1085 .char (4 : Int32) [(.int (nar .char (p2.toUInt32.toUInt16.toUInt32.toInt32))), (.int (nar .char (p3.toUInt32.toUInt16.toUInt32.toInt32))), (.int (0 : Int32)), (.int (0 : Int32))] (.int (0 : Int32))) => ?_
    have hk1094 := Nat.le_trans hk1090 (Keep.of_wr W1093).1
    have sf_b1085_1094 := Safe.wr W1093 sf_b1085_1090 H1090 sf_b1085_1090
    have Rr1094 := Rr1090.trans (CHr.wr W1093 sf_b1085_1090 H1090)
    have H1094 := CHv.wr W1093 sf_b1085_1090 H1090
    have Ol_1095 := Ol_1091.wr W1093 ge_b1085
    have Z_1096 := Nat.le_trans Z_1092 (Keep.of_wr W1093).1
    have N1093 := Fr.snoc X1093 N1089 ge_b1085
    refine Owe.dup X1093.here hx (hb hby at_123) rfl rfl ?_
    refine Owe.iconst X1093.here hx (hb hby at_124) (w := (2 : Int32)) rfl ?_
    refine Owe.iload X1093.here hx (hb hby at_125) rfl ?_
    refine Owe.castore X1093 hx hZ e1093 V1093 (x := (p4.toUInt32.toUInt16.toUInt32.toInt32)) 2 rfl (nb rfl) (by decide) (hb hby at_127) rfl fun T1097 h1097 X1097 e1097 W1097 (V1097 : Arv Z h1097 b1085 k1085 .char (4 : Int32) [(.int (nar .char (p2.toUInt32.toUInt16.toUInt32.toInt32))), (.int (nar .char (p3.toUInt32.toUInt16.toUInt32.toInt32))), (.int (nar .char (p4.toUInt32.toUInt16.toUInt32.toInt32))), (.int (0 : Int32))] (.int (0 : Int32))) => ?_
    have hk1098 := Nat.le_trans hk1094 (Keep.of_wr W1097).1
    have sf_b1085_1098 := Safe.wr W1097 sf_b1085_1094 H1094 sf_b1085_1094
    have Rr1098 := Rr1094.trans (CHr.wr W1097 sf_b1085_1094 H1094)
    have H1098 := CHv.wr W1097 sf_b1085_1094 H1094
    have Ol_1099 := Ol_1095.wr W1097 ge_b1085
    have Z_1100 := Nat.le_trans Z_1096 (Keep.of_wr W1097).1
    have N1097 := Fr.snoc X1097 N1093 ge_b1085
    refine Owe.dup X1097.here hx (hb hby at_128) rfl rfl ?_
    refine Owe.iconst X1097.here hx (hb hby at_129) (w := (3 : Int32)) rfl ?_
    refine Owe.iload X1097.here hx (hb hby at_130) rfl ?_
    refine Owe.castore X1097 hx hZ e1097 V1097 (x := (p5.toUInt32.toUInt16.toUInt32.toInt32)) 3 rfl (nb rfl) (by decide) (hb hby at_132) rfl fun T1101 h1101 X1101 e1101 W1101 (V1101 : Arv Z h1101 b1085 k1085 .char (4 : Int32) [(.int (nar .char (p2.toUInt32.toUInt16.toUInt32.toInt32))), (.int (nar .char (p3.toUInt32.toUInt16.toUInt32.toInt32))), (.int (nar .char (p4.toUInt32.toUInt16.toUInt32.toInt32))), (.int (nar .char (p5.toUInt32.toUInt16.toUInt32.toInt32)))] (.int (0 : Int32))) => ?_
    have hk1102 := Nat.le_trans hk1098 (Keep.of_wr W1101).1
    have sf_b1085_1102 := Safe.wr W1101 sf_b1085_1098 H1098 sf_b1085_1098
    have Rr1102 := Rr1098.trans (CHr.wr W1101 sf_b1085_1098 H1098)
    have H1102 := CHv.wr W1101 sf_b1085_1098 H1098
    have Ol_1103 := Ol_1099.wr W1101 ge_b1085
    have Z_1104 := Nat.le_trans Z_1100 (Keep.of_wr W1101).1
    have N1101 := Fr.snoc X1101 N1097 ge_b1085
    refine Owe.astore X1101.here hx (hb hby at_133) rfl rfl (l' := #[.val (.int p1), .val (.int p2), .val (.int p3), .val (.int p4), .val (.int p5), .val (.int (4 : Int32)), .val (.int (p2.toUInt32.toUInt16.toUInt32.toInt32)), .val (.int (p3.toUInt32.toUInt16.toUInt32.toInt32)), .val (.int (p4.toUInt32.toUInt16.toUInt32.toInt32)), .val (.int (p5.toUInt32.toUInt16.toUInt32.toInt32)), .val (.ref b1085), .unset, .unset]) rfl ?_
    refine Owe.new X1101 hx hZ hown1 (wd hw 2) (wd hw 3) (wd hw 4) e1101 (hb hby at_135) (by decide) (by decide) fun T1105 h1105 b1105 g1105 X1105 e1105 E1105 A1105 D1105 => ?_
    have ne_b1085_b1105 : b1085 ≠ b1105 := Nat.ne_of_lt (Nat.lt_of_lt_of_le V1101.lt (Nat.le_of_eq g1105.symm))
    have sf_b1105 := (Safe.new (Nat.le_of_eq g1105.symm) : Safe Z own_EL s.vm h1101 b1105)
    have ge_b1105 := Nat.le_trans Z_1104 (Nat.le_of_eq g1105.symm)
    have hk1106 := Nat.le_trans hk1102 E1105.1
    have sf_b1085_1106 := Safe.ext E1105 H1102 sf_b1085_1102
    have sf_b1105_1106 := Safe.ext E1105 H1102 sf_b1105
    have Rr1106 := Rr1102.trans (CHr.ext E1105 H1102)
    have H1106 := CHv.ext E1105 H1102
    have Ol_1107 := Ol_1103.ext E1105
    have V1101_1108 := V1101.ext E1105
    have Z_1109 := Nat.le_trans Z_1104 E1105.1
    have Fvalue_b1105 : Fld Z h1105 b1105 "java/lang/String" "value" "[B" .null := D1105 (Or.inr (wd hw 17)) (ty := (.array .byte)) (by decide)
    have Fcoder_b1105 : Fld Z h1105 b1105 "java/lang/String" "coder" "B" (.int (0 : Int32)) := D1105 (Or.inr (wd hw 18)) (ty := .byte) (by decide)
    refine Owe.dup X1105.here hx (hb hby at_138) rfl rfl ?_
    refine Owe.aload X1105.here hx (hb hby at_139) rfl rfl ?_
    by_cases hW1110 : (255 : Int32) < (nar .char (p2.toUInt32.toUInt16.toUInt32.toInt32)) ∨ (255 : Int32) < (nar .char (p3.toUInt32.toUInt16.toUInt32.toInt32)) ∨ (255 : Int32) < (nar .char (p4.toUInt32.toUInt16.toUInt32.toInt32)) ∨ (255 : Int32) < (nar .char (p5.toUInt32.toUInt16.toUInt32.toInt32))
    · skip
      refine Owe.special X1105 hx (y := Y9) rfl hown1 (mvT hZ (wd hw 5)) (mvT hZ (wd hw 6)) (mvT hZ (wd hw 7)) (by decide) (backOf (W := 1) (rmsi4_1 l Z a0 hw [] b1105 b1085 k1085 (nar .char (p2.toUInt32.toUInt16.toUInt32.toInt32)) (nar .char (p3.toUInt32.toUInt16.toUInt32.toInt32)) (nar .char (p4.toUInt32.toUInt16.toUInt32.toInt32)) (nar .char (p5.toUInt32.toUInt16.toUInt32.toInt32)) G1 h1105 n0 Z_1109 A1105 Fvalue_b1105 Fcoder_b1105 ge_b1105 V1101_1108 ne_b1085_b1105 hW1110 (own_narR _) (own_narR _) (own_narR _) (own_narR _) S_COMPACT_STRINGS cs0 Ol_1107 S__assertionsDisabled S_HI_BYTE_SHIFT S_LO_BYTE_SHIFT) hZ (wd hw 7) (wd hw 4) (by decide) (by decide)) (by rw [hml]; rfl) (a := b1105) (argsL := [(.ref b1085)]) (rest := [(.ref b1105)]) (lenOf pd_16 rfl) rfl (nb rfl) (hb hby at_141) rfl e1105 (by decide) (by decide) fun T1111 v1111 L1111 X1111 hQ1111 => ?_
      obtain ⟨b__1111, kb1_1111, rfl, Nq1111, K1111, E_a0__1111, Fvalue_a0__1111, Fcoder_a0__1111, V_b__1111⟩ := hQ1111
      have N1111 := Fr.app N1101 Nq1111
      have hk1112 := Nat.le_trans hk1106 K1111.1
      have sf_b1085_1112 := Safe.keep K1111 (sfS sf_b1105_1106 sf0) H1106 sf_b1085_1106
      have sf_b1105_1112 := Safe.keep K1111 (sfS sf_b1105_1106 sf0) H1106 sf_b1105_1106
      have Rr1112 := Rr1106.trans (CHr.keep K1111 (sfS sf_b1105_1106 sf0) H1106)
      have H1112 := CHv.keep K1111 (sfS sf_b1105_1106 sf0) H1106
      have Ol_1113 := Ol_1107.keep K1111 (allS ge_b1105 all0)
      have V1101_1114 := V1101_1108.keep K1111 (ninS ne_b1085_b1105 nin0)
      have A1105_1115 := A1105.keep K1111
      have Z_1116 := Nat.le_trans Z_1109 K1111.1
      refine Owe.astore X1111.here hx (hb hby at_144) rfl rfl (l' := #[.val (.int p1), .val (.int p2), .val (.int p3), .val (.int p4), .val (.int p5), .val (.int (4 : Int32)), .val (.int (p2.toUInt32.toUInt16.toUInt32.toInt32)), .val (.int (p3.toUInt32.toUInt16.toUInt32.toInt32)), .val (.int (p4.toUInt32.toUInt16.toUInt32.toInt32)), .val (.int (p5.toUInt32.toUInt16.toUInt32.toInt32)), .val (.ref b1085), .val (.ref b1105), .unset]) rfl ?_
      refine Owe.iload X1111.here hx (hb hby at_146) rfl ?_
      refine Owe.ifYes X1111.here hx (hb hby at_148) rfl ((if0 _ _).trans (feq (by decide)).2) (pc' := 157) (by decide) (by decide) ?_
      refine Owe.iload X1111.here hx (hb hby at_157) rfl ?_
      by_cases hok0_1117 : okb (p2.toUInt32.toUInt16.toUInt32.toInt32) = true
      · skip
        refine Owe.stat X1111 hx (y := Y22) hown1 (mvT hZ (wd hw 43)) (mvT hZ (wd hw 44)) (mvT hZ (wd hw 45)) (mvT hZ (wd hw 46)) (by decide) (backOf (W := 0) (rmoky l Z a0 hw [] (p2.toUInt32.toUInt16.toUInt32.toInt32) T1111.heap n0 Z_1116 hok0_1117) hZ (wd hw 46) (wd hw 45) (by decide) (by decide)) (by rw [hml]; rfl) (argsL := [(.int (p2.toUInt32.toUInt16.toUInt32.toInt32))]) (rest := []) (lenOf pd_18 rfl) rfl (nb rfl) (hb hby at_159) rfl rfl (by decide) (by decide) fun T1119 v1119 L1119 X1119 hQ1119 => ?_
        obtain ⟨rfl, Nq1119, e1119⟩ := hQ1119
        have N1119 := Fr.app N1111 Nq1119
        refine Owe.istore X1119.here hx (hb hby at_162) rfl (l' := #[.val (.int p1), .val (.int p2), .val (.int p3), .val (.int p4), .val (.int p5), .val (.int (4 : Int32)), .val (.int (p2.toUInt32.toUInt16.toUInt32.toInt32)), .val (.int (p3.toUInt32.toUInt16.toUInt32.toInt32)), .val (.int (p4.toUInt32.toUInt16.toUInt32.toInt32)), .val (.int (p5.toUInt32.toUInt16.toUInt32.toInt32)), .val (.ref b1085), .val (.ref b1105), .val (.int (1 : Int32))]) rfl ?_
        refine Owe.iload X1119.here hx (hb hby at_164) rfl ?_
        refine Owe.iconst X1119.here hx (hb hby at_166) (w := (2 : Int32)) rfl ?_
        refine Owe.icmpNo X1119.here hx (hb hby at_167) rfl (flt (by decide)).1 ?_
        refine Owe.iload X1119.here hx (hb hby at_170) rfl ?_
        refine Owe.ifNo X1119.here hx (hb hby at_172) rfl ((if0 _ _).trans (feq (by decide)).1) ?_
        refine Owe.iload X1119.here hx (hb hby at_175) rfl ?_
        by_cases hok1_1120 : okb (p3.toUInt32.toUInt16.toUInt32.toInt32) = true
        · skip
          refine Owe.stat X1119 hx (y := Y22) hown1 (mvT hZ (wd hw 43)) (mvT hZ (wd hw 44)) (mvT hZ (wd hw 45)) (mvT hZ (wd hw 46)) (by decide) (backOf (W := 0) (rmoky l Z a0 hw [] (p3.toUInt32.toUInt16.toUInt32.toInt32) T1111.heap n0 Z_1116 hok1_1120) hZ (wd hw 46) (wd hw 45) (by decide) (by decide)) (by rw [hml]; rfl) (argsL := [(.int (p3.toUInt32.toUInt16.toUInt32.toInt32))]) (rest := []) (lenOf pd_18 rfl) rfl (nb rfl) (hb hby at_177) rfl e1119 (by decide) (by decide) fun T1122 v1122 L1122 X1122 hQ1122 => ?_
          obtain ⟨rfl, Nq1122, e1122⟩ := hQ1122
          have N1122 := Fr.app N1119 Nq1122
          refine Owe.ifNo X1122.here hx (hb hby at_180) rfl ((if0 _ _).trans (feq (by decide)).1) ?_
          refine Owe.iconst X1122.here hx (hb hby at_183) (w := (1 : Int32)) rfl ?_
          refine Owe.goto X1122.here hx (hb hby at_184) (pc' := 188) (by decide) (by decide) ?_
          refine Owe.istore X1122.here hx (hb hby at_188) rfl (l' := #[.val (.int p1), .val (.int p2), .val (.int p3), .val (.int p4), .val (.int p5), .val (.int (4 : Int32)), .val (.int (p2.toUInt32.toUInt16.toUInt32.toInt32)), .val (.int (p3.toUInt32.toUInt16.toUInt32.toInt32)), .val (.int (p4.toUInt32.toUInt16.toUInt32.toInt32)), .val (.int (p5.toUInt32.toUInt16.toUInt32.toInt32)), .val (.ref b1085), .val (.ref b1105), .val (.int (1 : Int32))]) rfl ?_
          refine Owe.iload X1122.here hx (hb hby at_190) rfl ?_
          refine Owe.iconst X1122.here hx (hb hby at_192) (w := (3 : Int32)) rfl ?_
          refine Owe.icmpNo X1122.here hx (hb hby at_193) rfl (flt (by decide)).1 ?_
          refine Owe.iload X1122.here hx (hb hby at_196) rfl ?_
          refine Owe.ifNo X1122.here hx (hb hby at_198) rfl ((if0 _ _).trans (feq (by decide)).1) ?_
          refine Owe.iload X1122.here hx (hb hby at_201) rfl ?_
          by_cases hok2_1123 : okb (p4.toUInt32.toUInt16.toUInt32.toInt32) = true
          · skip
            refine Owe.stat X1122 hx (y := Y22) hown1 (mvT hZ (wd hw 43)) (mvT hZ (wd hw 44)) (mvT hZ (wd hw 45)) (mvT hZ (wd hw 46)) (by decide) (backOf (W := 0) (rmoky l Z a0 hw [] (p4.toUInt32.toUInt16.toUInt32.toInt32) T1111.heap n0 Z_1116 hok2_1123) hZ (wd hw 46) (wd hw 45) (by decide) (by decide)) (by rw [hml]; rfl) (argsL := [(.int (p4.toUInt32.toUInt16.toUInt32.toInt32))]) (rest := []) (lenOf pd_18 rfl) rfl (nb rfl) (hb hby at_203) rfl e1122 (by decide) (by decide) fun T1125 v1125 L1125 X1125 hQ1125 => ?_
            obtain ⟨rfl, Nq1125, e1125⟩ := hQ1125
            have N1125 := Fr.app N1122 Nq1125
            refine Owe.ifNo X1125.here hx (hb hby at_206) rfl ((if0 _ _).trans (feq (by decide)).1) ?_
            refine Owe.iconst X1125.here hx (hb hby at_209) (w := (1 : Int32)) rfl ?_
            refine Owe.goto X1125.here hx (hb hby at_210) (pc' := 214) (by decide) (by decide) ?_
            refine Owe.istore X1125.here hx (hb hby at_214) rfl (l' := #[.val (.int p1), .val (.int p2), .val (.int p3), .val (.int p4), .val (.int p5), .val (.int (4 : Int32)), .val (.int (p2.toUInt32.toUInt16.toUInt32.toInt32)), .val (.int (p3.toUInt32.toUInt16.toUInt32.toInt32)), .val (.int (p4.toUInt32.toUInt16.toUInt32.toInt32)), .val (.int (p5.toUInt32.toUInt16.toUInt32.toInt32)), .val (.ref b1085), .val (.ref b1105), .val (.int (1 : Int32))]) rfl ?_
            refine Owe.iload X1125.here hx (hb hby at_216) rfl ?_
            refine Owe.iconst X1125.here hx (hb hby at_218) (w := (4 : Int32)) rfl ?_
            refine Owe.icmpNo X1125.here hx (hb hby at_219) rfl (flt (by decide)).1 ?_
            refine Owe.iload X1125.here hx (hb hby at_222) rfl ?_
            refine Owe.ifNo X1125.here hx (hb hby at_224) rfl ((if0 _ _).trans (feq (by decide)).1) ?_
            refine Owe.iload X1125.here hx (hb hby at_227) rfl ?_
            by_cases hok3_1126 : okb (p5.toUInt32.toUInt16.toUInt32.toInt32) = true
            · skip
              refine Owe.stat X1125 hx (y := Y22) hown1 (mvT hZ (wd hw 43)) (mvT hZ (wd hw 44)) (mvT hZ (wd hw 45)) (mvT hZ (wd hw 46)) (by decide) (backOf (W := 0) (rmoky l Z a0 hw [] (p5.toUInt32.toUInt16.toUInt32.toInt32) T1111.heap n0 Z_1116 hok3_1126) hZ (wd hw 46) (wd hw 45) (by decide) (by decide)) (by rw [hml]; rfl) (argsL := [(.int (p5.toUInt32.toUInt16.toUInt32.toInt32))]) (rest := []) (lenOf pd_18 rfl) rfl (nb rfl) (hb hby at_229) rfl e1125 (by decide) (by decide) fun T1128 v1128 L1128 X1128 hQ1128 => ?_
              obtain ⟨rfl, Nq1128, e1128⟩ := hQ1128
              have N1128 := Fr.app N1125 Nq1128
              refine Owe.ifNo X1128.here hx (hb hby at_232) rfl ((if0 _ _).trans (feq (by decide)).1) ?_
              refine Owe.iconst X1128.here hx (hb hby at_235) (w := (1 : Int32)) rfl ?_
              refine Owe.goto X1128.here hx (hb hby at_236) (pc' := 240) (by decide) (by decide) ?_
              refine Owe.istore X1128.here hx (hb hby at_240) rfl (l' := #[.val (.int p1), .val (.int p2), .val (.int p3), .val (.int p4), .val (.int p5), .val (.int (4 : Int32)), .val (.int (p2.toUInt32.toUInt16.toUInt32.toInt32)), .val (.int (p3.toUInt32.toUInt16.toUInt32.toInt32)), .val (.int (p4.toUInt32.toUInt16.toUInt32.toInt32)), .val (.int (p5.toUInt32.toUInt16.toUInt32.toInt32)), .val (.ref b1085), .val (.ref b1105), .val (.int (1 : Int32))]) rfl ?_
              refine Owe.aload X1128.here hx (hb hby at_242) rfl rfl ?_
              refine Owe.stat X1128 hx (y := Y21) hown1 (mvT hZ (wd hw 23)) (mvT hZ (wd hw 24)) (mvT hZ (wd hw 25)) (mvT hZ (wd hw 26)) (by decide) (backOf (W := 0) (rmirc4_1 l Z a0 hw [] b1105 b__1111 kb1_1111 fm G1 (nar .char (p2.toUInt32.toUInt16.toUInt32.toInt32)) (nar .char (p3.toUInt32.toUInt16.toUInt32.toInt32)) (nar .char (p4.toUInt32.toUInt16.toUInt32.toInt32)) (nar .char (p5.toUInt32.toUInt16.toUInt32.toInt32)) (p2.toUInt32.toUInt16.toUInt32.toInt32) (p3.toUInt32.toUInt16.toUInt32.toInt32) (p4.toUInt32.toUInt16.toUInt32.toInt32) (p5.toUInt32.toUInt16.toUInt32.toInt32) T1111.heap n0 Z_1116 Fvalue_a0__1111 V_b__1111 E_a0__1111 Fcoder_a0__1111 S_COMPACT_STRINGS cs0 Ol_1113 S_SIOOBE_FORMATTER ir_fm S__assertionsDisabled S_HI_BYTE_SHIFT S_LO_BYTE_SHIFT ((own_gp _ (own_narR _)).trans (own_narc _)) ((own_gp _ (own_narR _)).trans (own_narc _)) ((own_gp _ (own_narR _)).trans (own_narc _)) ((own_gp _ (own_narR _)).trans (own_narc _)) (own_narc _) (own_narc _) (own_narc _) (own_narc _)) hZ (wd hw 26) (wd hw 25) (by decide) (by decide)) (by rw [hml]; rfl) (argsL := [(.ref b1105)]) (rest := []) (lenOf pd_17 rfl) rfl (nb rfl) (hb hby at_244) rfl e1128 (by decide) (by decide) fun T1129 v1129 L1129 X1129 hQ1129 => ?_
              obtain ⟨rfl, Nq1129, e1129⟩ := hQ1129
              have N1129 := Fr.app N1128 Nq1129
              refine Owe.iload X1129.here hx (hb hby at_247) rfl ?_
              refine Owe.icmpNo X1129.here hx (hb hby at_249) rfl (teq ((rcT hok0_1117).trans ((rcT hok1_1120).trans ((rcT hok2_1123).trans ((rcT hok3_1126).trans rfl))))).2 ?_
              refine Owe.iconst X1129.here hx (hb hby at_252) (w := (1 : Int32)) rfl ?_
              refine Owe.goto X1129.here hx (hb hby at_253) (pc' := 257) (by decide) (by decide) ?_
              refine Owe.retNW X1129 hx hS0 e1129 hk1112 hlk (t := .boolean) hrt (by simp) (hb hby at_257) rfl fun fs hE => ?_
              rw [hG]
              refine ⟨_, _, rfl, ?_, ?_, coldMono hE (by decide) (by decide)⟩
              rotate_left
              · rw [hh]
                show CHr Z own_EL s.vm h0 T1129.vm T1129.heap
                rw [e1129]
                exact Rr1112.trans (CHv.at X1129 hZ (own_ew hw) H1112)
              show Q0 Z p1 p2 p3 p4 p5 fm G1 h0 n0 _ T1129.heap _
              rw [e1129]
              exact ⟨rfl, N1129⟩
            · skip
              refine Owe.stat X1125 hx (y := Y22) hown1 (mvT hZ (wd hw 43)) (mvT hZ (wd hw 44)) (mvT hZ (wd hw 45)) (mvT hZ (wd hw 46)) (by decide) (backOf (W := 0) (rmokn l Z a0 hw [] (p5.toUInt32.toUInt16.toUInt32.toInt32) T1111.heap n0 Z_1116 hok3_1126) hZ (wd hw 46) (wd hw 45) (by decide) (by decide)) (by rw [hml]; rfl) (argsL := [(.int (p5.toUInt32.toUInt16.toUInt32.toInt32))]) (rest := []) (lenOf pd_18 rfl) rfl (nb rfl) (hb hby at_229) rfl e1125 (by decide) (by decide) fun T1131 v1131 L1131 X1131 hQ1131 => ?_
              obtain ⟨rfl, Nq1131, e1131⟩ := hQ1131
              have N1131 := Fr.app N1125 Nq1131
              refine Owe.ifYes X1131.here hx (hb hby at_232) rfl ((if0 _ _).trans (teq (by decide)).1) (pc' := 239) (by decide) (by decide) ?_
              refine Owe.iconst X1131.here hx (hb hby at_239) (w := (0 : Int32)) rfl ?_
              refine Owe.istore X1131.here hx (hb hby at_240) rfl (l' := #[.val (.int p1), .val (.int p2), .val (.int p3), .val (.int p4), .val (.int p5), .val (.int (4 : Int32)), .val (.int (p2.toUInt32.toUInt16.toUInt32.toInt32)), .val (.int (p3.toUInt32.toUInt16.toUInt32.toInt32)), .val (.int (p4.toUInt32.toUInt16.toUInt32.toInt32)), .val (.int (p5.toUInt32.toUInt16.toUInt32.toInt32)), .val (.ref b1085), .val (.ref b1105), .val (.int (0 : Int32))]) rfl ?_
              refine Owe.aload X1131.here hx (hb hby at_242) rfl rfl ?_
              refine Owe.stat X1131 hx (y := Y21) hown1 (mvT hZ (wd hw 23)) (mvT hZ (wd hw 24)) (mvT hZ (wd hw 25)) (mvT hZ (wd hw 26)) (by decide) (backOf (W := 0) (rmirc4_1 l Z a0 hw [] b1105 b__1111 kb1_1111 fm G1 (nar .char (p2.toUInt32.toUInt16.toUInt32.toInt32)) (nar .char (p3.toUInt32.toUInt16.toUInt32.toInt32)) (nar .char (p4.toUInt32.toUInt16.toUInt32.toInt32)) (nar .char (p5.toUInt32.toUInt16.toUInt32.toInt32)) (p2.toUInt32.toUInt16.toUInt32.toInt32) (p3.toUInt32.toUInt16.toUInt32.toInt32) (p4.toUInt32.toUInt16.toUInt32.toInt32) (p5.toUInt32.toUInt16.toUInt32.toInt32) T1111.heap n0 Z_1116 Fvalue_a0__1111 V_b__1111 E_a0__1111 Fcoder_a0__1111 S_COMPACT_STRINGS cs0 Ol_1113 S_SIOOBE_FORMATTER ir_fm S__assertionsDisabled S_HI_BYTE_SHIFT S_LO_BYTE_SHIFT ((own_gp _ (own_narR _)).trans (own_narc _)) ((own_gp _ (own_narR _)).trans (own_narc _)) ((own_gp _ (own_narR _)).trans (own_narc _)) ((own_gp _ (own_narR _)).trans (own_narc _)) (own_narc _) (own_narc _) (own_narc _) (own_narc _)) hZ (wd hw 26) (wd hw 25) (by decide) (by decide)) (by rw [hml]; rfl) (argsL := [(.ref b1105)]) (rest := []) (lenOf pd_17 rfl) rfl (nb rfl) (hb hby at_244) rfl e1131 (by decide) (by decide) fun T1132 v1132 L1132 X1132 hQ1132 => ?_
              obtain ⟨rfl, Nq1132, e1132⟩ := hQ1132
              have N1132 := Fr.app N1131 Nq1132
              refine Owe.iload X1132.here hx (hb hby at_247) rfl ?_
              refine Owe.icmpNo X1132.here hx (hb hby at_249) rfl (teq ((rcT hok0_1117).trans ((rcT hok1_1120).trans ((rcT hok2_1123).trans (rcF hok3_1126))))).2 ?_
              refine Owe.iconst X1132.here hx (hb hby at_252) (w := (1 : Int32)) rfl ?_
              refine Owe.goto X1132.here hx (hb hby at_253) (pc' := 257) (by decide) (by decide) ?_
              refine Owe.retNW X1132 hx hS0 e1132 hk1112 hlk (t := .boolean) hrt (by simp) (hb hby at_257) rfl fun fs hE => ?_
              rw [hG]
              refine ⟨_, _, rfl, ?_, ?_, coldMono hE (by decide) (by decide)⟩
              rotate_left
              · rw [hh]
                show CHr Z own_EL s.vm h0 T1132.vm T1132.heap
                rw [e1132]
                exact Rr1112.trans (CHv.at X1132 hZ (own_ew hw) H1112)
              show Q0 Z p1 p2 p3 p4 p5 fm G1 h0 n0 _ T1132.heap _
              rw [e1132]
              exact ⟨rfl, N1132⟩
          · skip
            refine Owe.stat X1122 hx (y := Y22) hown1 (mvT hZ (wd hw 43)) (mvT hZ (wd hw 44)) (mvT hZ (wd hw 45)) (mvT hZ (wd hw 46)) (by decide) (backOf (W := 0) (rmokn l Z a0 hw [] (p4.toUInt32.toUInt16.toUInt32.toInt32) T1111.heap n0 Z_1116 hok2_1123) hZ (wd hw 46) (wd hw 45) (by decide) (by decide)) (by rw [hml]; rfl) (argsL := [(.int (p4.toUInt32.toUInt16.toUInt32.toInt32))]) (rest := []) (lenOf pd_18 rfl) rfl (nb rfl) (hb hby at_203) rfl e1122 (by decide) (by decide) fun T1134 v1134 L1134 X1134 hQ1134 => ?_
            obtain ⟨rfl, Nq1134, e1134⟩ := hQ1134
            have N1134 := Fr.app N1122 Nq1134
            refine Owe.ifYes X1134.here hx (hb hby at_206) rfl ((if0 _ _).trans (teq (by decide)).1) (pc' := 213) (by decide) (by decide) ?_
            refine Owe.iconst X1134.here hx (hb hby at_213) (w := (0 : Int32)) rfl ?_
            refine Owe.istore X1134.here hx (hb hby at_214) rfl (l' := #[.val (.int p1), .val (.int p2), .val (.int p3), .val (.int p4), .val (.int p5), .val (.int (4 : Int32)), .val (.int (p2.toUInt32.toUInt16.toUInt32.toInt32)), .val (.int (p3.toUInt32.toUInt16.toUInt32.toInt32)), .val (.int (p4.toUInt32.toUInt16.toUInt32.toInt32)), .val (.int (p5.toUInt32.toUInt16.toUInt32.toInt32)), .val (.ref b1085), .val (.ref b1105), .val (.int (0 : Int32))]) rfl ?_
            refine Owe.iload X1134.here hx (hb hby at_216) rfl ?_
            refine Owe.iconst X1134.here hx (hb hby at_218) (w := (4 : Int32)) rfl ?_
            refine Owe.icmpNo X1134.here hx (hb hby at_219) rfl (flt (by decide)).1 ?_
            refine Owe.iload X1134.here hx (hb hby at_222) rfl ?_
            refine Owe.ifYes X1134.here hx (hb hby at_224) rfl ((if0 _ _).trans (teq (by decide)).1) (pc' := 239) (by decide) (by decide) ?_
            refine Owe.iconst X1134.here hx (hb hby at_239) (w := (0 : Int32)) rfl ?_
            refine Owe.istore X1134.here hx (hb hby at_240) rfl (l' := #[.val (.int p1), .val (.int p2), .val (.int p3), .val (.int p4), .val (.int p5), .val (.int (4 : Int32)), .val (.int (p2.toUInt32.toUInt16.toUInt32.toInt32)), .val (.int (p3.toUInt32.toUInt16.toUInt32.toInt32)), .val (.int (p4.toUInt32.toUInt16.toUInt32.toInt32)), .val (.int (p5.toUInt32.toUInt16.toUInt32.toInt32)), .val (.ref b1085), .val (.ref b1105), .val (.int (0 : Int32))]) rfl ?_
            refine Owe.aload X1134.here hx (hb hby at_242) rfl rfl ?_
            refine Owe.stat X1134 hx (y := Y21) hown1 (mvT hZ (wd hw 23)) (mvT hZ (wd hw 24)) (mvT hZ (wd hw 25)) (mvT hZ (wd hw 26)) (by decide) (backOf (W := 0) (rmirc4_1 l Z a0 hw [] b1105 b__1111 kb1_1111 fm G1 (nar .char (p2.toUInt32.toUInt16.toUInt32.toInt32)) (nar .char (p3.toUInt32.toUInt16.toUInt32.toInt32)) (nar .char (p4.toUInt32.toUInt16.toUInt32.toInt32)) (nar .char (p5.toUInt32.toUInt16.toUInt32.toInt32)) (p2.toUInt32.toUInt16.toUInt32.toInt32) (p3.toUInt32.toUInt16.toUInt32.toInt32) (p4.toUInt32.toUInt16.toUInt32.toInt32) (p5.toUInt32.toUInt16.toUInt32.toInt32) T1111.heap n0 Z_1116 Fvalue_a0__1111 V_b__1111 E_a0__1111 Fcoder_a0__1111 S_COMPACT_STRINGS cs0 Ol_1113 S_SIOOBE_FORMATTER ir_fm S__assertionsDisabled S_HI_BYTE_SHIFT S_LO_BYTE_SHIFT ((own_gp _ (own_narR _)).trans (own_narc _)) ((own_gp _ (own_narR _)).trans (own_narc _)) ((own_gp _ (own_narR _)).trans (own_narc _)) ((own_gp _ (own_narR _)).trans (own_narc _)) (own_narc _) (own_narc _) (own_narc _) (own_narc _)) hZ (wd hw 26) (wd hw 25) (by decide) (by decide)) (by rw [hml]; rfl) (argsL := [(.ref b1105)]) (rest := []) (lenOf pd_17 rfl) rfl (nb rfl) (hb hby at_244) rfl e1134 (by decide) (by decide) fun T1135 v1135 L1135 X1135 hQ1135 => ?_
            obtain ⟨rfl, Nq1135, e1135⟩ := hQ1135
            have N1135 := Fr.app N1134 Nq1135
            refine Owe.iload X1135.here hx (hb hby at_247) rfl ?_
            refine Owe.icmpNo X1135.here hx (hb hby at_249) rfl (teq ((rcT hok0_1117).trans ((rcT hok1_1120).trans (rcF hok2_1123)))).2 ?_
            refine Owe.iconst X1135.here hx (hb hby at_252) (w := (1 : Int32)) rfl ?_
            refine Owe.goto X1135.here hx (hb hby at_253) (pc' := 257) (by decide) (by decide) ?_
            refine Owe.retNW X1135 hx hS0 e1135 hk1112 hlk (t := .boolean) hrt (by simp) (hb hby at_257) rfl fun fs hE => ?_
            rw [hG]
            refine ⟨_, _, rfl, ?_, ?_, coldMono hE (by decide) (by decide)⟩
            rotate_left
            · rw [hh]
              show CHr Z own_EL s.vm h0 T1135.vm T1135.heap
              rw [e1135]
              exact Rr1112.trans (CHv.at X1135 hZ (own_ew hw) H1112)
            show Q0 Z p1 p2 p3 p4 p5 fm G1 h0 n0 _ T1135.heap _
            rw [e1135]
            exact ⟨rfl, N1135⟩
        · skip
          refine Owe.stat X1119 hx (y := Y22) hown1 (mvT hZ (wd hw 43)) (mvT hZ (wd hw 44)) (mvT hZ (wd hw 45)) (mvT hZ (wd hw 46)) (by decide) (backOf (W := 0) (rmokn l Z a0 hw [] (p3.toUInt32.toUInt16.toUInt32.toInt32) T1111.heap n0 Z_1116 hok1_1120) hZ (wd hw 46) (wd hw 45) (by decide) (by decide)) (by rw [hml]; rfl) (argsL := [(.int (p3.toUInt32.toUInt16.toUInt32.toInt32))]) (rest := []) (lenOf pd_18 rfl) rfl (nb rfl) (hb hby at_177) rfl e1119 (by decide) (by decide) fun T1137 v1137 L1137 X1137 hQ1137 => ?_
          obtain ⟨rfl, Nq1137, e1137⟩ := hQ1137
          have N1137 := Fr.app N1119 Nq1137
          refine Owe.ifYes X1137.here hx (hb hby at_180) rfl ((if0 _ _).trans (teq (by decide)).1) (pc' := 187) (by decide) (by decide) ?_
          refine Owe.iconst X1137.here hx (hb hby at_187) (w := (0 : Int32)) rfl ?_
          refine Owe.istore X1137.here hx (hb hby at_188) rfl (l' := #[.val (.int p1), .val (.int p2), .val (.int p3), .val (.int p4), .val (.int p5), .val (.int (4 : Int32)), .val (.int (p2.toUInt32.toUInt16.toUInt32.toInt32)), .val (.int (p3.toUInt32.toUInt16.toUInt32.toInt32)), .val (.int (p4.toUInt32.toUInt16.toUInt32.toInt32)), .val (.int (p5.toUInt32.toUInt16.toUInt32.toInt32)), .val (.ref b1085), .val (.ref b1105), .val (.int (0 : Int32))]) rfl ?_
          refine Owe.iload X1137.here hx (hb hby at_190) rfl ?_
          refine Owe.iconst X1137.here hx (hb hby at_192) (w := (3 : Int32)) rfl ?_
          refine Owe.icmpNo X1137.here hx (hb hby at_193) rfl (flt (by decide)).1 ?_
          refine Owe.iload X1137.here hx (hb hby at_196) rfl ?_
          refine Owe.ifYes X1137.here hx (hb hby at_198) rfl ((if0 _ _).trans (teq (by decide)).1) (pc' := 213) (by decide) (by decide) ?_
          refine Owe.iconst X1137.here hx (hb hby at_213) (w := (0 : Int32)) rfl ?_
          refine Owe.istore X1137.here hx (hb hby at_214) rfl (l' := #[.val (.int p1), .val (.int p2), .val (.int p3), .val (.int p4), .val (.int p5), .val (.int (4 : Int32)), .val (.int (p2.toUInt32.toUInt16.toUInt32.toInt32)), .val (.int (p3.toUInt32.toUInt16.toUInt32.toInt32)), .val (.int (p4.toUInt32.toUInt16.toUInt32.toInt32)), .val (.int (p5.toUInt32.toUInt16.toUInt32.toInt32)), .val (.ref b1085), .val (.ref b1105), .val (.int (0 : Int32))]) rfl ?_
          refine Owe.iload X1137.here hx (hb hby at_216) rfl ?_
          refine Owe.iconst X1137.here hx (hb hby at_218) (w := (4 : Int32)) rfl ?_
          refine Owe.icmpNo X1137.here hx (hb hby at_219) rfl (flt (by decide)).1 ?_
          refine Owe.iload X1137.here hx (hb hby at_222) rfl ?_
          refine Owe.ifYes X1137.here hx (hb hby at_224) rfl ((if0 _ _).trans (teq (by decide)).1) (pc' := 239) (by decide) (by decide) ?_
          refine Owe.iconst X1137.here hx (hb hby at_239) (w := (0 : Int32)) rfl ?_
          refine Owe.istore X1137.here hx (hb hby at_240) rfl (l' := #[.val (.int p1), .val (.int p2), .val (.int p3), .val (.int p4), .val (.int p5), .val (.int (4 : Int32)), .val (.int (p2.toUInt32.toUInt16.toUInt32.toInt32)), .val (.int (p3.toUInt32.toUInt16.toUInt32.toInt32)), .val (.int (p4.toUInt32.toUInt16.toUInt32.toInt32)), .val (.int (p5.toUInt32.toUInt16.toUInt32.toInt32)), .val (.ref b1085), .val (.ref b1105), .val (.int (0 : Int32))]) rfl ?_
          refine Owe.aload X1137.here hx (hb hby at_242) rfl rfl ?_
          refine Owe.stat X1137 hx (y := Y21) hown1 (mvT hZ (wd hw 23)) (mvT hZ (wd hw 24)) (mvT hZ (wd hw 25)) (mvT hZ (wd hw 26)) (by decide) (backOf (W := 0) (rmirc4_1 l Z a0 hw [] b1105 b__1111 kb1_1111 fm G1 (nar .char (p2.toUInt32.toUInt16.toUInt32.toInt32)) (nar .char (p3.toUInt32.toUInt16.toUInt32.toInt32)) (nar .char (p4.toUInt32.toUInt16.toUInt32.toInt32)) (nar .char (p5.toUInt32.toUInt16.toUInt32.toInt32)) (p2.toUInt32.toUInt16.toUInt32.toInt32) (p3.toUInt32.toUInt16.toUInt32.toInt32) (p4.toUInt32.toUInt16.toUInt32.toInt32) (p5.toUInt32.toUInt16.toUInt32.toInt32) T1111.heap n0 Z_1116 Fvalue_a0__1111 V_b__1111 E_a0__1111 Fcoder_a0__1111 S_COMPACT_STRINGS cs0 Ol_1113 S_SIOOBE_FORMATTER ir_fm S__assertionsDisabled S_HI_BYTE_SHIFT S_LO_BYTE_SHIFT ((own_gp _ (own_narR _)).trans (own_narc _)) ((own_gp _ (own_narR _)).trans (own_narc _)) ((own_gp _ (own_narR _)).trans (own_narc _)) ((own_gp _ (own_narR _)).trans (own_narc _)) (own_narc _) (own_narc _) (own_narc _) (own_narc _)) hZ (wd hw 26) (wd hw 25) (by decide) (by decide)) (by rw [hml]; rfl) (argsL := [(.ref b1105)]) (rest := []) (lenOf pd_17 rfl) rfl (nb rfl) (hb hby at_244) rfl e1137 (by decide) (by decide) fun T1138 v1138 L1138 X1138 hQ1138 => ?_
          obtain ⟨rfl, Nq1138, e1138⟩ := hQ1138
          have N1138 := Fr.app N1137 Nq1138
          refine Owe.iload X1138.here hx (hb hby at_247) rfl ?_
          refine Owe.icmpNo X1138.here hx (hb hby at_249) rfl (teq ((rcT hok0_1117).trans (rcF hok1_1120))).2 ?_
          refine Owe.iconst X1138.here hx (hb hby at_252) (w := (1 : Int32)) rfl ?_
          refine Owe.goto X1138.here hx (hb hby at_253) (pc' := 257) (by decide) (by decide) ?_
          refine Owe.retNW X1138 hx hS0 e1138 hk1112 hlk (t := .boolean) hrt (by simp) (hb hby at_257) rfl fun fs hE => ?_
          rw [hG]
          refine ⟨_, _, rfl, ?_, ?_, coldMono hE (by decide) (by decide)⟩
          rotate_left
          · rw [hh]
            show CHr Z own_EL s.vm h0 T1138.vm T1138.heap
            rw [e1138]
            exact Rr1112.trans (CHv.at X1138 hZ (own_ew hw) H1112)
          show Q0 Z p1 p2 p3 p4 p5 fm G1 h0 n0 _ T1138.heap _
          rw [e1138]
          exact ⟨rfl, N1138⟩
      · skip
        refine Owe.stat X1111 hx (y := Y22) hown1 (mvT hZ (wd hw 43)) (mvT hZ (wd hw 44)) (mvT hZ (wd hw 45)) (mvT hZ (wd hw 46)) (by decide) (backOf (W := 0) (rmokn l Z a0 hw [] (p2.toUInt32.toUInt16.toUInt32.toInt32) T1111.heap n0 Z_1116 hok0_1117) hZ (wd hw 46) (wd hw 45) (by decide) (by decide)) (by rw [hml]; rfl) (argsL := [(.int (p2.toUInt32.toUInt16.toUInt32.toInt32))]) (rest := []) (lenOf pd_18 rfl) rfl (nb rfl) (hb hby at_159) rfl rfl (by decide) (by decide) fun T1140 v1140 L1140 X1140 hQ1140 => ?_
        obtain ⟨rfl, Nq1140, e1140⟩ := hQ1140
        have N1140 := Fr.app N1111 Nq1140
        refine Owe.istore X1140.here hx (hb hby at_162) rfl (l' := #[.val (.int p1), .val (.int p2), .val (.int p3), .val (.int p4), .val (.int p5), .val (.int (4 : Int32)), .val (.int (p2.toUInt32.toUInt16.toUInt32.toInt32)), .val (.int (p3.toUInt32.toUInt16.toUInt32.toInt32)), .val (.int (p4.toUInt32.toUInt16.toUInt32.toInt32)), .val (.int (p5.toUInt32.toUInt16.toUInt32.toInt32)), .val (.ref b1085), .val (.ref b1105), .val (.int (0 : Int32))]) rfl ?_
        refine Owe.iload X1140.here hx (hb hby at_164) rfl ?_
        refine Owe.iconst X1140.here hx (hb hby at_166) (w := (2 : Int32)) rfl ?_
        refine Owe.icmpNo X1140.here hx (hb hby at_167) rfl (flt (by decide)).1 ?_
        refine Owe.iload X1140.here hx (hb hby at_170) rfl ?_
        refine Owe.ifYes X1140.here hx (hb hby at_172) rfl ((if0 _ _).trans (teq (by decide)).1) (pc' := 187) (by decide) (by decide) ?_
        refine Owe.iconst X1140.here hx (hb hby at_187) (w := (0 : Int32)) rfl ?_
        refine Owe.istore X1140.here hx (hb hby at_188) rfl (l' := #[.val (.int p1), .val (.int p2), .val (.int p3), .val (.int p4), .val (.int p5), .val (.int (4 : Int32)), .val (.int (p2.toUInt32.toUInt16.toUInt32.toInt32)), .val (.int (p3.toUInt32.toUInt16.toUInt32.toInt32)), .val (.int (p4.toUInt32.toUInt16.toUInt32.toInt32)), .val (.int (p5.toUInt32.toUInt16.toUInt32.toInt32)), .val (.ref b1085), .val (.ref b1105), .val (.int (0 : Int32))]) rfl ?_
        refine Owe.iload X1140.here hx (hb hby at_190) rfl ?_
        refine Owe.iconst X1140.here hx (hb hby at_192) (w := (3 : Int32)) rfl ?_
        refine Owe.icmpNo X1140.here hx (hb hby at_193) rfl (flt (by decide)).1 ?_
        refine Owe.iload X1140.here hx (hb hby at_196) rfl ?_
        refine Owe.ifYes X1140.here hx (hb hby at_198) rfl ((if0 _ _).trans (teq (by decide)).1) (pc' := 213) (by decide) (by decide) ?_
        refine Owe.iconst X1140.here hx (hb hby at_213) (w := (0 : Int32)) rfl ?_
        refine Owe.istore X1140.here hx (hb hby at_214) rfl (l' := #[.val (.int p1), .val (.int p2), .val (.int p3), .val (.int p4), .val (.int p5), .val (.int (4 : Int32)), .val (.int (p2.toUInt32.toUInt16.toUInt32.toInt32)), .val (.int (p3.toUInt32.toUInt16.toUInt32.toInt32)), .val (.int (p4.toUInt32.toUInt16.toUInt32.toInt32)), .val (.int (p5.toUInt32.toUInt16.toUInt32.toInt32)), .val (.ref b1085), .val (.ref b1105), .val (.int (0 : Int32))]) rfl ?_
        refine Owe.iload X1140.here hx (hb hby at_216) rfl ?_
        refine Owe.iconst X1140.here hx (hb hby at_218) (w := (4 : Int32)) rfl ?_
        refine Owe.icmpNo X1140.here hx (hb hby at_219) rfl (flt (by decide)).1 ?_
        refine Owe.iload X1140.here hx (hb hby at_222) rfl ?_
        refine Owe.ifYes X1140.here hx (hb hby at_224) rfl ((if0 _ _).trans (teq (by decide)).1) (pc' := 239) (by decide) (by decide) ?_
        refine Owe.iconst X1140.here hx (hb hby at_239) (w := (0 : Int32)) rfl ?_
        refine Owe.istore X1140.here hx (hb hby at_240) rfl (l' := #[.val (.int p1), .val (.int p2), .val (.int p3), .val (.int p4), .val (.int p5), .val (.int (4 : Int32)), .val (.int (p2.toUInt32.toUInt16.toUInt32.toInt32)), .val (.int (p3.toUInt32.toUInt16.toUInt32.toInt32)), .val (.int (p4.toUInt32.toUInt16.toUInt32.toInt32)), .val (.int (p5.toUInt32.toUInt16.toUInt32.toInt32)), .val (.ref b1085), .val (.ref b1105), .val (.int (0 : Int32))]) rfl ?_
        refine Owe.aload X1140.here hx (hb hby at_242) rfl rfl ?_
        refine Owe.stat X1140 hx (y := Y21) hown1 (mvT hZ (wd hw 23)) (mvT hZ (wd hw 24)) (mvT hZ (wd hw 25)) (mvT hZ (wd hw 26)) (by decide) (backOf (W := 0) (rmirc4_1 l Z a0 hw [] b1105 b__1111 kb1_1111 fm G1 (nar .char (p2.toUInt32.toUInt16.toUInt32.toInt32)) (nar .char (p3.toUInt32.toUInt16.toUInt32.toInt32)) (nar .char (p4.toUInt32.toUInt16.toUInt32.toInt32)) (nar .char (p5.toUInt32.toUInt16.toUInt32.toInt32)) (p2.toUInt32.toUInt16.toUInt32.toInt32) (p3.toUInt32.toUInt16.toUInt32.toInt32) (p4.toUInt32.toUInt16.toUInt32.toInt32) (p5.toUInt32.toUInt16.toUInt32.toInt32) T1111.heap n0 Z_1116 Fvalue_a0__1111 V_b__1111 E_a0__1111 Fcoder_a0__1111 S_COMPACT_STRINGS cs0 Ol_1113 S_SIOOBE_FORMATTER ir_fm S__assertionsDisabled S_HI_BYTE_SHIFT S_LO_BYTE_SHIFT ((own_gp _ (own_narR _)).trans (own_narc _)) ((own_gp _ (own_narR _)).trans (own_narc _)) ((own_gp _ (own_narR _)).trans (own_narc _)) ((own_gp _ (own_narR _)).trans (own_narc _)) (own_narc _) (own_narc _) (own_narc _) (own_narc _)) hZ (wd hw 26) (wd hw 25) (by decide) (by decide)) (by rw [hml]; rfl) (argsL := [(.ref b1105)]) (rest := []) (lenOf pd_17 rfl) rfl (nb rfl) (hb hby at_244) rfl e1140 (by decide) (by decide) fun T1141 v1141 L1141 X1141 hQ1141 => ?_
        obtain ⟨rfl, Nq1141, e1141⟩ := hQ1141
        have N1141 := Fr.app N1140 Nq1141
        refine Owe.iload X1141.here hx (hb hby at_247) rfl ?_
        refine Owe.icmpNo X1141.here hx (hb hby at_249) rfl (teq (rcF hok0_1117)).2 ?_
        refine Owe.iconst X1141.here hx (hb hby at_252) (w := (1 : Int32)) rfl ?_
        refine Owe.goto X1141.here hx (hb hby at_253) (pc' := 257) (by decide) (by decide) ?_
        refine Owe.retNW X1141 hx hS0 e1141 hk1112 hlk (t := .boolean) hrt (by simp) (hb hby at_257) rfl fun fs hE => ?_
        rw [hG]
        refine ⟨_, _, rfl, ?_, ?_, coldMono hE (by decide) (by decide)⟩
        rotate_left
        · rw [hh]
          show CHr Z own_EL s.vm h0 T1141.vm T1141.heap
          rw [e1141]
          exact Rr1112.trans (CHv.at X1141 hZ (own_ew hw) H1112)
        show Q0 Z p1 p2 p3 p4 p5 fm G1 h0 n0 _ T1141.heap _
        rw [e1141]
        exact ⟨rfl, N1141⟩
    · skip
      refine Owe.special X1105 hx (y := Y9) rfl hown1 (mvT hZ (wd hw 5)) (mvT hZ (wd hw 6)) (mvT hZ (wd hw 7)) (by decide) (backOf (W := 1) (rmsi4_0 l Z a0 hw [] b1105 b1085 k1085 (nar .char (p2.toUInt32.toUInt16.toUInt32.toInt32)) (nar .char (p3.toUInt32.toUInt16.toUInt32.toInt32)) (nar .char (p4.toUInt32.toUInt16.toUInt32.toInt32)) (nar .char (p5.toUInt32.toUInt16.toUInt32.toInt32)) G1 h1105 n0 Z_1109 A1105 Fvalue_b1105 Fcoder_b1105 ge_b1105 V1101_1108 ne_b1085_b1105 (fun q => hW1110 (Or.inl q)) (fun q => hW1110 (Or.inr (Or.inl q))) (fun q => hW1110 (Or.inr (Or.inr (Or.inl q)))) (fun q => hW1110 (Or.inr (Or.inr (Or.inr q)))) S_COMPACT_STRINGS cs0 Ol_1107 S__assertionsDisabled S_HI_BYTE_SHIFT S_LO_BYTE_SHIFT) hZ (wd hw 7) (wd hw 4) (by decide) (by decide)) (by rw [hml]; rfl) (a := b1105) (argsL := [(.ref b1085)]) (rest := [(.ref b1105)]) (lenOf pd_16 rfl) rfl (nb rfl) (hb hby at_141) rfl e1105 (by decide) (by decide) fun T1142 v1142 L1142 X1142 hQ1142 => ?_
      obtain ⟨b__1142, kb1_1142, rfl, Nq1142, K1142, E_a0__1142, Fvalue_a0__1142, Fcoder_a0__1142, V_b__1142⟩ := hQ1142
      have N1142 := Fr.app N1101 Nq1142
      have hk1143 := Nat.le_trans hk1106 K1142.1
      have sf_b1085_1143 := Safe.keep K1142 (sfS sf_b1105_1106 sf0) H1106 sf_b1085_1106
      have sf_b1105_1143 := Safe.keep K1142 (sfS sf_b1105_1106 sf0) H1106 sf_b1105_1106
      have Rr1143 := Rr1106.trans (CHr.keep K1142 (sfS sf_b1105_1106 sf0) H1106)
      have H1143 := CHv.keep K1142 (sfS sf_b1105_1106 sf0) H1106
      have Ol_1144 := Ol_1107.keep K1142 (allS ge_b1105 all0)
      have V1101_1145 := V1101_1108.keep K1142 (ninS ne_b1085_b1105 nin0)
      have A1105_1146 := A1105.keep K1142
      have Z_1147 := Nat.le_trans Z_1109 K1142.1
      refine Owe.astore X1142.here hx (hb hby at_144) rfl rfl (l' := #[.val (.int p1), .val (.int p2), .val (.int p3), .val (.int p4), .val (.int p5), .val (.int (4 : Int32)), .val (.int (p2.toUInt32.toUInt16.toUInt32.toInt32)), .val (.int (p3.toUInt32.toUInt16.toUInt32.toInt32)), .val (.int (p4.toUInt32.toUInt16.toUInt32.toInt32)), .val (.int (p5.toUInt32.toUInt16.toUInt32.toInt32)), .val (.ref b1085), .val (.ref b1105), .unset]) rfl ?_
      refine Owe.iload X1142.here hx (hb hby at_146) rfl ?_
      refine Owe.ifYes X1142.here hx (hb hby at_148) rfl ((if0 _ _).trans (feq (by decide)).2) (pc' := 157) (by decide) (by decide) ?_
      refine Owe.iload X1142.here hx (hb hby at_157) rfl ?_
      by_cases hok0_1148 : okb (p2.toUInt32.toUInt16.toUInt32.toInt32) = true
      · skip
        refine Owe.stat X1142 hx (y := Y22) hown1 (mvT hZ (wd hw 43)) (mvT hZ (wd hw 44)) (mvT hZ (wd hw 45)) (mvT hZ (wd hw 46)) (by decide) (backOf (W := 0) (rmoky l Z a0 hw [] (p2.toUInt32.toUInt16.toUInt32.toInt32) T1142.heap n0 Z_1147 hok0_1148) hZ (wd hw 46) (wd hw 45) (by decide) (by decide)) (by rw [hml]; rfl) (argsL := [(.int (p2.toUInt32.toUInt16.toUInt32.toInt32))]) (rest := []) (lenOf pd_18 rfl) rfl (nb rfl) (hb hby at_159) rfl rfl (by decide) (by decide) fun T1150 v1150 L1150 X1150 hQ1150 => ?_
        obtain ⟨rfl, Nq1150, e1150⟩ := hQ1150
        have N1150 := Fr.app N1142 Nq1150
        refine Owe.istore X1150.here hx (hb hby at_162) rfl (l' := #[.val (.int p1), .val (.int p2), .val (.int p3), .val (.int p4), .val (.int p5), .val (.int (4 : Int32)), .val (.int (p2.toUInt32.toUInt16.toUInt32.toInt32)), .val (.int (p3.toUInt32.toUInt16.toUInt32.toInt32)), .val (.int (p4.toUInt32.toUInt16.toUInt32.toInt32)), .val (.int (p5.toUInt32.toUInt16.toUInt32.toInt32)), .val (.ref b1085), .val (.ref b1105), .val (.int (1 : Int32))]) rfl ?_
        refine Owe.iload X1150.here hx (hb hby at_164) rfl ?_
        refine Owe.iconst X1150.here hx (hb hby at_166) (w := (2 : Int32)) rfl ?_
        refine Owe.icmpNo X1150.here hx (hb hby at_167) rfl (flt (by decide)).1 ?_
        refine Owe.iload X1150.here hx (hb hby at_170) rfl ?_
        refine Owe.ifNo X1150.here hx (hb hby at_172) rfl ((if0 _ _).trans (feq (by decide)).1) ?_
        refine Owe.iload X1150.here hx (hb hby at_175) rfl ?_
        by_cases hok1_1151 : okb (p3.toUInt32.toUInt16.toUInt32.toInt32) = true
        · skip
          refine Owe.stat X1150 hx (y := Y22) hown1 (mvT hZ (wd hw 43)) (mvT hZ (wd hw 44)) (mvT hZ (wd hw 45)) (mvT hZ (wd hw 46)) (by decide) (backOf (W := 0) (rmoky l Z a0 hw [] (p3.toUInt32.toUInt16.toUInt32.toInt32) T1142.heap n0 Z_1147 hok1_1151) hZ (wd hw 46) (wd hw 45) (by decide) (by decide)) (by rw [hml]; rfl) (argsL := [(.int (p3.toUInt32.toUInt16.toUInt32.toInt32))]) (rest := []) (lenOf pd_18 rfl) rfl (nb rfl) (hb hby at_177) rfl e1150 (by decide) (by decide) fun T1153 v1153 L1153 X1153 hQ1153 => ?_
          obtain ⟨rfl, Nq1153, e1153⟩ := hQ1153
          have N1153 := Fr.app N1150 Nq1153
          refine Owe.ifNo X1153.here hx (hb hby at_180) rfl ((if0 _ _).trans (feq (by decide)).1) ?_
          refine Owe.iconst X1153.here hx (hb hby at_183) (w := (1 : Int32)) rfl ?_
          refine Owe.goto X1153.here hx (hb hby at_184) (pc' := 188) (by decide) (by decide) ?_
          refine Owe.istore X1153.here hx (hb hby at_188) rfl (l' := #[.val (.int p1), .val (.int p2), .val (.int p3), .val (.int p4), .val (.int p5), .val (.int (4 : Int32)), .val (.int (p2.toUInt32.toUInt16.toUInt32.toInt32)), .val (.int (p3.toUInt32.toUInt16.toUInt32.toInt32)), .val (.int (p4.toUInt32.toUInt16.toUInt32.toInt32)), .val (.int (p5.toUInt32.toUInt16.toUInt32.toInt32)), .val (.ref b1085), .val (.ref b1105), .val (.int (1 : Int32))]) rfl ?_
          refine Owe.iload X1153.here hx (hb hby at_190) rfl ?_
          refine Owe.iconst X1153.here hx (hb hby at_192) (w := (3 : Int32)) rfl ?_
          refine Owe.icmpNo X1153.here hx (hb hby at_193) rfl (flt (by decide)).1 ?_
          refine Owe.iload X1153.here hx (hb hby at_196) rfl ?_
          refine Owe.ifNo X1153.here hx (hb hby at_198) rfl ((if0 _ _).trans (feq (by decide)).1) ?_
          refine Owe.iload X1153.here hx (hb hby at_201) rfl ?_
          by_cases hok2_1154 : okb (p4.toUInt32.toUInt16.toUInt32.toInt32) = true
          · skip
            refine Owe.stat X1153 hx (y := Y22) hown1 (mvT hZ (wd hw 43)) (mvT hZ (wd hw 44)) (mvT hZ (wd hw 45)) (mvT hZ (wd hw 46)) (by decide) (backOf (W := 0) (rmoky l Z a0 hw [] (p4.toUInt32.toUInt16.toUInt32.toInt32) T1142.heap n0 Z_1147 hok2_1154) hZ (wd hw 46) (wd hw 45) (by decide) (by decide)) (by rw [hml]; rfl) (argsL := [(.int (p4.toUInt32.toUInt16.toUInt32.toInt32))]) (rest := []) (lenOf pd_18 rfl) rfl (nb rfl) (hb hby at_203) rfl e1153 (by decide) (by decide) fun T1156 v1156 L1156 X1156 hQ1156 => ?_
            obtain ⟨rfl, Nq1156, e1156⟩ := hQ1156
            have N1156 := Fr.app N1153 Nq1156
            refine Owe.ifNo X1156.here hx (hb hby at_206) rfl ((if0 _ _).trans (feq (by decide)).1) ?_
            refine Owe.iconst X1156.here hx (hb hby at_209) (w := (1 : Int32)) rfl ?_
            refine Owe.goto X1156.here hx (hb hby at_210) (pc' := 214) (by decide) (by decide) ?_
            refine Owe.istore X1156.here hx (hb hby at_214) rfl (l' := #[.val (.int p1), .val (.int p2), .val (.int p3), .val (.int p4), .val (.int p5), .val (.int (4 : Int32)), .val (.int (p2.toUInt32.toUInt16.toUInt32.toInt32)), .val (.int (p3.toUInt32.toUInt16.toUInt32.toInt32)), .val (.int (p4.toUInt32.toUInt16.toUInt32.toInt32)), .val (.int (p5.toUInt32.toUInt16.toUInt32.toInt32)), .val (.ref b1085), .val (.ref b1105), .val (.int (1 : Int32))]) rfl ?_
            refine Owe.iload X1156.here hx (hb hby at_216) rfl ?_
            refine Owe.iconst X1156.here hx (hb hby at_218) (w := (4 : Int32)) rfl ?_
            refine Owe.icmpNo X1156.here hx (hb hby at_219) rfl (flt (by decide)).1 ?_
            refine Owe.iload X1156.here hx (hb hby at_222) rfl ?_
            refine Owe.ifNo X1156.here hx (hb hby at_224) rfl ((if0 _ _).trans (feq (by decide)).1) ?_
            refine Owe.iload X1156.here hx (hb hby at_227) rfl ?_
            by_cases hok3_1157 : okb (p5.toUInt32.toUInt16.toUInt32.toInt32) = true
            · skip
              refine Owe.stat X1156 hx (y := Y22) hown1 (mvT hZ (wd hw 43)) (mvT hZ (wd hw 44)) (mvT hZ (wd hw 45)) (mvT hZ (wd hw 46)) (by decide) (backOf (W := 0) (rmoky l Z a0 hw [] (p5.toUInt32.toUInt16.toUInt32.toInt32) T1142.heap n0 Z_1147 hok3_1157) hZ (wd hw 46) (wd hw 45) (by decide) (by decide)) (by rw [hml]; rfl) (argsL := [(.int (p5.toUInt32.toUInt16.toUInt32.toInt32))]) (rest := []) (lenOf pd_18 rfl) rfl (nb rfl) (hb hby at_229) rfl e1156 (by decide) (by decide) fun T1159 v1159 L1159 X1159 hQ1159 => ?_
              obtain ⟨rfl, Nq1159, e1159⟩ := hQ1159
              have N1159 := Fr.app N1156 Nq1159
              refine Owe.ifNo X1159.here hx (hb hby at_232) rfl ((if0 _ _).trans (feq (by decide)).1) ?_
              refine Owe.iconst X1159.here hx (hb hby at_235) (w := (1 : Int32)) rfl ?_
              refine Owe.goto X1159.here hx (hb hby at_236) (pc' := 240) (by decide) (by decide) ?_
              refine Owe.istore X1159.here hx (hb hby at_240) rfl (l' := #[.val (.int p1), .val (.int p2), .val (.int p3), .val (.int p4), .val (.int p5), .val (.int (4 : Int32)), .val (.int (p2.toUInt32.toUInt16.toUInt32.toInt32)), .val (.int (p3.toUInt32.toUInt16.toUInt32.toInt32)), .val (.int (p4.toUInt32.toUInt16.toUInt32.toInt32)), .val (.int (p5.toUInt32.toUInt16.toUInt32.toInt32)), .val (.ref b1085), .val (.ref b1105), .val (.int (1 : Int32))]) rfl ?_
              refine Owe.aload X1159.here hx (hb hby at_242) rfl rfl ?_
              refine Owe.stat X1159 hx (y := Y21) hown1 (mvT hZ (wd hw 23)) (mvT hZ (wd hw 24)) (mvT hZ (wd hw 25)) (mvT hZ (wd hw 26)) (by decide) (backOf (W := 0) (rmirc4_0 l Z a0 hw [] b1105 b__1142 kb1_1142 fm G1 (nar .char (p2.toUInt32.toUInt16.toUInt32.toInt32)) (nar .char (p3.toUInt32.toUInt16.toUInt32.toInt32)) (nar .char (p4.toUInt32.toUInt16.toUInt32.toInt32)) (nar .char (p5.toUInt32.toUInt16.toUInt32.toInt32)) (p2.toUInt32.toUInt16.toUInt32.toInt32) (p3.toUInt32.toUInt16.toUInt32.toInt32) (p4.toUInt32.toUInt16.toUInt32.toInt32) (p5.toUInt32.toUInt16.toUInt32.toInt32) T1142.heap n0 Z_1147 Fvalue_a0__1142 V_b__1142 E_a0__1142 Fcoder_a0__1142 S_COMPACT_STRINGS cs0 Ol_1144 S_SIOOBE_FORMATTER ir_fm S__assertionsDisabled S_HI_BYTE_SHIFT S_LO_BYTE_SHIFT ((own_lat _ (own_narR _) (fun q => hW1110 (Or.inl q))).trans (own_narc _)) ((own_lat _ (own_narR _) (fun q => hW1110 (Or.inr (Or.inl q)))).trans (own_narc _)) ((own_lat _ (own_narR _) (fun q => hW1110 (Or.inr (Or.inr (Or.inl q))))).trans (own_narc _)) ((own_lat _ (own_narR _) (fun q => hW1110 (Or.inr (Or.inr (Or.inr q))))).trans (own_narc _)) (own_narc _) (own_narc _) (own_narc _) (own_narc _)) hZ (wd hw 26) (wd hw 25) (by decide) (by decide)) (by rw [hml]; rfl) (argsL := [(.ref b1105)]) (rest := []) (lenOf pd_17 rfl) rfl (nb rfl) (hb hby at_244) rfl e1159 (by decide) (by decide) fun T1160 v1160 L1160 X1160 hQ1160 => ?_
              obtain ⟨rfl, Nq1160, e1160⟩ := hQ1160
              have N1160 := Fr.app N1159 Nq1160
              refine Owe.iload X1160.here hx (hb hby at_247) rfl ?_
              refine Owe.icmpNo X1160.here hx (hb hby at_249) rfl (teq ((rcT hok0_1148).trans ((rcT hok1_1151).trans ((rcT hok2_1154).trans ((rcT hok3_1157).trans rfl))))).2 ?_
              refine Owe.iconst X1160.here hx (hb hby at_252) (w := (1 : Int32)) rfl ?_
              refine Owe.goto X1160.here hx (hb hby at_253) (pc' := 257) (by decide) (by decide) ?_
              refine Owe.retNW X1160 hx hS0 e1160 hk1143 hlk (t := .boolean) hrt (by simp) (hb hby at_257) rfl fun fs hE => ?_
              rw [hG]
              refine ⟨_, _, rfl, ?_, ?_, coldMono hE (by decide) (by decide)⟩
              rotate_left
              · rw [hh]
                show CHr Z own_EL s.vm h0 T1160.vm T1160.heap
                rw [e1160]
                exact Rr1143.trans (CHv.at X1160 hZ (own_ew hw) H1143)
              show Q0 Z p1 p2 p3 p4 p5 fm G1 h0 n0 _ T1160.heap _
              rw [e1160]
              exact ⟨rfl, N1160⟩
            · skip
              refine Owe.stat X1156 hx (y := Y22) hown1 (mvT hZ (wd hw 43)) (mvT hZ (wd hw 44)) (mvT hZ (wd hw 45)) (mvT hZ (wd hw 46)) (by decide) (backOf (W := 0) (rmokn l Z a0 hw [] (p5.toUInt32.toUInt16.toUInt32.toInt32) T1142.heap n0 Z_1147 hok3_1157) hZ (wd hw 46) (wd hw 45) (by decide) (by decide)) (by rw [hml]; rfl) (argsL := [(.int (p5.toUInt32.toUInt16.toUInt32.toInt32))]) (rest := []) (lenOf pd_18 rfl) rfl (nb rfl) (hb hby at_229) rfl e1156 (by decide) (by decide) fun T1162 v1162 L1162 X1162 hQ1162 => ?_
              obtain ⟨rfl, Nq1162, e1162⟩ := hQ1162
              have N1162 := Fr.app N1156 Nq1162
              refine Owe.ifYes X1162.here hx (hb hby at_232) rfl ((if0 _ _).trans (teq (by decide)).1) (pc' := 239) (by decide) (by decide) ?_
              refine Owe.iconst X1162.here hx (hb hby at_239) (w := (0 : Int32)) rfl ?_
              refine Owe.istore X1162.here hx (hb hby at_240) rfl (l' := #[.val (.int p1), .val (.int p2), .val (.int p3), .val (.int p4), .val (.int p5), .val (.int (4 : Int32)), .val (.int (p2.toUInt32.toUInt16.toUInt32.toInt32)), .val (.int (p3.toUInt32.toUInt16.toUInt32.toInt32)), .val (.int (p4.toUInt32.toUInt16.toUInt32.toInt32)), .val (.int (p5.toUInt32.toUInt16.toUInt32.toInt32)), .val (.ref b1085), .val (.ref b1105), .val (.int (0 : Int32))]) rfl ?_
              refine Owe.aload X1162.here hx (hb hby at_242) rfl rfl ?_
              refine Owe.stat X1162 hx (y := Y21) hown1 (mvT hZ (wd hw 23)) (mvT hZ (wd hw 24)) (mvT hZ (wd hw 25)) (mvT hZ (wd hw 26)) (by decide) (backOf (W := 0) (rmirc4_0 l Z a0 hw [] b1105 b__1142 kb1_1142 fm G1 (nar .char (p2.toUInt32.toUInt16.toUInt32.toInt32)) (nar .char (p3.toUInt32.toUInt16.toUInt32.toInt32)) (nar .char (p4.toUInt32.toUInt16.toUInt32.toInt32)) (nar .char (p5.toUInt32.toUInt16.toUInt32.toInt32)) (p2.toUInt32.toUInt16.toUInt32.toInt32) (p3.toUInt32.toUInt16.toUInt32.toInt32) (p4.toUInt32.toUInt16.toUInt32.toInt32) (p5.toUInt32.toUInt16.toUInt32.toInt32) T1142.heap n0 Z_1147 Fvalue_a0__1142 V_b__1142 E_a0__1142 Fcoder_a0__1142 S_COMPACT_STRINGS cs0 Ol_1144 S_SIOOBE_FORMATTER ir_fm S__assertionsDisabled S_HI_BYTE_SHIFT S_LO_BYTE_SHIFT ((own_lat _ (own_narR _) (fun q => hW1110 (Or.inl q))).trans (own_narc _)) ((own_lat _ (own_narR _) (fun q => hW1110 (Or.inr (Or.inl q)))).trans (own_narc _)) ((own_lat _ (own_narR _) (fun q => hW1110 (Or.inr (Or.inr (Or.inl q))))).trans (own_narc _)) ((own_lat _ (own_narR _) (fun q => hW1110 (Or.inr (Or.inr (Or.inr q))))).trans (own_narc _)) (own_narc _) (own_narc _) (own_narc _) (own_narc _)) hZ (wd hw 26) (wd hw 25) (by decide) (by decide)) (by rw [hml]; rfl) (argsL := [(.ref b1105)]) (rest := []) (lenOf pd_17 rfl) rfl (nb rfl) (hb hby at_244) rfl e1162 (by decide) (by decide) fun T1163 v1163 L1163 X1163 hQ1163 => ?_
              obtain ⟨rfl, Nq1163, e1163⟩ := hQ1163
              have N1163 := Fr.app N1162 Nq1163
              refine Owe.iload X1163.here hx (hb hby at_247) rfl ?_
              refine Owe.icmpNo X1163.here hx (hb hby at_249) rfl (teq ((rcT hok0_1148).trans ((rcT hok1_1151).trans ((rcT hok2_1154).trans (rcF hok3_1157))))).2 ?_
              refine Owe.iconst X1163.here hx (hb hby at_252) (w := (1 : Int32)) rfl ?_
              refine Owe.goto X1163.here hx (hb hby at_253) (pc' := 257) (by decide) (by decide) ?_
              refine Owe.retNW X1163 hx hS0 e1163 hk1143 hlk (t := .boolean) hrt (by simp) (hb hby at_257) rfl fun fs hE => ?_
              rw [hG]
              refine ⟨_, _, rfl, ?_, ?_, coldMono hE (by decide) (by decide)⟩
              rotate_left
              · rw [hh]
                show CHr Z own_EL s.vm h0 T1163.vm T1163.heap
                rw [e1163]
                exact Rr1143.trans (CHv.at X1163 hZ (own_ew hw) H1143)
              show Q0 Z p1 p2 p3 p4 p5 fm G1 h0 n0 _ T1163.heap _
              rw [e1163]
              exact ⟨rfl, N1163⟩
          · skip
            refine Owe.stat X1153 hx (y := Y22) hown1 (mvT hZ (wd hw 43)) (mvT hZ (wd hw 44)) (mvT hZ (wd hw 45)) (mvT hZ (wd hw 46)) (by decide) (backOf (W := 0) (rmokn l Z a0 hw [] (p4.toUInt32.toUInt16.toUInt32.toInt32) T1142.heap n0 Z_1147 hok2_1154) hZ (wd hw 46) (wd hw 45) (by decide) (by decide)) (by rw [hml]; rfl) (argsL := [(.int (p4.toUInt32.toUInt16.toUInt32.toInt32))]) (rest := []) (lenOf pd_18 rfl) rfl (nb rfl) (hb hby at_203) rfl e1153 (by decide) (by decide) fun T1165 v1165 L1165 X1165 hQ1165 => ?_
            obtain ⟨rfl, Nq1165, e1165⟩ := hQ1165
            have N1165 := Fr.app N1153 Nq1165
            refine Owe.ifYes X1165.here hx (hb hby at_206) rfl ((if0 _ _).trans (teq (by decide)).1) (pc' := 213) (by decide) (by decide) ?_
            refine Owe.iconst X1165.here hx (hb hby at_213) (w := (0 : Int32)) rfl ?_
            refine Owe.istore X1165.here hx (hb hby at_214) rfl (l' := #[.val (.int p1), .val (.int p2), .val (.int p3), .val (.int p4), .val (.int p5), .val (.int (4 : Int32)), .val (.int (p2.toUInt32.toUInt16.toUInt32.toInt32)), .val (.int (p3.toUInt32.toUInt16.toUInt32.toInt32)), .val (.int (p4.toUInt32.toUInt16.toUInt32.toInt32)), .val (.int (p5.toUInt32.toUInt16.toUInt32.toInt32)), .val (.ref b1085), .val (.ref b1105), .val (.int (0 : Int32))]) rfl ?_
            refine Owe.iload X1165.here hx (hb hby at_216) rfl ?_
            refine Owe.iconst X1165.here hx (hb hby at_218) (w := (4 : Int32)) rfl ?_
            refine Owe.icmpNo X1165.here hx (hb hby at_219) rfl (flt (by decide)).1 ?_
            refine Owe.iload X1165.here hx (hb hby at_222) rfl ?_
            refine Owe.ifYes X1165.here hx (hb hby at_224) rfl ((if0 _ _).trans (teq (by decide)).1) (pc' := 239) (by decide) (by decide) ?_
            refine Owe.iconst X1165.here hx (hb hby at_239) (w := (0 : Int32)) rfl ?_
            refine Owe.istore X1165.here hx (hb hby at_240) rfl (l' := #[.val (.int p1), .val (.int p2), .val (.int p3), .val (.int p4), .val (.int p5), .val (.int (4 : Int32)), .val (.int (p2.toUInt32.toUInt16.toUInt32.toInt32)), .val (.int (p3.toUInt32.toUInt16.toUInt32.toInt32)), .val (.int (p4.toUInt32.toUInt16.toUInt32.toInt32)), .val (.int (p5.toUInt32.toUInt16.toUInt32.toInt32)), .val (.ref b1085), .val (.ref b1105), .val (.int (0 : Int32))]) rfl ?_
            refine Owe.aload X1165.here hx (hb hby at_242) rfl rfl ?_
            refine Owe.stat X1165 hx (y := Y21) hown1 (mvT hZ (wd hw 23)) (mvT hZ (wd hw 24)) (mvT hZ (wd hw 25)) (mvT hZ (wd hw 26)) (by decide) (backOf (W := 0) (rmirc4_0 l Z a0 hw [] b1105 b__1142 kb1_1142 fm G1 (nar .char (p2.toUInt32.toUInt16.toUInt32.toInt32)) (nar .char (p3.toUInt32.toUInt16.toUInt32.toInt32)) (nar .char (p4.toUInt32.toUInt16.toUInt32.toInt32)) (nar .char (p5.toUInt32.toUInt16.toUInt32.toInt32)) (p2.toUInt32.toUInt16.toUInt32.toInt32) (p3.toUInt32.toUInt16.toUInt32.toInt32) (p4.toUInt32.toUInt16.toUInt32.toInt32) (p5.toUInt32.toUInt16.toUInt32.toInt32) T1142.heap n0 Z_1147 Fvalue_a0__1142 V_b__1142 E_a0__1142 Fcoder_a0__1142 S_COMPACT_STRINGS cs0 Ol_1144 S_SIOOBE_FORMATTER ir_fm S__assertionsDisabled S_HI_BYTE_SHIFT S_LO_BYTE_SHIFT ((own_lat _ (own_narR _) (fun q => hW1110 (Or.inl q))).trans (own_narc _)) ((own_lat _ (own_narR _) (fun q => hW1110 (Or.inr (Or.inl q)))).trans (own_narc _)) ((own_lat _ (own_narR _) (fun q => hW1110 (Or.inr (Or.inr (Or.inl q))))).trans (own_narc _)) ((own_lat _ (own_narR _) (fun q => hW1110 (Or.inr (Or.inr (Or.inr q))))).trans (own_narc _)) (own_narc _) (own_narc _) (own_narc _) (own_narc _)) hZ (wd hw 26) (wd hw 25) (by decide) (by decide)) (by rw [hml]; rfl) (argsL := [(.ref b1105)]) (rest := []) (lenOf pd_17 rfl) rfl (nb rfl) (hb hby at_244) rfl e1165 (by decide) (by decide) fun T1166 v1166 L1166 X1166 hQ1166 => ?_
            obtain ⟨rfl, Nq1166, e1166⟩ := hQ1166
            have N1166 := Fr.app N1165 Nq1166
            refine Owe.iload X1166.here hx (hb hby at_247) rfl ?_
            refine Owe.icmpNo X1166.here hx (hb hby at_249) rfl (teq ((rcT hok0_1148).trans ((rcT hok1_1151).trans (rcF hok2_1154)))).2 ?_
            refine Owe.iconst X1166.here hx (hb hby at_252) (w := (1 : Int32)) rfl ?_
            refine Owe.goto X1166.here hx (hb hby at_253) (pc' := 257) (by decide) (by decide) ?_
            refine Owe.retNW X1166 hx hS0 e1166 hk1143 hlk (t := .boolean) hrt (by simp) (hb hby at_257) rfl fun fs hE => ?_
            rw [hG]
            refine ⟨_, _, rfl, ?_, ?_, coldMono hE (by decide) (by decide)⟩
            rotate_left
            · rw [hh]
              show CHr Z own_EL s.vm h0 T1166.vm T1166.heap
              rw [e1166]
              exact Rr1143.trans (CHv.at X1166 hZ (own_ew hw) H1143)
            show Q0 Z p1 p2 p3 p4 p5 fm G1 h0 n0 _ T1166.heap _
            rw [e1166]
            exact ⟨rfl, N1166⟩
        · skip
          refine Owe.stat X1150 hx (y := Y22) hown1 (mvT hZ (wd hw 43)) (mvT hZ (wd hw 44)) (mvT hZ (wd hw 45)) (mvT hZ (wd hw 46)) (by decide) (backOf (W := 0) (rmokn l Z a0 hw [] (p3.toUInt32.toUInt16.toUInt32.toInt32) T1142.heap n0 Z_1147 hok1_1151) hZ (wd hw 46) (wd hw 45) (by decide) (by decide)) (by rw [hml]; rfl) (argsL := [(.int (p3.toUInt32.toUInt16.toUInt32.toInt32))]) (rest := []) (lenOf pd_18 rfl) rfl (nb rfl) (hb hby at_177) rfl e1150 (by decide) (by decide) fun T1168 v1168 L1168 X1168 hQ1168 => ?_
          obtain ⟨rfl, Nq1168, e1168⟩ := hQ1168
          have N1168 := Fr.app N1150 Nq1168
          refine Owe.ifYes X1168.here hx (hb hby at_180) rfl ((if0 _ _).trans (teq (by decide)).1) (pc' := 187) (by decide) (by decide) ?_
          refine Owe.iconst X1168.here hx (hb hby at_187) (w := (0 : Int32)) rfl ?_
          refine Owe.istore X1168.here hx (hb hby at_188) rfl (l' := #[.val (.int p1), .val (.int p2), .val (.int p3), .val (.int p4), .val (.int p5), .val (.int (4 : Int32)), .val (.int (p2.toUInt32.toUInt16.toUInt32.toInt32)), .val (.int (p3.toUInt32.toUInt16.toUInt32.toInt32)), .val (.int (p4.toUInt32.toUInt16.toUInt32.toInt32)), .val (.int (p5.toUInt32.toUInt16.toUInt32.toInt32)), .val (.ref b1085), .val (.ref b1105), .val (.int (0 : Int32))]) rfl ?_
          refine Owe.iload X1168.here hx (hb hby at_190) rfl ?_
          refine Owe.iconst X1168.here hx (hb hby at_192) (w := (3 : Int32)) rfl ?_
          refine Owe.icmpNo X1168.here hx (hb hby at_193) rfl (flt (by decide)).1 ?_
          refine Owe.iload X1168.here hx (hb hby at_196) rfl ?_
          refine Owe.ifYes X1168.here hx (hb hby at_198) rfl ((if0 _ _).trans (teq (by decide)).1) (pc' := 213) (by decide) (by decide) ?_
          refine Owe.iconst X1168.here hx (hb hby at_213) (w := (0 : Int32)) rfl ?_
          refine Owe.istore X1168.here hx (hb hby at_214) rfl (l' := #[.val (.int p1), .val (.int p2), .val (.int p3), .val (.int p4), .val (.int p5), .val (.int (4 : Int32)), .val (.int (p2.toUInt32.toUInt16.toUInt32.toInt32)), .val (.int (p3.toUInt32.toUInt16.toUInt32.toInt32)), .val (.int (p4.toUInt32.toUInt16.toUInt32.toInt32)), .val (.int (p5.toUInt32.toUInt16.toUInt32.toInt32)), .val (.ref b1085), .val (.ref b1105), .val (.int (0 : Int32))]) rfl ?_
          refine Owe.iload X1168.here hx (hb hby at_216) rfl ?_
          refine Owe.iconst X1168.here hx (hb hby at_218) (w := (4 : Int32)) rfl ?_
          refine Owe.icmpNo X1168.here hx (hb hby at_219) rfl (flt (by decide)).1 ?_
          refine Owe.iload X1168.here hx (hb hby at_222) rfl ?_
          refine Owe.ifYes X1168.here hx (hb hby at_224) rfl ((if0 _ _).trans (teq (by decide)).1) (pc' := 239) (by decide) (by decide) ?_
          refine Owe.iconst X1168.here hx (hb hby at_239) (w := (0 : Int32)) rfl ?_
          refine Owe.istore X1168.here hx (hb hby at_240) rfl (l' := #[.val (.int p1), .val (.int p2), .val (.int p3), .val (.int p4), .val (.int p5), .val (.int (4 : Int32)), .val (.int (p2.toUInt32.toUInt16.toUInt32.toInt32)), .val (.int (p3.toUInt32.toUInt16.toUInt32.toInt32)), .val (.int (p4.toUInt32.toUInt16.toUInt32.toInt32)), .val (.int (p5.toUInt32.toUInt16.toUInt32.toInt32)), .val (.ref b1085), .val (.ref b1105), .val (.int (0 : Int32))]) rfl ?_
          refine Owe.aload X1168.here hx (hb hby at_242) rfl rfl ?_
          refine Owe.stat X1168 hx (y := Y21) hown1 (mvT hZ (wd hw 23)) (mvT hZ (wd hw 24)) (mvT hZ (wd hw 25)) (mvT hZ (wd hw 26)) (by decide) (backOf (W := 0) (rmirc4_0 l Z a0 hw [] b1105 b__1142 kb1_1142 fm G1 (nar .char (p2.toUInt32.toUInt16.toUInt32.toInt32)) (nar .char (p3.toUInt32.toUInt16.toUInt32.toInt32)) (nar .char (p4.toUInt32.toUInt16.toUInt32.toInt32)) (nar .char (p5.toUInt32.toUInt16.toUInt32.toInt32)) (p2.toUInt32.toUInt16.toUInt32.toInt32) (p3.toUInt32.toUInt16.toUInt32.toInt32) (p4.toUInt32.toUInt16.toUInt32.toInt32) (p5.toUInt32.toUInt16.toUInt32.toInt32) T1142.heap n0 Z_1147 Fvalue_a0__1142 V_b__1142 E_a0__1142 Fcoder_a0__1142 S_COMPACT_STRINGS cs0 Ol_1144 S_SIOOBE_FORMATTER ir_fm S__assertionsDisabled S_HI_BYTE_SHIFT S_LO_BYTE_SHIFT ((own_lat _ (own_narR _) (fun q => hW1110 (Or.inl q))).trans (own_narc _)) ((own_lat _ (own_narR _) (fun q => hW1110 (Or.inr (Or.inl q)))).trans (own_narc _)) ((own_lat _ (own_narR _) (fun q => hW1110 (Or.inr (Or.inr (Or.inl q))))).trans (own_narc _)) ((own_lat _ (own_narR _) (fun q => hW1110 (Or.inr (Or.inr (Or.inr q))))).trans (own_narc _)) (own_narc _) (own_narc _) (own_narc _) (own_narc _)) hZ (wd hw 26) (wd hw 25) (by decide) (by decide)) (by rw [hml]; rfl) (argsL := [(.ref b1105)]) (rest := []) (lenOf pd_17 rfl) rfl (nb rfl) (hb hby at_244) rfl e1168 (by decide) (by decide) fun T1169 v1169 L1169 X1169 hQ1169 => ?_
          obtain ⟨rfl, Nq1169, e1169⟩ := hQ1169
          have N1169 := Fr.app N1168 Nq1169
          refine Owe.iload X1169.here hx (hb hby at_247) rfl ?_
          refine Owe.icmpNo X1169.here hx (hb hby at_249) rfl (teq ((rcT hok0_1148).trans (rcF hok1_1151))).2 ?_
          refine Owe.iconst X1169.here hx (hb hby at_252) (w := (1 : Int32)) rfl ?_
          refine Owe.goto X1169.here hx (hb hby at_253) (pc' := 257) (by decide) (by decide) ?_
          refine Owe.retNW X1169 hx hS0 e1169 hk1143 hlk (t := .boolean) hrt (by simp) (hb hby at_257) rfl fun fs hE => ?_
          rw [hG]
          refine ⟨_, _, rfl, ?_, ?_, coldMono hE (by decide) (by decide)⟩
          rotate_left
          · rw [hh]
            show CHr Z own_EL s.vm h0 T1169.vm T1169.heap
            rw [e1169]
            exact Rr1143.trans (CHv.at X1169 hZ (own_ew hw) H1143)
          show Q0 Z p1 p2 p3 p4 p5 fm G1 h0 n0 _ T1169.heap _
          rw [e1169]
          exact ⟨rfl, N1169⟩
      · skip
        refine Owe.stat X1142 hx (y := Y22) hown1 (mvT hZ (wd hw 43)) (mvT hZ (wd hw 44)) (mvT hZ (wd hw 45)) (mvT hZ (wd hw 46)) (by decide) (backOf (W := 0) (rmokn l Z a0 hw [] (p2.toUInt32.toUInt16.toUInt32.toInt32) T1142.heap n0 Z_1147 hok0_1148) hZ (wd hw 46) (wd hw 45) (by decide) (by decide)) (by rw [hml]; rfl) (argsL := [(.int (p2.toUInt32.toUInt16.toUInt32.toInt32))]) (rest := []) (lenOf pd_18 rfl) rfl (nb rfl) (hb hby at_159) rfl rfl (by decide) (by decide) fun T1171 v1171 L1171 X1171 hQ1171 => ?_
        obtain ⟨rfl, Nq1171, e1171⟩ := hQ1171
        have N1171 := Fr.app N1142 Nq1171
        refine Owe.istore X1171.here hx (hb hby at_162) rfl (l' := #[.val (.int p1), .val (.int p2), .val (.int p3), .val (.int p4), .val (.int p5), .val (.int (4 : Int32)), .val (.int (p2.toUInt32.toUInt16.toUInt32.toInt32)), .val (.int (p3.toUInt32.toUInt16.toUInt32.toInt32)), .val (.int (p4.toUInt32.toUInt16.toUInt32.toInt32)), .val (.int (p5.toUInt32.toUInt16.toUInt32.toInt32)), .val (.ref b1085), .val (.ref b1105), .val (.int (0 : Int32))]) rfl ?_
        refine Owe.iload X1171.here hx (hb hby at_164) rfl ?_
        refine Owe.iconst X1171.here hx (hb hby at_166) (w := (2 : Int32)) rfl ?_
        refine Owe.icmpNo X1171.here hx (hb hby at_167) rfl (flt (by decide)).1 ?_
        refine Owe.iload X1171.here hx (hb hby at_170) rfl ?_
        refine Owe.ifYes X1171.here hx (hb hby at_172) rfl ((if0 _ _).trans (teq (by decide)).1) (pc' := 187) (by decide) (by decide) ?_
        refine Owe.iconst X1171.here hx (hb hby at_187) (w := (0 : Int32)) rfl ?_
        refine Owe.istore X1171.here hx (hb hby at_188) rfl (l' := #[.val (.int p1), .val (.int p2), .val (.int p3), .val (.int p4), .val (.int p5), .val (.int (4 : Int32)), .val (.int (p2.toUInt32.toUInt16.toUInt32.toInt32)), .val (.int (p3.toUInt32.toUInt16.toUInt32.toInt32)), .val (.int (p4.toUInt32.toUInt16.toUInt32.toInt32)), .val (.int (p5.toUInt32.toUInt16.toUInt32.toInt32)), .val (.ref b1085), .val (.ref b1105), .val (.int (0 : Int32))]) rfl ?_
        refine Owe.iload X1171.here hx (hb hby at_190) rfl ?_
        refine Owe.iconst X1171.here hx (hb hby at_192) (w := (3 : Int32)) rfl ?_
        refine Owe.icmpNo X1171.here hx (hb hby at_193) rfl (flt (by decide)).1 ?_
        refine Owe.iload X1171.here hx (hb hby at_196) rfl ?_
        refine Owe.ifYes X1171.here hx (hb hby at_198) rfl ((if0 _ _).trans (teq (by decide)).1) (pc' := 213) (by decide) (by decide) ?_
        refine Owe.iconst X1171.here hx (hb hby at_213) (w := (0 : Int32)) rfl ?_
        refine Owe.istore X1171.here hx (hb hby at_214) rfl (l' := #[.val (.int p1), .val (.int p2), .val (.int p3), .val (.int p4), .val (.int p5), .val (.int (4 : Int32)), .val (.int (p2.toUInt32.toUInt16.toUInt32.toInt32)), .val (.int (p3.toUInt32.toUInt16.toUInt32.toInt32)), .val (.int (p4.toUInt32.toUInt16.toUInt32.toInt32)), .val (.int (p5.toUInt32.toUInt16.toUInt32.toInt32)), .val (.ref b1085), .val (.ref b1105), .val (.int (0 : Int32))]) rfl ?_
        refine Owe.iload X1171.here hx (hb hby at_216) rfl ?_
        refine Owe.iconst X1171.here hx (hb hby at_218) (w := (4 : Int32)) rfl ?_
        refine Owe.icmpNo X1171.here hx (hb hby at_219) rfl (flt (by decide)).1 ?_
        refine Owe.iload X1171.here hx (hb hby at_222) rfl ?_
        refine Owe.ifYes X1171.here hx (hb hby at_224) rfl ((if0 _ _).trans (teq (by decide)).1) (pc' := 239) (by decide) (by decide) ?_
        refine Owe.iconst X1171.here hx (hb hby at_239) (w := (0 : Int32)) rfl ?_
        refine Owe.istore X1171.here hx (hb hby at_240) rfl (l' := #[.val (.int p1), .val (.int p2), .val (.int p3), .val (.int p4), .val (.int p5), .val (.int (4 : Int32)), .val (.int (p2.toUInt32.toUInt16.toUInt32.toInt32)), .val (.int (p3.toUInt32.toUInt16.toUInt32.toInt32)), .val (.int (p4.toUInt32.toUInt16.toUInt32.toInt32)), .val (.int (p5.toUInt32.toUInt16.toUInt32.toInt32)), .val (.ref b1085), .val (.ref b1105), .val (.int (0 : Int32))]) rfl ?_
        refine Owe.aload X1171.here hx (hb hby at_242) rfl rfl ?_
        refine Owe.stat X1171 hx (y := Y21) hown1 (mvT hZ (wd hw 23)) (mvT hZ (wd hw 24)) (mvT hZ (wd hw 25)) (mvT hZ (wd hw 26)) (by decide) (backOf (W := 0) (rmirc4_0 l Z a0 hw [] b1105 b__1142 kb1_1142 fm G1 (nar .char (p2.toUInt32.toUInt16.toUInt32.toInt32)) (nar .char (p3.toUInt32.toUInt16.toUInt32.toInt32)) (nar .char (p4.toUInt32.toUInt16.toUInt32.toInt32)) (nar .char (p5.toUInt32.toUInt16.toUInt32.toInt32)) (p2.toUInt32.toUInt16.toUInt32.toInt32) (p3.toUInt32.toUInt16.toUInt32.toInt32) (p4.toUInt32.toUInt16.toUInt32.toInt32) (p5.toUInt32.toUInt16.toUInt32.toInt32) T1142.heap n0 Z_1147 Fvalue_a0__1142 V_b__1142 E_a0__1142 Fcoder_a0__1142 S_COMPACT_STRINGS cs0 Ol_1144 S_SIOOBE_FORMATTER ir_fm S__assertionsDisabled S_HI_BYTE_SHIFT S_LO_BYTE_SHIFT ((own_lat _ (own_narR _) (fun q => hW1110 (Or.inl q))).trans (own_narc _)) ((own_lat _ (own_narR _) (fun q => hW1110 (Or.inr (Or.inl q)))).trans (own_narc _)) ((own_lat _ (own_narR _) (fun q => hW1110 (Or.inr (Or.inr (Or.inl q))))).trans (own_narc _)) ((own_lat _ (own_narR _) (fun q => hW1110 (Or.inr (Or.inr (Or.inr q))))).trans (own_narc _)) (own_narc _) (own_narc _) (own_narc _) (own_narc _)) hZ (wd hw 26) (wd hw 25) (by decide) (by decide)) (by rw [hml]; rfl) (argsL := [(.ref b1105)]) (rest := []) (lenOf pd_17 rfl) rfl (nb rfl) (hb hby at_244) rfl e1171 (by decide) (by decide) fun T1172 v1172 L1172 X1172 hQ1172 => ?_
        obtain ⟨rfl, Nq1172, e1172⟩ := hQ1172
        have N1172 := Fr.app N1171 Nq1172
        refine Owe.iload X1172.here hx (hb hby at_247) rfl ?_
        refine Owe.icmpNo X1172.here hx (hb hby at_249) rfl (teq (rcF hok0_1148)).2 ?_
        refine Owe.iconst X1172.here hx (hb hby at_252) (w := (1 : Int32)) rfl ?_
        refine Owe.goto X1172.here hx (hb hby at_253) (pc' := 257) (by decide) (by decide) ?_
        refine Owe.retNW X1172 hx hS0 e1172 hk1143 hlk (t := .boolean) hrt (by simp) (hb hby at_257) rfl fun fs hE => ?_
        rw [hG]
        refine ⟨_, _, rfl, ?_, ?_, coldMono hE (by decide) (by decide)⟩
        rotate_left
        · rw [hh]
          show CHr Z own_EL s.vm h0 T1172.vm T1172.heap
          rw [e1172]
          exact Rr1143.trans (CHv.at X1172 hZ (own_ew hw) H1143)
        show Q0 Z p1 p2 p3 p4 p5 fm G1 h0 n0 _ T1172.heap _
        rw [e1172]
        exact ⟨rfl, N1172⟩
set_option maxRecDepth 65536 in
set_option maxHeartbeats 40000000 in
theorem comes_1 {Post : Tables → Env → Array Value → State → Outcome → State → Prop} (hpost : ∀ tb e args s v u, (limb_1_1.after args s (.returned v) u = true ∧ limb_1_2.after args s (.returned v) u = true ∧ True) → ReturnedEndW s (.returned v) u (Jvm.fieldLocs frame_1_writes args s ++ Jvm.arrayLocs frame_1_arrays args s ++ Jvm.staticLocs frame_1_statics s) 24 1152 → Post tb e args s (.returned v) u) :
    ArmFor flags0 classFile x code maxLocals ret World_1 tables_1 room_1 Calls_1 rest_1 Pre_1 Post := by
  intro l hfl _ _ p e ha hc hk s m args below hf hA hF happ hP
  obtain ⟨hcalls, hrest, hpre⟩ := hP
  obtain ⟨-, -, -, hnamed, -, -, -, hat⟩ := (Spec.applies_iff hf).mp happ
  obtain ⟨hg, hn⟩ := and_e (Cond.before_iff.mp (show (Jvm.Cond.and given_1 narrow_1).before args s = true from hpre))
  obtain ⟨g0, q0⟩ := and_e hg
  obtain ⟨g1, q1⟩ := and_e q0
  obtain ⟨g2, q2⟩ := and_e q1
  obtain ⟨g3, q3⟩ := and_e q2
  obtain ⟨g4, q4⟩ := and_e q3
  obtain ⟨w0, w1, w2, w3, w4, rfl⟩ : ∃ w0 w1 w2 w3 w4 : Value, args = #[w0, w1, w2, w3, w4] := by
    have hs : args.size = 5 := by simpa [Cond.value, given_1] using g0
    obtain ⟨L⟩ := args
    match L, hs with
    | [w0, w1, w2, w3, w4], _ => exact ⟨w0, w1, w2, w3, w4, rfl⟩
  have hw := fun d (hd : d ∈ tables_1) => atoms_spec (ws := Jvm.Cond.code x code maxLocals ret :: tables_1) hat d (List.mem_cons_of_mem _ hd)
  have hfit : Fit s := fun {y c} hc i hi => by
    obtain ⟨ha, rfl⟩ := Array.getElem?_eq_some_iff.mp hc
    have q := List.all_eq_true.mp ((Array.all_eq_true_iff_forall_mem.mp hF) _ (Array.getElem_mem ha)) i (List.mem_range.mpr hi)
    simpa [Array.getElem?_eq_getElem hi] using q
  obtain ⟨hsets, hown0⟩ := atoms_of _ (rest_1_c_eq ▸ (show rest_1_c.before _ s = true from hrest))
  have hr0 := Cond.before_iff.mp hown0
  obtain ⟨i0, ei0⟩ := is_v g1
  obtain rfl : w0 = (.int i0) := Option.some.inj ei0
  obtain ⟨i1, ei1⟩ := is_v g2
  obtain rfl : w1 = (.int i1) := Option.some.inj ei1
  obtain ⟨i2, ei2⟩ := is_v g3
  obtain rfl : w2 = (.int i2) := Option.some.inj ei2
  obtain ⟨i3, ei3⟩ := is_v g4
  obtain rfl : w3 = (.int i3) := Option.some.inj ei3
  obtain ⟨i4, ei4⟩ := is_v q4
  obtain rfl : w4 = (.int i4) := Option.some.inj ei4
  have n5 := not_v (Cond.before_iff.mp (hsets _ (List.mem_of_getElem? (i := 2) rfl)))
  obtain ⟨ics, ecs⟩ := is_v (Cond.before_iff.mp (hsets _ (List.mem_of_getElem? (i := 1) rfl)))
  have Scs : Sta s s.heap "java/lang/String" "COMPACT_STRINGS" "Z" (.int ics) := Sta.start ecs (Or.inl (hsets _ (List.mem_of_getElem? (i := 0) rfl)))
  have hcs0 : ¬ (ics = (0 : Int32)) := gotF (Cond.eq_ints ecs (Term.int_eval (0))) n5
  obtain ⟨vfm, efm, rfm⟩ := isR_v (Cond.before_iff.mp (hsets _ (List.mem_of_getElem? (i := 8) rfl)))
  have Sfm : Sta s s.heap "jdk/internal/util/Preconditions" "SIOOBE_FORMATTER" "Ljava/util/function/BiFunction;" vfm := Sta.start efm (Or.inl (hsets _ (List.mem_of_getElem? (i := 7) rfl)))
  have Sad : Sta s s.heap "java/lang/StringUTF16" "$assertionsDisabled" "Z" (.int (1 : Int32)) := Sta.start (own_eq_int (Cond.before_iff.mp (hsets _ (List.mem_of_getElem? (i := 12) rfl)))) (Or.inl (hsets _ (List.mem_of_getElem? (i := 11) rfl)))
  have Shi : Sta s s.heap "java/lang/StringUTF16" "HI_BYTE_SHIFT" "I" (.int (0 : Int32)) := Sta.start (own_eq_int (Cond.before_iff.mp (hsets _ (List.mem_of_getElem? (i := 15) rfl)))) (Or.inl (hsets _ (List.mem_of_getElem? (i := 14) rfl)))
  have Slo : Sta s s.heap "java/lang/StringUTF16" "LO_BYTE_SHIFT" "I" (.int (8 : Int32)) := Sta.start (own_eq_int (Cond.before_iff.mp (hsets _ (List.mem_of_getElem? (i := 18) rfl)))) (Or.inl (hsets _ (List.mem_of_getElem? (i := 17) rfl)))
  have H0 : CHv s own_EL s.vm s.heap := CHv.start (own_ew hw) (fun p hp => hcalls.1 p hp) (hsets _ (List.mem_of_getElem? (i := 2) rfl)) (wd hw 16) (wd hw 3)
  obtain ⟨n, o, h1, h2, h3, _, L, rfl, ⟨rfl, N⟩, _, hq⟩ := rm0 l s _ hw tables_1 i0 i1 i2 i3 i4 vfm ics s.heap s.heap.size (Nat.le_refl _) Scs hcs0 (Old.start s) Sfm rfm Sad Shi Slo p e ha hc hk s m _ below hf ((Spec.applies_iff_loose hf).mp happ).1 ⟨rfl, State.Warmed39.refl s, rfl, H0⟩ trivial
  refine ⟨n, _, h1, h2, h3, hpost _ _ _ _ _ _ ⟨Cond.after_iff.mpr rfl, Cond.after_iff.mpr (eq_i res_at (Term.int_eval (1)) rfl), trivial⟩ ⟨hq.1, hq.2.1, hq.2.2.1, (hq.2.2.2.sift fun y hy => Or.inr (N y hy)).mono (by decide) (by decide)⟩⟩
theorem main_1_1 : Claimed_1_1 := comes_1 fun _ _ _ _ _ _ h hF => ⟨h.1, hF⟩
theorem main_1_2 : Claimed_1_2 := comes_1 fun _ _ _ _ _ _ h hF => ⟨h.2.1, hF⟩
end Jvm.Pilot.@@N@@
namespace Jvm.Pilot.@@N@@
open Jvm Jvm.ClassFile Sem Op Lib Jvm.Free Jvm.Stand Jvm.Pilot.@@N@@.Jvm.D
/-! MADE BY PROGRAM (witnessworld.py) out of the Statement's table words and the real class files: 21 classes; the members and pool entries that the words name. The judged class is class 1, her method 1. -/
namespace start1
open Jvm.ClassFile
def u (s : String) : CpInfo := .utf8 (stringToUtf16 s)
/-- a pool by its gaps: so many unusable entries, then the entry; so many at the end -/
def gap : Nat → List CpInfo → List CpInfo
  | 0, r => r
  | n + 1, r => .unusable :: gap n r
def poolList (es : List (Nat × CpInfo)) (last : Nat) : List CpInfo := es.foldr (fun e r => gap e.1 (e.2 :: r)) (gap last [])
def pool (es : List (Nat × CpInfo)) (last : Nat) : Array CpInfo := ⟨poolList es last⟩
def fileOf (pool : Array CpInfo) (this : Nat) (attrs : Array Attribute := #[]) (ms : Array MethodInfo := #[]) (fl : Nat := 33) (sup : Nat := 0) (ifs : Array Nat := #[]) (fds : Array FieldInfo := #[]) : ClassFile where
  minorVersion := 0
  majorVersion := 65
  constantPool := pool
  accessFlags := fl
  thisClass := this
  superClass := sup
  interfaces := ifs
  fields := fds
  methods := ms
  attributes := attrs
def plain (name : String) (sup : Option ClassId) : Class where
  name := name
  kind := .ordinary
  loader := none
  accessFlags := 33
  super := sup
  interfaces := #[]
  cf := none
  fields := #[]
  methods := #[]
  instanceTypes := #[]
  staticTypes := #[]
  resolved := #[]
  callSites := []
  init := .initialized
  statics := none
  mirror := none

def pool0 : Array CpInfo := pool [(5, u "<init>"), (0, u "()V"), (1, .class_ 10), (1, u "java/lang/Object")] 113

def k0c0 : Code := { maxStack := 0, maxLocals := 1, code := object_method_1_code, exceptionTable := #[], attributes := #[] }
def k0m0 : Method := { name := "<init>", desc := "()V", sig := { parameters := [], returnType := none }, accessFlags := 1, code := some k0c0 }
/-- java/lang/Object -/
def k0 : Class := { plain "java/lang/Object" none with
  accessFlags := 33
  interfaces := #[]
  cf := some (fileOf pool0 8 #[] #[{ accessFlags := 1, nameIndex := 5, descriptorIndex := 6, attributes := #[] }] 33 0 #[] #[])
  fields := #[]
  methods := #[k0m0]
  instanceTypes := #[]
  staticTypes := #[]
  resolved := Array.replicate 124 none
  statics := none }

def pool1 : Array CpInfo := pool [(2, .class_ 4), (1, u "java/lang/Object"), (0, u "<init>"), (0, u "()V"), (0, .integer 2147483647), (0, .class_ 9), (0, u "java/lang/String"), (0, .methodref 8 11), (0, .nameAndType 5 12), (0, u "([C)V"), (0, .methodref 14 15), (0, .class_ 16), (0, .nameAndType 17 18), (0, u "com/example/redelivery/redelivery/ClassificationIsReasonCodePinLaw"), (0, u "ok"), (0, u "(C)Z"), (0, .methodref 20 21), (0, .class_ 22), (0, .nameAndType 23 24), (0, u "com/example/redelivery/redelivery/Classification"), (0, u "isReasonCode"), (0, u "(Ljava/lang/String;)Z"), (2, u "law"), (0, u "(IIIII)Z")] 5

def k1m0 : Method := { name := "<init>", desc := "()V", sig := { parameters := [], returnType := none }, accessFlags := 1, code := none }
def k1c1 : Code := { maxStack := 4, maxLocals := 13, code := code, exceptionTable := #[], attributes := #[] }
def k1m1 : Method := { name := "law", desc := "(IIIII)Z", sig := { parameters := [.int, .int, .int, .int, .int], returnType := some .boolean }, accessFlags := 9, code := some k1c1 }
def k1c2 : Code := { maxStack := 2, maxLocals := 1, code := method_3_code, exceptionTable := #[], attributes := #[] }
def k1m2 : Method := { name := "ok", desc := "(C)Z", sig := { parameters := [.char], returnType := some .boolean }, accessFlags := 10, code := some k1c2 }
/-- com/example/redelivery/redelivery/ClassificationIsReasonCodePinLaw -/
def k1 : Class := { plain "com/example/redelivery/redelivery/ClassificationIsReasonCodePinLaw" (some 0) with
  accessFlags := 49
  interfaces := #[]
  cf := some (fileOf pool1 14 #[] #[{ accessFlags := 1, nameIndex := 5, descriptorIndex := 6, attributes := #[] }, { accessFlags := 9, nameIndex := 27, descriptorIndex := 28, attributes := #[] }, { accessFlags := 10, nameIndex := 17, descriptorIndex := 18, attributes := #[] }] 49 2 #[] #[])
  fields := #[]
  methods := #[k1m0, k1m1, k1m2]
  instanceTypes := #[]
  staticTypes := #[]
  resolved := Array.replicate 34 none
  statics := none }

def pool2 : Array CpInfo := pool [(1, .class_ 2), (0, u "java/io/Serializable"), (0, .class_ 4), (0, u "java/lang/Object")] 2

/-- java/io/Serializable -/
def k2 : Class := { plain "java/io/Serializable" (some 0) with
  accessFlags := 1537
  interfaces := #[]
  cf := some (fileOf pool2 1 #[] #[] 1537 3 #[] #[])
  fields := #[]
  methods := #[]
  instanceTypes := #[]
  staticTypes := #[]
  resolved := Array.replicate 7 none
  statics := none }

def pool3 : Array CpInfo := pool [(1, .class_ 2), (0, u "java/lang/Comparable"), (0, .class_ 4), (0, u "java/lang/Object")] 7

/-- java/lang/Comparable -/
def k3 : Class := { plain "java/lang/Comparable" (some 0) with
  accessFlags := 1537
  interfaces := #[]
  cf := some (fileOf pool3 1 #[] #[] 1537 3 #[] #[])
  fields := #[]
  methods := #[]
  instanceTypes := #[]
  staticTypes := #[]
  resolved := Array.replicate 12 none
  statics := none }

def pool4 : Array CpInfo := pool [(2, .class_ 4), (1, u "java/lang/CharSequence"), (42, .class_ 48), (0, u "java/lang/CharSequence$1CodePointIterator"), (10, .class_ 60), (0, u "java/lang/CharSequence$1CharIterator"), (5, .class_ 67), (0, u "java/lang/Object")] 63

/-- java/lang/CharSequence -/
def k4 : Class := { plain "java/lang/CharSequence" (some 0) with
  accessFlags := 1537
  interfaces := #[]
  cf := some (fileOf pool4 2 #[.nestMembers #[47, 59]] #[] 1537 66 #[] #[])
  fields := #[]
  methods := #[]
  instanceTypes := #[]
  staticTypes := #[]
  resolved := Array.replicate 131 none
  statics := none }

def pool5 : Array CpInfo := pool [(1, .class_ 2), (0, u "java/lang/constant/Constable"), (0, .class_ 4), (0, u "java/lang/Object")] 6

/-- java/lang/constant/Constable -/
def k5 : Class := { plain "java/lang/constant/Constable" (some 0) with
  accessFlags := 1537
  interfaces := #[]
  cf := some (fileOf pool5 1 #[] #[] 1537 3 #[] #[])
  fields := #[]
  methods := #[]
  instanceTypes := #[]
  staticTypes := #[]
  resolved := Array.replicate 11 none
  statics := none }

def pool6 : Array CpInfo := pool [(1, .class_ 2), (0, u "java/lang/constant/ConstantDesc"), (0, .class_ 4), (0, u "java/lang/Object")] 32

/-- java/lang/constant/ConstantDesc -/
def k6 : Class := { plain "java/lang/constant/ConstantDesc" (some 0) with
  accessFlags := 1537
  interfaces := #[]
  cf := some (fileOf pool6 1 #[] #[] 1537 3 #[] #[])
  fields := #[]
  methods := #[]
  instanceTypes := #[]
  staticTypes := #[]
  resolved := Array.replicate 37 none
  statics := none }

def pool7 : Array CpInfo := pool [(1, .methodref 2 3), (0, .class_ 4), (0, .nameAndType 5 6), (0, u "java/lang/Object"), (0, u "<init>"), (0, u "()V"), (0, .string 8), (0, u ""), (0, .fieldref 10 11), (0, .class_ 12), (0, .nameAndType 13 14), (0, u "java/lang/String"), (0, u "value"), (0, u "[B"), (0, .fieldref 10 16), (0, .nameAndType 17 18), (0, u "coder"), (0, u "B"), (2, u "hash"), (0, u "I"), (2, u "hashIsZero"), (0, u "Z"), (0, .methodref 10 28), (0, .nameAndType 5 29), (0, u "([CIILjava/lang/Void;)V"), (8, .fieldref 10 39), (0, .nameAndType 40 26), (0, u "COMPACT_STRINGS"), (1, .class_ 44), (1, u "java/lang/StringUTF16"), (0, u "compress"), (1, .methodref 42 48), (0, .nameAndType 49 50), (0, u "coderFromArrayLen"), (0, u "([BI)B"), (56, .class_ 109), (1, u "java/lang/StringLatin1"), (32, u "()Z"), (34, .methodref 42 178), (0, .nameAndType 45 179), (0, u "([CII)[B"), (154, u "()I"), (0, .methodref 10 336), (0, .nameAndType 17 337), (0, u "()B"), (25, u "([BI)C"), (27, u "(II)V"), (35, u "(I)C"), (64, .methodref 10 493), (0, .nameAndType 494 142), (0, u "isLatin1"), (0, .methodref 107 496), (0, .nameAndType 497 363), (0, u "charAt"), (0, .methodref 42 496), (2, u "checkIndex"), (5, u "length"), (67, .class_ 576), (0, u "java/lang/CharSequence"), (22, u "CASE_INSENSITIVE_ORDER"), (0, u "Ljava/util/Comparator;"), (91, u "isEmpty"), (317, u "([C)V"), (42, .fieldref 1054 1055), (0, .class_ 1056), (0, .nameAndType 1057 1058), (0, u "jdk/internal/util/Preconditions"), (0, u "SIOOBE_FORMATTER"), (0, u "Ljava/util/function/BiFunction;"), (0, .methodref 1054 1060), (0, .nameAndType 501 1061), (0, u "(IILjava/util/function/BiFunction;)I"), (39, u "serialPersistentFields"), (0, u "[Ljava/io/ObjectStreamField;"), (0, .class_ 1104), (0, u "java/lang/String$CaseInsensitiveComparator"), (1, .class_ 1107), (0, u "java/io/Serializable"), (0, .class_ 1109), (0, u "java/lang/Comparable"), (0, .class_ 1111), (0, u "java/lang/constant/Constable"), (0, .class_ 1113), (0, u "java/lang/constant/ConstantDesc"), (2, u "serialVersionUID"), (0, u "J"), (3, u "REPL"), (0, u "C"), (2, u "LATIN1"), (1, u "UTF16")] 323

def k7m0 : Method := { name := "<init>", desc := "()V", sig := { parameters := [], returnType := none }, accessFlags := 1, code := none }
def k7c1 : Code := { maxStack := 5, maxLocals := 2, code := jdk_42_method_3_code, exceptionTable := #[], attributes := #[] }
def k7m1 : Method := { name := "<init>", desc := "([C)V", sig := { parameters := [(.array .char)], returnType := none }, accessFlags := 1, code := some k7c1 }
def k7c2 : Code := { maxStack := 2, maxLocals := 1, code := jdk_42_method_54_code, exceptionTable := #[], attributes := #[] }
def k7m2 : Method := { name := "length", desc := "()I", sig := { parameters := [], returnType := some .int }, accessFlags := 1, code := some k7c2 }
def k7c3 : Code := { maxStack := 1, maxLocals := 1, code := jdk_42_method_55_code, exceptionTable := #[], attributes := #[] }
def k7m3 : Method := { name := "isEmpty", desc := "()Z", sig := { parameters := [], returnType := some .boolean }, accessFlags := 1, code := some k7c3 }
def k7c4 : Code := { maxStack := 2, maxLocals := 2, code := jdk_42_method_56_code, exceptionTable := #[], attributes := #[] }
def k7m4 : Method := { name := "charAt", desc := "(I)C", sig := { parameters := [.int], returnType := some .char }, accessFlags := 1, code := some k7c4 }
def k7c5 : Code := { maxStack := 4, maxLocals := 6, code := jdk_42_method_149_code, exceptionTable := #[], attributes := #[] }
def k7m5 : Method := { name := "<init>", desc := "([CIILjava/lang/Void;)V", sig := { parameters := [(.array .char), .int, .int, (.object "java/lang/Void")], returnType := none }, accessFlags := 2, code := some k7c5 }
def k7c6 : Code := { maxStack := 1, maxLocals := 1, code := jdk_42_method_152_code, exceptionTable := #[], attributes := #[] }
def k7m6 : Method := { name := "coder", desc := "()B", sig := { parameters := [], returnType := some .byte }, accessFlags := 0, code := some k7c6 }
def k7c7 : Code := { maxStack := 1, maxLocals := 1, code := jdk_42_method_154_code, exceptionTable := #[], attributes := #[] }
def k7m7 : Method := { name := "isLatin1", desc := "()Z", sig := { parameters := [], returnType := some .boolean }, accessFlags := 0, code := some k7c7 }
def k7c8 : Code := { maxStack := 3, maxLocals := 2, code := jdk_42_method_155_code, exceptionTable := #[], attributes := #[] }
def k7m8 : Method := { name := "checkIndex", desc := "(II)V", sig := { parameters := [.int, .int], returnType := none }, accessFlags := 8, code := some k7c8 }
/-- java/lang/String -/
def k7 : Class := { plain "java/lang/String" (some 0) with
  accessFlags := 49
  interfaces := #[2, 3, 4, 5, 6]
  cf := some (fileOf pool7 10 #[.nestMembers #[1103]] #[{ accessFlags := 1, nameIndex := 5, descriptorIndex := 6, attributes := #[] }, { accessFlags := 1, nameIndex := 5, descriptorIndex := 1010, attributes := #[] }, { accessFlags := 1, nameIndex := 507, descriptorIndex := 334, attributes := #[] }, { accessFlags := 1, nameIndex := 692, descriptorIndex := 142, attributes := #[] }, { accessFlags := 1, nameIndex := 497, descriptorIndex := 427, attributes := #[] }, { accessFlags := 2, nameIndex := 5, descriptorIndex := 29, attributes := #[] }, { accessFlags := 0, nameIndex := 17, descriptorIndex := 337, attributes := #[] }, { accessFlags := 0, nameIndex := 494, descriptorIndex := 142, attributes := #[] }, { accessFlags := 8, nameIndex := 501, descriptorIndex := 391, attributes := #[] }] 49 2 #[1106, 1108, 575, 1110, 1112] #[{ accessFlags := 18, nameIndex := 13, descriptorIndex := 14, attributes := #[] }, { accessFlags := 18, nameIndex := 17, descriptorIndex := 18, attributes := #[] }, { accessFlags := 2, nameIndex := 21, descriptorIndex := 22, attributes := #[] }, { accessFlags := 2, nameIndex := 25, descriptorIndex := 26, attributes := #[] }, { accessFlags := 26, nameIndex := 1116, descriptorIndex := 1117, attributes := #[] }, { accessFlags := 24, nameIndex := 40, descriptorIndex := 26, attributes := #[] }, { accessFlags := 26, nameIndex := 1101, descriptorIndex := 1102, attributes := #[] }, { accessFlags := 26, nameIndex := 1121, descriptorIndex := 1122, attributes := #[] }, { accessFlags := 25, nameIndex := 599, descriptorIndex := 600, attributes := #[] }, { accessFlags := 24, nameIndex := 1125, descriptorIndex := 18, attributes := #[] }, { accessFlags := 24, nameIndex := 1127, descriptorIndex := 18, attributes := #[] }])
  fields := #[{ name := "value", type := (.array .byte), accessFlags := 18, slot := 0, constantValue := 0 }, { name := "coder", type := .byte, accessFlags := 18, slot := 1, constantValue := 0 }, { name := "hash", type := .int, accessFlags := 2, slot := 2, constantValue := 0 }, { name := "hashIsZero", type := .boolean, accessFlags := 2, slot := 3, constantValue := 0 }, { name := "serialVersionUID", type := .long, accessFlags := 26, slot := 0, constantValue := 0 }, { name := "COMPACT_STRINGS", type := .boolean, accessFlags := 24, slot := 1, constantValue := 0 }, { name := "serialPersistentFields", type := (.array (.object "java/io/ObjectStreamField")), accessFlags := 26, slot := 2, constantValue := 0 }, { name := "REPL", type := .char, accessFlags := 26, slot := 3, constantValue := 0 }, { name := "CASE_INSENSITIVE_ORDER", type := (.object "java/util/Comparator"), accessFlags := 25, slot := 4, constantValue := 0 }, { name := "LATIN1", type := .byte, accessFlags := 24, slot := 5, constantValue := 0 }, { name := "UTF16", type := .byte, accessFlags := 24, slot := 6, constantValue := 0 }]
  methods := #[k7m0, k7m1, k7m2, k7m3, k7m4, k7m5, k7m6, k7m7, k7m8]
  instanceTypes := #[(.array .byte), .byte, .int, .boolean]
  staticTypes := #[.long, .boolean, (.array (.object "java/io/ObjectStreamField")), .char, (.object "java/util/Comparator"), .byte, .byte]
  resolved := Array.replicate 1451 none
  statics := some 0 }

def pool8 : Array CpInfo := pool [(2, .class_ 4), (1, u "java/lang/Object"), (0, u "<init>"), (0, u "()V"), (0, .class_ 8), (0, u "java/lang/Record")] 13

def k8m0 : Method := { name := "<init>", desc := "()V", sig := { parameters := [], returnType := none }, accessFlags := 4, code := none }
/-- java/lang/Record -/
def k8 : Class := { plain "java/lang/Record" (some 0) with
  accessFlags := 1057
  interfaces := #[]
  cf := some (fileOf pool8 7 #[] #[{ accessFlags := 4, nameIndex := 5, descriptorIndex := 6, attributes := #[] }] 1057 2 #[] #[])
  fields := #[]
  methods := #[k8m0]
  instanceTypes := #[]
  staticTypes := #[]
  resolved := Array.replicate 22 none
  statics := none }

def pool9 : Array CpInfo := pool [(1, .class_ 2), (0, u "com/example/redelivery/redelivery/Classification"), (1, .class_ 6), (1, u "java/lang/Record"), (3, u "failureClass"), (7, u "reason"), (0, .methodref 20 21), (0, .class_ 22), (0, .nameAndType 23 24), (0, u "java/lang/String"), (0, u "isEmpty"), (0, u "()Z"), (0, .methodref 20 26), (0, .nameAndType 27 28), (0, u "length"), (0, u "()I"), (21, u "Lcom/example/redelivery/redelivery/FailureClass;"), (2, u "Ljava/lang/String;"), (6, .methodref 20 61), (0, .nameAndType 62 63), (0, u "charAt"), (0, u "(I)C"), (25, u "MAX_REASON_LENGTH"), (0, u "I"), (2, u "REASON_CODE_FORM"), (10, u "isReasonCode"), (0, u "(Ljava/lang/String;)Z")] 24

def k9c0 : Code := { maxStack := 2, maxLocals := 4, code := prog_1_method_3_code, exceptionTable := #[], attributes := #[] }
def k9m0 : Method := { name := "isReasonCode", desc := "(Ljava/lang/String;)Z", sig := { parameters := [(.object "java/lang/String")], returnType := some .boolean }, accessFlags := 8, code := some k9c0 }
/-- com/example/redelivery/redelivery/Classification -/
def k9 : Class := { plain "com/example/redelivery/redelivery/Classification" (some 8) with
  accessFlags := 49
  interfaces := #[]
  cf := some (fileOf pool9 1 #[] #[{ accessFlags := 8, nameIndex := 104, descriptorIndex := 105, attributes := #[] }] 49 4 #[] #[{ accessFlags := 18, nameIndex := 10, descriptorIndex := 50, attributes := #[] }, { accessFlags := 18, nameIndex := 18, descriptorIndex := 53, attributes := #[] }, { accessFlags := 25, nameIndex := 89, descriptorIndex := 90, attributes := #[] }, { accessFlags := 24, nameIndex := 93, descriptorIndex := 53, attributes := #[] }])
  fields := #[{ name := "failureClass", type := (.object "com/example/redelivery/redelivery/FailureClass"), accessFlags := 18, slot := 0, constantValue := 0 }, { name := "reason", type := (.object "java/lang/String"), accessFlags := 18, slot := 1, constantValue := 0 }, { name := "MAX_REASON_LENGTH", type := .int, accessFlags := 25, slot := 0, constantValue := 0 }, { name := "REASON_CODE_FORM", type := (.object "java/lang/String"), accessFlags := 24, slot := 1, constantValue := 0 }]
  methods := #[k9m0]
  instanceTypes := #[(.object "com/example/redelivery/redelivery/FailureClass"), (.object "java/lang/String")]
  staticTypes := #[.int, (.object "java/lang/String")]
  resolved := Array.replicate 130 none
  statics := none }

def pool10 : Array CpInfo := pool [(3, .class_ 4), (0, u "java/lang/String"), (1, .class_ 8), (1, u "java/lang/Object"), (0, u "<init>"), (0, u "()V"), (0, .methodref 12 13), (0, .class_ 14), (0, .nameAndType 15 16), (0, u "java/lang/StringUTF16"), (0, u "newBytesLength"), (0, u "(I)I"), (3, .integer 1073741823), (23, .fieldref 12 45), (0, .nameAndType 46 47), (0, u "$assertionsDisabled"), (0, u "Z"), (0, .methodref 12 49), (0, .nameAndType 50 51), (0, u "length"), (0, u "([B)I"), (7, .fieldref 12 60), (0, .nameAndType 61 62), (0, u "HI_BYTE_SHIFT"), (0, u "I"), (0, .fieldref 12 64), (0, .nameAndType 65 62), (0, u "LO_BYTE_SHIFT"), (1, .methodref 12 68), (0, .nameAndType 69 70), (0, u "checkIndex"), (0, u "(I[B)V"), (0, .methodref 12 72), (0, .nameAndType 73 74), (0, u "getChar"), (0, u "([BI)C"), (32, .methodref 12 108), (0, .nameAndType 109 110), (0, u "newBytesFor"), (0, u "(I)[B"), (0, .methodref 12 112), (0, .nameAndType 113 114), (0, u "putChar"), (0, u "([BII)V"), (0, .methodref 12 116), (0, .nameAndType 117 118), (0, u "compress"), (0, u "([CI[BII)I"), (0, .methodref 12 120), (0, .nameAndType 121 122), (0, u "toBytes"), (0, u "([CII)[B"), (138, u "coderFromArrayLen"), (0, u "([BI)B"), (106, .class_ 371), (1, u "java/lang/StringUTF16$LinesSpliterator"), (20, u "charAt"), (21, .methodref 3 415), (0, .nameAndType 69 416), (0, u "(II)V"), (13, u "MAX_LENGTH"), (196, .class_ 628), (0, u "java/lang/StringUTF16$CodePointsSpliterator"), (0, .class_ 630), (0, u "java/lang/StringUTF16$CharsSpliterator")] 4

def k10m0 : Method := { name := "<init>", desc := "()V", sig := { parameters := [], returnType := none }, accessFlags := 0, code := none }
def k10c1 : Code := { maxStack := 1, maxLocals := 1, code := jdk_52_method_2_code, exceptionTable := #[], attributes := #[] }
def k10m1 : Method := { name := "newBytesFor", desc := "(I)[B", sig := { parameters := [.int], returnType := some (.array .byte) }, accessFlags := 9, code := some k10c1 }
def k10c2 : Code := { maxStack := 4, maxLocals := 1, code := jdk_52_method_3_code, exceptionTable := #[], attributes := #[] }
def k10m2 : Method := { name := "newBytesLength", desc := "(I)I", sig := { parameters := [.int], returnType := some .int }, accessFlags := 9, code := some k10c2 }
def k10c3 : Code := { maxStack := 4, maxLocals := 3, code := jdk_52_method_4_code, exceptionTable := #[], attributes := #[] }
def k10m3 : Method := { name := "putChar", desc := "([BII)V", sig := { parameters := [(.array .byte), .int, .int], returnType := none }, accessFlags := 8, code := some k10c3 }
def k10c4 : Code := { maxStack := 3, maxLocals := 2, code := jdk_52_method_5_code, exceptionTable := #[], attributes := #[] }
def k10m4 : Method := { name := "getChar", desc := "([BI)C", sig := { parameters := [(.array .byte), .int], returnType := some .char }, accessFlags := 8, code := some k10c4 }
def k10c5 : Code := { maxStack := 2, maxLocals := 1, code := jdk_52_method_6_code, exceptionTable := #[], attributes := #[] }
def k10m5 : Method := { name := "length", desc := "([B)I", sig := { parameters := [(.array .byte)], returnType := some .int }, accessFlags := 9, code := some k10c5 }
def k10c6 : Code := { maxStack := 4, maxLocals := 5, code := jdk_52_method_14_code, exceptionTable := #[], attributes := #[] }
def k10m6 : Method := { name := "toBytes", desc := "([CII)[B", sig := { parameters := [(.array .char), .int, .int], returnType := some (.array .byte) }, accessFlags := 9, code := some k10c6 }
def k10c7 : Code := { maxStack := 2, maxLocals := 2, code := jdk_52_method_15_code, exceptionTable := #[], attributes := #[] }
def k10m7 : Method := { name := "coderFromArrayLen", desc := "([BI)B", sig := { parameters := [(.array .byte), .int], returnType := some .byte }, accessFlags := 8, code := some k10c7 }
def k10c8 : Code := { maxStack := 5, maxLocals := 6, code := jdk_52_method_16_code, exceptionTable := #[], attributes := #[] }
def k10m8 : Method := { name := "compress", desc := "([CII)[B", sig := { parameters := [(.array .char), .int, .int], returnType := some (.array .byte) }, accessFlags := 9, code := some k10c8 }
def k10c9 : Code := { maxStack := 3, maxLocals := 7, code := jdk_52_method_21_code, exceptionTable := #[], attributes := #[] }
def k10m9 : Method := { name := "compress", desc := "([CI[BII)I", sig := { parameters := [(.array .char), .int, (.array .byte), .int, .int], returnType := some .int }, accessFlags := 9, code := some k10c9 }
def k10c10 : Code := { maxStack := 2, maxLocals := 2, code := jdk_52_method_83_code, exceptionTable := #[], attributes := #[] }
def k10m10 : Method := { name := "charAt", desc := "([BI)C", sig := { parameters := [(.array .byte), .int], returnType := some .char }, accessFlags := 9, code := some k10c10 }
def k10c11 : Code := { maxStack := 2, maxLocals := 2, code := jdk_52_method_91_code, exceptionTable := #[], attributes := #[] }
def k10m11 : Method := { name := "checkIndex", desc := "(I[B)V", sig := { parameters := [.int, (.array .byte)], returnType := none }, accessFlags := 9, code := some k10c11 }
/-- java/lang/StringUTF16 -/
def k10 : Class := { plain "java/lang/StringUTF16" (some 0) with
  accessFlags := 48
  interfaces := #[]
  cf := some (fileOf pool10 12 #[.nestMembers #[627, 629, 369]] #[{ accessFlags := 0, nameIndex := 9, descriptorIndex := 10, attributes := #[] }, { accessFlags := 9, nameIndex := 109, descriptorIndex := 110, attributes := #[] }, { accessFlags := 9, nameIndex := 15, descriptorIndex := 16, attributes := #[] }, { accessFlags := 8, nameIndex := 113, descriptorIndex := 114, attributes := #[] }, { accessFlags := 8, nameIndex := 73, descriptorIndex := 74, attributes := #[] }, { accessFlags := 9, nameIndex := 50, descriptorIndex := 51, attributes := #[] }, { accessFlags := 9, nameIndex := 121, descriptorIndex := 122, attributes := #[] }, { accessFlags := 8, nameIndex := 261, descriptorIndex := 262, attributes := #[] }, { accessFlags := 9, nameIndex := 117, descriptorIndex := 122, attributes := #[] }, { accessFlags := 9, nameIndex := 117, descriptorIndex := 118, attributes := #[] }, { accessFlags := 9, nameIndex := 392, descriptorIndex := 74, attributes := #[] }, { accessFlags := 9, nameIndex := 69, descriptorIndex := 70, attributes := #[] }] 48 6 #[] #[{ accessFlags := 26, nameIndex := 61, descriptorIndex := 62, attributes := #[] }, { accessFlags := 26, nameIndex := 65, descriptorIndex := 62, attributes := #[] }, { accessFlags := 24, nameIndex := 430, descriptorIndex := 62, attributes := #[] }, { accessFlags := 4120, nameIndex := 46, descriptorIndex := 47, attributes := #[] }])
  fields := #[{ name := "HI_BYTE_SHIFT", type := .int, accessFlags := 26, slot := 0, constantValue := 0 }, { name := "LO_BYTE_SHIFT", type := .int, accessFlags := 26, slot := 1, constantValue := 0 }, { name := "MAX_LENGTH", type := .int, accessFlags := 24, slot := 2, constantValue := 0 }, { name := "$assertionsDisabled", type := .boolean, accessFlags := 4120, slot := 3, constantValue := 0 }]
  methods := #[k10m0, k10m1, k10m2, k10m3, k10m4, k10m5, k10m6, k10m7, k10m8, k10m9, k10m10, k10m11]
  instanceTypes := #[]
  staticTypes := #[.int, .int, .int, .boolean]
  resolved := Array.replicate 635 none
  statics := some 1 }

def pool11 : Array CpInfo := pool [(1, .class_ 2), (0, u "java/lang/String"), (1, .class_ 6), (1, u "java/lang/Object"), (0, u "<init>"), (0, u "()V"), (0, .methodref 1 10), (0, .nameAndType 11 12), (0, u "checkIndex"), (0, u "(II)V"), (1, .class_ 16), (1, u "java/lang/StringLatin1"), (36, u "([BI)C"), (67, u "$assertionsDisabled"), (0, u "Z"), (98, .class_ 223), (1, u "java/lang/StringLatin1$LinesSpliterator"), (28, u "charAt"), (137, .class_ 391), (0, u "java/lang/StringLatin1$CharsSpliterator")] 3

def k11m0 : Method := { name := "<init>", desc := "()V", sig := { parameters := [], returnType := none }, accessFlags := 0, code := none }
def k11c1 : Code := { maxStack := 2, maxLocals := 2, code := jdk_43_method_2_code, exceptionTable := #[], attributes := #[] }
def k11m1 : Method := { name := "charAt", desc := "([BI)C", sig := { parameters := [(.array .byte), .int], returnType := some .char }, accessFlags := 9, code := some k11c1 }
/-- java/lang/StringLatin1 -/
def k11 : Class := { plain "java/lang/StringLatin1" (some 0) with
  accessFlags := 48
  interfaces := #[]
  cf := some (fileOf pool11 14 #[.nestMembers #[390, 221]] #[{ accessFlags := 0, nameIndex := 7, descriptorIndex := 8, attributes := #[] }, { accessFlags := 9, nameIndex := 252, descriptorIndex := 53, attributes := #[] }] 48 4 #[] #[{ accessFlags := 4120, nameIndex := 121, descriptorIndex := 122, attributes := #[] }])
  fields := #[{ name := "$assertionsDisabled", type := .boolean, accessFlags := 4120, slot := 0, constantValue := 0 }]
  methods := #[k11m0, k11m1]
  instanceTypes := #[]
  staticTypes := #[.boolean]
  resolved := Array.replicate 395 none
  statics := none }

def pool12 : Array CpInfo := pool [(2, .class_ 4), (1, u "java/lang/Object"), (0, u "<init>"), (0, u "()V"), (17, .class_ 26), (1, u "jdk/internal/util/Preconditions"), (6, u "checkIndex"), (21, .class_ 56), (0, u "jdk/internal/util/Preconditions$4"), (57, .class_ 115), (0, u "jdk/internal/util/Preconditions$1"), (7, u "SIOOBE_FORMATTER"), (0, u "Ljava/util/function/BiFunction;"), (0, .class_ 126), (0, u "jdk/internal/util/Preconditions$2"), (3, u "AIOOBE_FORMATTER"), (0, .class_ 132), (0, u "jdk/internal/util/Preconditions$3"), (3, u "IOOBE_FORMATTER"), (41, u "(IILjava/util/function/BiFunction;)I")] 15

def k12m0 : Method := { name := "<init>", desc := "()V", sig := { parameters := [], returnType := none }, accessFlags := 1, code := none }
def k12c1 : Code := { maxStack := 3, maxLocals := 3, code := jdk_41_method_11_code, exceptionTable := #[], attributes := #[] }
def k12m1 : Method := { name := "checkIndex", desc := "(IILjava/util/function/BiFunction;)I", sig := { parameters := [.int, .int, (.object "java/util/function/BiFunction")], returnType := some .int }, accessFlags := 9, code := some k12c1 }
/-- jdk/internal/util/Preconditions -/
def k12 : Class := { plain "jdk/internal/util/Preconditions" (some 0) with
  accessFlags := 33
  interfaces := #[]
  cf := some (fileOf pool12 24 #[.nestMembers #[55, 131, 125, 114]] #[{ accessFlags := 1, nameIndex := 5, descriptorIndex := 6, attributes := #[] }, { accessFlags := 9, nameIndex := 33, descriptorIndex := 178, attributes := #[] }] 33 2 #[] #[{ accessFlags := 25, nameIndex := 123, descriptorIndex := 124, attributes := #[] }, { accessFlags := 25, nameIndex := 130, descriptorIndex := 124, attributes := #[] }, { accessFlags := 25, nameIndex := 136, descriptorIndex := 124, attributes := #[] }])
  fields := #[{ name := "SIOOBE_FORMATTER", type := (.object "java/util/function/BiFunction"), accessFlags := 25, slot := 0, constantValue := 0 }, { name := "AIOOBE_FORMATTER", type := (.object "java/util/function/BiFunction"), accessFlags := 25, slot := 1, constantValue := 0 }, { name := "IOOBE_FORMATTER", type := (.object "java/util/function/BiFunction"), accessFlags := 25, slot := 2, constantValue := 0 }]
  methods := #[k12m0, k12m1]
  instanceTypes := #[]
  staticTypes := #[(.object "java/util/function/BiFunction"), (.object "java/util/function/BiFunction"), (.object "java/util/function/BiFunction")]
  resolved := Array.replicate 194 none
  statics := some 2 }

def pool13 : Array CpInfo := pool [(9, u "<init>"), (6, .class_ 18), (1, u "java/lang/Object"), (0, u "()V"), (1, .class_ 23), (1, u "jdk/internal/util/ArraysSupport"), (0, u "LOG2_ARRAY_LONG_INDEX_SCALE"), (0, u "I"), (2, u "U"), (0, u "Ljdk/internal/misc/Unsafe;"), (8, u "BIG_ENDIAN"), (0, u "Z"), (8, u "LOG2_BYTE_BIT_SIZE"), (4, u "LOG2_ARRAY_INT_INDEX_SCALE"), (54, u "JLA"), (0, u "Ljdk/internal/access/JavaLangAccess;"), (11, u "LOG2_ARRAY_BOOLEAN_INDEX_SCALE"), (9, u "LOG2_ARRAY_BYTE_INDEX_SCALE"), (5, u "LOG2_ARRAY_CHAR_INDEX_SCALE"), (5, u "LOG2_ARRAY_SHORT_INDEX_SCALE"), (18, u "LOG2_ARRAY_FLOAT_INDEX_SCALE"), (24, u "LOG2_ARRAY_DOUBLE_INDEX_SCALE"), (89, u "T_BOOLEAN"), (2, u "T_CHAR"), (1, u "T_FLOAT"), (1, u "T_DOUBLE"), (1, u "T_BYTE"), (1, u "T_SHORT"), (1, u "T_INT"), (1, u "T_LONG"), (1, u "SOFT_MAX_ARRAY_LENGTH")] 83

def k13m0 : Method := { name := "<init>", desc := "()V", sig := { parameters := [], returnType := none }, accessFlags := 2, code := none }
/-- jdk/internal/util/ArraysSupport -/
def k13 : Class := { plain "jdk/internal/util/ArraysSupport" (some 0) with
  accessFlags := 33
  interfaces := #[]
  cf := some (fileOf pool13 21 #[] #[{ accessFlags := 2, nameIndex := 9, descriptorIndex := 19, attributes := #[] }] 33 16 #[] #[{ accessFlags := 24, nameIndex := 28, descriptorIndex := 29, attributes := #[] }, { accessFlags := 26, nameIndex := 38, descriptorIndex := 39, attributes := #[] }, { accessFlags := 25, nameIndex := 121, descriptorIndex := 25, attributes := #[] }, { accessFlags := 25, nameIndex := 131, descriptorIndex := 25, attributes := #[] }, { accessFlags := 25, nameIndex := 137, descriptorIndex := 25, attributes := #[] }, { accessFlags := 25, nameIndex := 143, descriptorIndex := 25, attributes := #[] }, { accessFlags := 25, nameIndex := 53, descriptorIndex := 25, attributes := #[] }, { accessFlags := 25, nameIndex := 24, descriptorIndex := 25, attributes := #[] }, { accessFlags := 25, nameIndex := 162, descriptorIndex := 25, attributes := #[] }, { accessFlags := 25, nameIndex := 187, descriptorIndex := 25, attributes := #[] }, { accessFlags := 26, nameIndex := 48, descriptorIndex := 25, attributes := #[] }, { accessFlags := 25, nameIndex := 277, descriptorIndex := 25, attributes := #[] }, { accessFlags := 25, nameIndex := 280, descriptorIndex := 25, attributes := #[] }, { accessFlags := 25, nameIndex := 282, descriptorIndex := 25, attributes := #[] }, { accessFlags := 25, nameIndex := 284, descriptorIndex := 25, attributes := #[] }, { accessFlags := 25, nameIndex := 286, descriptorIndex := 25, attributes := #[] }, { accessFlags := 25, nameIndex := 288, descriptorIndex := 25, attributes := #[] }, { accessFlags := 25, nameIndex := 290, descriptorIndex := 25, attributes := #[] }, { accessFlags := 25, nameIndex := 292, descriptorIndex := 25, attributes := #[] }, { accessFlags := 26, nameIndex := 108, descriptorIndex := 109, attributes := #[] }, { accessFlags := 25, nameIndex := 294, descriptorIndex := 25, attributes := #[] }])
  fields := #[{ name := "U", type := (.object "jdk/internal/misc/Unsafe"), accessFlags := 24, slot := 0, constantValue := 0 }, { name := "BIG_ENDIAN", type := .boolean, accessFlags := 26, slot := 1, constantValue := 0 }, { name := "LOG2_ARRAY_BOOLEAN_INDEX_SCALE", type := .int, accessFlags := 25, slot := 2, constantValue := 0 }, { name := "LOG2_ARRAY_BYTE_INDEX_SCALE", type := .int, accessFlags := 25, slot := 3, constantValue := 0 }, { name := "LOG2_ARRAY_CHAR_INDEX_SCALE", type := .int, accessFlags := 25, slot := 4, constantValue := 0 }, { name := "LOG2_ARRAY_SHORT_INDEX_SCALE", type := .int, accessFlags := 25, slot := 5, constantValue := 0 }, { name := "LOG2_ARRAY_INT_INDEX_SCALE", type := .int, accessFlags := 25, slot := 6, constantValue := 0 }, { name := "LOG2_ARRAY_LONG_INDEX_SCALE", type := .int, accessFlags := 25, slot := 7, constantValue := 0 }, { name := "LOG2_ARRAY_FLOAT_INDEX_SCALE", type := .int, accessFlags := 25, slot := 8, constantValue := 0 }, { name := "LOG2_ARRAY_DOUBLE_INDEX_SCALE", type := .int, accessFlags := 25, slot := 9, constantValue := 0 }, { name := "LOG2_BYTE_BIT_SIZE", type := .int, accessFlags := 26, slot := 10, constantValue := 0 }, { name := "T_BOOLEAN", type := .int, accessFlags := 25, slot := 11, constantValue := 0 }, { name := "T_CHAR", type := .int, accessFlags := 25, slot := 12, constantValue := 0 }, { name := "T_FLOAT", type := .int, accessFlags := 25, slot := 13, constantValue := 0 }, { name := "T_DOUBLE", type := .int, accessFlags := 25, slot := 14, constantValue := 0 }, { name := "T_BYTE", type := .int, accessFlags := 25, slot := 15, constantValue := 0 }, { name := "T_SHORT", type := .int, accessFlags := 25, slot := 16, constantValue := 0 }, { name := "T_INT", type := .int, accessFlags := 25, slot := 17, constantValue := 0 }, { name := "T_LONG", type := .int, accessFlags := 25, slot := 18, constantValue := 0 }, { name := "JLA", type := (.object "jdk/internal/access/JavaLangAccess"), accessFlags := 26, slot := 19, constantValue := 0 }, { name := "SOFT_MAX_ARRAY_LENGTH", type := .int, accessFlags := 25, slot := 20, constantValue := 0 }]
  methods := #[k13m0]
  instanceTypes := #[]
  staticTypes := #[(.object "jdk/internal/misc/Unsafe"), .boolean, .int, .int, .int, .int, .int, .int, .int, .int, .int, .int, .int, .int, .int, .int, .int, .int, .int, (.object "jdk/internal/access/JavaLangAccess"), .int]
  resolved := Array.replicate 378 none
  statics := none }

def pool14 : Array CpInfo := pool [(1, u "java/lang/Cloneable"), (0, .class_ 1), (0, u "java/lang/Object"), (0, .class_ 3)] 3

/-- java/lang/Cloneable -/
def k14 : Class := { plain "java/lang/Cloneable" (some 0) with
  accessFlags := 1537
  interfaces := #[]
  cf := some (fileOf pool14 2 #[] #[] 1537 4 #[] #[])
  fields := #[]
  methods := #[]
  instanceTypes := #[]
  staticTypes := #[]
  resolved := Array.replicate 8 none
  statics := none }

/-- the primitive byte -/
def k15 : Class := { plain "byte" none with kind := .primitive 'B', accessFlags := 0x411 }
/-- [B -/
def k16 : Class := { plain "[B" (some 0) with kind := .array 15 .byte, interfaces := #[14, 2], accessFlags := 1041 }

/-- the primitive char -/
def k17 : Class := { plain "char" none with kind := .primitive 'C', accessFlags := 0x411 }
/-- [C -/
def k18 : Class := { plain "[C" (some 0) with kind := .array 17 .char, interfaces := #[14, 2], accessFlags := 1041 }

/-- the primitive int -/
def k19 : Class := { plain "int" none with kind := .primitive 'I', accessFlags := 0x411 }
/-- [I -/
def k20 : Class := { plain "[I" (some 0) with kind := .array 19 .int, interfaces := #[14, 2], accessFlags := 1041 }

def heap : Heap := #[{ cls := 7, slots := #[.long 0, .int 1, .null, .int 0, .null, .int 0, .int 0], vm := .statics 7 },
  { cls := 10, slots := #[.int 0, .int 8, .int 0, .int 1], vm := .statics 10 },
  { cls := 12, slots := #[.null, .null, .null], vm := .statics 12 }]
def classes : Array Class := #[k0, k1, k2, k3, k4, k5, k6, k7, k8, k9, k10, k11, k12, k13, k14, k15, k16, k17, k18, k19, k20]
def interned : List (Array UInt16 × Addr) := []
def slotsUsed : Nat := 14
def theMethod : MethodId := ⟨1, 1⟩
def args0 : Array Value := #[.int 5, .int 5, .int 5, .int 5, .int 5]
def aboutOver (below : List Frame) : State where
  vm := { classes := classes, interned := interned.toArray }
  heap := heap
  slotsUsed := slotsUsed
  threads := #[{ frames := .invoking theMethod args0 :: below }]
def below0 : List Frame := [.native { method := ⟨0, 0⟩, args := #[] }]
def about1 : State := aboutOver below0
def p0 : Program := .bare "" "" ""
def e0 : Env := launch0.env 0 0 0
theorem w_frames : about1.frames = Frame.invoking theMethod args0 :: below0 := rfl
set_option maxRecDepth 65536 in
theorem w_args : argsFit about1.vm theMethod args0 = true := by decide +kernel
set_option maxRecDepth 65536 in
theorem w_heap : heapFits about1 = true := by decide +kernel
set_option maxRecDepth 65536 in
theorem w_runnable : about1.curStatus? = some .runnable := by decide +kernel
set_option maxRecDepth 65536 in
theorem w_alone : about1.alone = true := by decide +kernel
set_option maxRecDepth 65536 in
theorem w_named : about1.methodNamed? x = some theMethod := by decide +kernel
set_option maxRecDepth 65536 in
theorem w_hears : about1.hears theMethod below0 = true := by decide +kernel
set_option maxRecDepth 65536 in
theorem w_ripe : about1.ripe theMethod args0 below0 = true := by decide +kernel
theorem w_running : about1.status = .running := rfl
set_option maxRecDepth 65536 in
theorem w_room : about1.hasRoom e0.platform room_1 = true :=
  launch0.hasRoom_least _ room_1 (by decide +kernel) (by decide +kernel) (by decide +kernel) (by decide +kernel) (by decide +kernel) (by decide +kernel)
theorem allAtoms_all (ts : List Jvm.Cond) (a : Array Jvm.Value) (st : Jvm.State) : (allAtoms ts).before a st = ts.all (fun c => c.before a st) := by
  induction ts with
  | nil => rfl
  | cons c t ih =>
    show (Jvm.Cond.and c (allAtoms t)).before a st = _
    rw [Jvm.Cond.before_and, ih, List.all_cons]
def words1 : List Jvm.Cond := Jvm.Cond.code x code maxLocals ret :: tables_1
/-- a 'code' word, met by the world's own term for the bytes: nothing is compared byte by byte -/
theorem code_word {y : MethodName} {bytes : ByteArray} {mx : Nat} {rt : Option FieldType} {a : Array Value} {s : State} {m : MethodId} {meth : Method} {c : Code} (h1 : s.methodNamed? y = some m) (h2 : s.vm.method? m = some meth) (h3 : meth.code = some c) (h4 : c.code = bytes)
    (h5 : (c.maxLocals == mx && c.exceptionTable.isEmpty && decide (c.maxStack ≤ mostOperands) && decide (meth.sig.returnType = rt) && !meth.locks && decide (parseMethodDescriptor y.desc = some meth.sig)) = true) : (Jvm.Cond.code y bytes mx rt).before a s = true := by
  simp only [Bool.and_eq_true, beq_iff_eq, Bool.not_eq_true', decide_eq_true_eq] at h5
  obtain ⟨⟨⟨⟨⟨g1, g2⟩, g3⟩, g4⟩, g5⟩, g6⟩ := h5
  simp [Cond.before, Cond.holds, Cond.value, h1, h2, h3, h4, g1, g2, g3, g4, g5, g6]
def isCode : Jvm.Cond → Bool
  | .code _ _ _ _ => true
  | _ => false
theorem all_split {L : List Jvm.Cond} {P : Jvm.Cond → Bool} (h1 : L.all (fun c => isCode c || P c) = true) (h2 : ∀ c ∈ L.filter isCode, P c = true) : L.all P = true := by
  refine List.all_eq_true.mpr fun c hc => ?_
  have h := List.all_eq_true.mp h1 c hc
  rcases Bool.eq_false_or_eq_true (isCode c) with hi | hi
  · exact h2 c (List.mem_filter.mpr ⟨hc, hi⟩)
  · simpa [hi] using h
set_option maxRecDepth 65536 in
theorem w_c0 : (Jvm.Cond.code x code maxLocals ret).before args0 about1 = true := code_word (m := ⟨1, 1⟩) (meth := k1m1) (c := k1c1) (by decide +kernel) rfl rfl rfl (by decide +kernel)
set_option maxRecDepth 65536 in
theorem w_c1 : (Jvm.Cond.code ({ cls := "java/lang/String", name := "<init>", desc := "([C)V" } : Jvm.MethodName) jdk_42_method_3_code (2 : Nat) (Option.none : Option Jvm.ClassFile.FieldType)).before args0 about1 = true := code_word (m := ⟨7, 1⟩) (meth := k7m1) (c := k7c1) (by decide +kernel) rfl rfl rfl (by decide +kernel)
set_option maxRecDepth 65536 in
theorem w_c2 : (Jvm.Cond.code ({ cls := "java/lang/String", name := "<init>", desc := "([CIILjava/lang/Void;)V" } : Jvm.MethodName) jdk_42_method_149_code (6 : Nat) (Option.none : Option Jvm.ClassFile.FieldType)).before args0 about1 = true := code_word (m := ⟨7, 5⟩) (meth := k7m5) (c := k7c5) (by decide +kernel) rfl rfl rfl (by decide +kernel)
set_option maxRecDepth 65536 in
theorem w_c3 : (Jvm.Cond.code ({ cls := "java/lang/Object", name := "<init>", desc := "()V" } : Jvm.MethodName) object_method_1_code (1 : Nat) (Option.none : Option Jvm.ClassFile.FieldType)).before args0 about1 = true := code_word (m := ⟨0, 0⟩) (meth := k0m0) (c := k0c0) (by decide +kernel) rfl rfl rfl (by decide +kernel)
set_option maxRecDepth 65536 in
theorem w_c4 : (Jvm.Cond.code ({ cls := "com/example/redelivery/redelivery/Classification", name := "isReasonCode", desc := "(Ljava/lang/String;)Z" } : Jvm.MethodName) prog_1_method_3_code (4 : Nat) (Option.some Jvm.ClassFile.FieldType.boolean)).before args0 about1 = true := code_word (m := ⟨9, 0⟩) (meth := k9m0) (c := k9c0) (by decide +kernel) rfl rfl rfl (by decide +kernel)
set_option maxRecDepth 65536 in
theorem w_c5 : (Jvm.Cond.code ({ cls := "java/lang/String", name := "isEmpty", desc := "()Z" } : Jvm.MethodName) jdk_42_method_55_code (1 : Nat) (Option.some Jvm.ClassFile.FieldType.boolean)).before args0 about1 = true := code_word (m := ⟨7, 3⟩) (meth := k7m3) (c := k7c3) (by decide +kernel) rfl rfl rfl (by decide +kernel)
set_option maxRecDepth 65536 in
theorem w_c6 : (Jvm.Cond.code ({ cls := "java/lang/StringUTF16", name := "compress", desc := "([CII)[B" } : Jvm.MethodName) jdk_52_method_16_code (6 : Nat) (Option.some (Jvm.ClassFile.FieldType.array Jvm.ClassFile.FieldType.byte))).before args0 about1 = true := code_word (m := ⟨10, 8⟩) (meth := k10m8) (c := k10c8) (by decide +kernel) rfl rfl rfl (by decide +kernel)
set_option maxRecDepth 65536 in
theorem w_c7 : (Jvm.Cond.code ({ cls := "java/lang/StringUTF16", name := "compress", desc := "([CI[BII)I" } : Jvm.MethodName) jdk_52_method_21_code (7 : Nat) (Option.some Jvm.ClassFile.FieldType.int)).before args0 about1 = true := code_word (m := ⟨10, 9⟩) (meth := k10m9) (c := k10c9) (by decide +kernel) rfl rfl rfl (by decide +kernel)
set_option maxRecDepth 65536 in
theorem w_c8 : (Jvm.Cond.code ({ cls := "java/lang/StringUTF16", name := "coderFromArrayLen", desc := "([BI)B" } : Jvm.MethodName) jdk_52_method_15_code (2 : Nat) (Option.some Jvm.ClassFile.FieldType.byte)).before args0 about1 = true := code_word (m := ⟨10, 7⟩) (meth := k10m7) (c := k10c7) (by decide +kernel) rfl rfl rfl (by decide +kernel)
set_option maxRecDepth 65536 in
theorem w_c9 : (Jvm.Cond.code ({ cls := "com/example/redelivery/redelivery/ClassificationIsReasonCodePinLaw", name := "ok", desc := "(C)Z" } : Jvm.MethodName) method_3_code (1 : Nat) (Option.some Jvm.ClassFile.FieldType.boolean)).before args0 about1 = true := code_word (m := ⟨1, 2⟩) (meth := k1m2) (c := k1c2) (by decide +kernel) rfl rfl rfl (by decide +kernel)
set_option maxRecDepth 65536 in
theorem w_c10 : (Jvm.Cond.code ({ cls := "java/lang/String", name := "length", desc := "()I" } : Jvm.MethodName) jdk_42_method_54_code (1 : Nat) (Option.some Jvm.ClassFile.FieldType.int)).before args0 about1 = true := code_word (m := ⟨7, 2⟩) (meth := k7m2) (c := k7c2) (by decide +kernel) rfl rfl rfl (by decide +kernel)
set_option maxRecDepth 65536 in
theorem w_c11 : (Jvm.Cond.code ({ cls := "java/lang/String", name := "coder", desc := "()B" } : Jvm.MethodName) jdk_42_method_152_code (1 : Nat) (Option.some Jvm.ClassFile.FieldType.byte)).before args0 about1 = true := code_word (m := ⟨7, 6⟩) (meth := k7m6) (c := k7c6) (by decide +kernel) rfl rfl rfl (by decide +kernel)
set_option maxRecDepth 65536 in
theorem w_c12 : (Jvm.Cond.code ({ cls := "java/lang/String", name := "charAt", desc := "(I)C" } : Jvm.MethodName) jdk_42_method_56_code (2 : Nat) (Option.some Jvm.ClassFile.FieldType.char)).before args0 about1 = true := code_word (m := ⟨7, 4⟩) (meth := k7m4) (c := k7c4) (by decide +kernel) rfl rfl rfl (by decide +kernel)
set_option maxRecDepth 65536 in
theorem w_c13 : (Jvm.Cond.code ({ cls := "java/lang/String", name := "isLatin1", desc := "()Z" } : Jvm.MethodName) jdk_42_method_154_code (1 : Nat) (Option.some Jvm.ClassFile.FieldType.boolean)).before args0 about1 = true := code_word (m := ⟨7, 7⟩) (meth := k7m7) (c := k7c7) (by decide +kernel) rfl rfl rfl (by decide +kernel)
set_option maxRecDepth 65536 in
theorem w_c14 : (Jvm.Cond.code ({ cls := "java/lang/StringLatin1", name := "charAt", desc := "([BI)C" } : Jvm.MethodName) jdk_43_method_2_code (2 : Nat) (Option.some Jvm.ClassFile.FieldType.char)).before args0 about1 = true := code_word (m := ⟨11, 1⟩) (meth := k11m1) (c := k11c1) (by decide +kernel) rfl rfl rfl (by decide +kernel)
set_option maxRecDepth 65536 in
theorem w_c15 : (Jvm.Cond.code ({ cls := "java/lang/String", name := "checkIndex", desc := "(II)V" } : Jvm.MethodName) jdk_42_method_155_code (2 : Nat) (Option.none : Option Jvm.ClassFile.FieldType)).before args0 about1 = true := code_word (m := ⟨7, 8⟩) (meth := k7m8) (c := k7c8) (by decide +kernel) rfl rfl rfl (by decide +kernel)
set_option maxRecDepth 65536 in
theorem w_c16 : (Jvm.Cond.code ({ cls := "jdk/internal/util/Preconditions", name := "checkIndex", desc := "(IILjava/util/function/BiFunction;)I" } : Jvm.MethodName) jdk_41_method_11_code (3 : Nat) (Option.some Jvm.ClassFile.FieldType.int)).before args0 about1 = true := code_word (m := ⟨12, 1⟩) (meth := k12m1) (c := k12c1) (by decide +kernel) rfl rfl rfl (by decide +kernel)
set_option maxRecDepth 65536 in
theorem w_c17 : (Jvm.Cond.code ({ cls := "java/lang/StringUTF16", name := "toBytes", desc := "([CII)[B" } : Jvm.MethodName) jdk_52_method_14_code (5 : Nat) (Option.some (Jvm.ClassFile.FieldType.array Jvm.ClassFile.FieldType.byte))).before args0 about1 = true := code_word (m := ⟨10, 6⟩) (meth := k10m6) (c := k10c6) (by decide +kernel) rfl rfl rfl (by decide +kernel)
set_option maxRecDepth 65536 in
theorem w_c18 : (Jvm.Cond.code ({ cls := "java/lang/StringUTF16", name := "newBytesFor", desc := "(I)[B" } : Jvm.MethodName) jdk_52_method_2_code (1 : Nat) (Option.some (Jvm.ClassFile.FieldType.array Jvm.ClassFile.FieldType.byte))).before args0 about1 = true := code_word (m := ⟨10, 1⟩) (meth := k10m1) (c := k10c1) (by decide +kernel) rfl rfl rfl (by decide +kernel)
set_option maxRecDepth 65536 in
theorem w_c19 : (Jvm.Cond.code ({ cls := "java/lang/StringUTF16", name := "newBytesLength", desc := "(I)I" } : Jvm.MethodName) jdk_52_method_3_code (1 : Nat) (Option.some Jvm.ClassFile.FieldType.int)).before args0 about1 = true := code_word (m := ⟨10, 2⟩) (meth := k10m2) (c := k10c2) (by decide +kernel) rfl rfl rfl (by decide +kernel)
set_option maxRecDepth 65536 in
theorem w_c20 : (Jvm.Cond.code ({ cls := "java/lang/StringUTF16", name := "putChar", desc := "([BII)V" } : Jvm.MethodName) jdk_52_method_4_code (3 : Nat) (Option.none : Option Jvm.ClassFile.FieldType)).before args0 about1 = true := code_word (m := ⟨10, 3⟩) (meth := k10m3) (c := k10c3) (by decide +kernel) rfl rfl rfl (by decide +kernel)
set_option maxRecDepth 65536 in
theorem w_c21 : (Jvm.Cond.code ({ cls := "java/lang/StringUTF16", name := "getChar", desc := "([BI)C" } : Jvm.MethodName) jdk_52_method_5_code (2 : Nat) (Option.some Jvm.ClassFile.FieldType.char)).before args0 about1 = true := code_word (m := ⟨10, 4⟩) (meth := k10m4) (c := k10c4) (by decide +kernel) rfl rfl rfl (by decide +kernel)
set_option maxRecDepth 65536 in
theorem w_c22 : (Jvm.Cond.code ({ cls := "java/lang/StringUTF16", name := "charAt", desc := "([BI)C" } : Jvm.MethodName) jdk_52_method_83_code (2 : Nat) (Option.some Jvm.ClassFile.FieldType.char)).before args0 about1 = true := code_word (m := ⟨10, 10⟩) (meth := k10m10) (c := k10c10) (by decide +kernel) rfl rfl rfl (by decide +kernel)
set_option maxRecDepth 65536 in
theorem w_c23 : (Jvm.Cond.code ({ cls := "java/lang/StringUTF16", name := "checkIndex", desc := "(I[B)V" } : Jvm.MethodName) jdk_52_method_91_code (2 : Nat) (Option.none : Option Jvm.ClassFile.FieldType)).before args0 about1 = true := code_word (m := ⟨10, 11⟩) (meth := k10m11) (c := k10c11) (by decide +kernel) rfl rfl rfl (by decide +kernel)
set_option maxRecDepth 65536 in
theorem w_c24 : (Jvm.Cond.code ({ cls := "java/lang/StringUTF16", name := "length", desc := "([B)I" } : Jvm.MethodName) jdk_52_method_6_code (1 : Nat) (Option.some Jvm.ClassFile.FieldType.int)).before args0 about1 = true := code_word (m := ⟨10, 5⟩) (meth := k10m5) (c := k10c5) (by decide +kernel) rfl rfl rfl (by decide +kernel)
def codes1 : List Jvm.Cond := [Jvm.Cond.code x code maxLocals ret, Jvm.Cond.code ({ cls := "java/lang/String", name := "<init>", desc := "([C)V" } : Jvm.MethodName) jdk_42_method_3_code (2 : Nat) (Option.none : Option Jvm.ClassFile.FieldType), Jvm.Cond.code ({ cls := "java/lang/String", name := "<init>", desc := "([CIILjava/lang/Void;)V" } : Jvm.MethodName) jdk_42_method_149_code (6 : Nat) (Option.none : Option Jvm.ClassFile.FieldType), Jvm.Cond.code ({ cls := "java/lang/Object", name := "<init>", desc := "()V" } : Jvm.MethodName) object_method_1_code (1 : Nat) (Option.none : Option Jvm.ClassFile.FieldType), Jvm.Cond.code ({ cls := "com/example/redelivery/redelivery/Classification", name := "isReasonCode", desc := "(Ljava/lang/String;)Z" } : Jvm.MethodName) prog_1_method_3_code (4 : Nat) (Option.some Jvm.ClassFile.FieldType.boolean), Jvm.Cond.code ({ cls := "java/lang/String", name := "isEmpty", desc := "()Z" } : Jvm.MethodName) jdk_42_method_55_code (1 : Nat) (Option.some Jvm.ClassFile.FieldType.boolean), Jvm.Cond.code ({ cls := "java/lang/StringUTF16", name := "compress", desc := "([CII)[B" } : Jvm.MethodName) jdk_52_method_16_code (6 : Nat) (Option.some (Jvm.ClassFile.FieldType.array Jvm.ClassFile.FieldType.byte)), Jvm.Cond.code ({ cls := "java/lang/StringUTF16", name := "compress", desc := "([CI[BII)I" } : Jvm.MethodName) jdk_52_method_21_code (7 : Nat) (Option.some Jvm.ClassFile.FieldType.int), Jvm.Cond.code ({ cls := "java/lang/StringUTF16", name := "coderFromArrayLen", desc := "([BI)B" } : Jvm.MethodName) jdk_52_method_15_code (2 : Nat) (Option.some Jvm.ClassFile.FieldType.byte), Jvm.Cond.code ({ cls := "com/example/redelivery/redelivery/ClassificationIsReasonCodePinLaw", name := "ok", desc := "(C)Z" } : Jvm.MethodName) method_3_code (1 : Nat) (Option.some Jvm.ClassFile.FieldType.boolean), Jvm.Cond.code ({ cls := "java/lang/String", name := "length", desc := "()I" } : Jvm.MethodName) jdk_42_method_54_code (1 : Nat) (Option.some Jvm.ClassFile.FieldType.int), Jvm.Cond.code ({ cls := "java/lang/String", name := "coder", desc := "()B" } : Jvm.MethodName) jdk_42_method_152_code (1 : Nat) (Option.some Jvm.ClassFile.FieldType.byte), Jvm.Cond.code ({ cls := "java/lang/String", name := "charAt", desc := "(I)C" } : Jvm.MethodName) jdk_42_method_56_code (2 : Nat) (Option.some Jvm.ClassFile.FieldType.char), Jvm.Cond.code ({ cls := "java/lang/String", name := "isLatin1", desc := "()Z" } : Jvm.MethodName) jdk_42_method_154_code (1 : Nat) (Option.some Jvm.ClassFile.FieldType.boolean), Jvm.Cond.code ({ cls := "java/lang/StringLatin1", name := "charAt", desc := "([BI)C" } : Jvm.MethodName) jdk_43_method_2_code (2 : Nat) (Option.some Jvm.ClassFile.FieldType.char), Jvm.Cond.code ({ cls := "java/lang/String", name := "checkIndex", desc := "(II)V" } : Jvm.MethodName) jdk_42_method_155_code (2 : Nat) (Option.none : Option Jvm.ClassFile.FieldType), Jvm.Cond.code ({ cls := "jdk/internal/util/Preconditions", name := "checkIndex", desc := "(IILjava/util/function/BiFunction;)I" } : Jvm.MethodName) jdk_41_method_11_code (3 : Nat) (Option.some Jvm.ClassFile.FieldType.int), Jvm.Cond.code ({ cls := "java/lang/StringUTF16", name := "toBytes", desc := "([CII)[B" } : Jvm.MethodName) jdk_52_method_14_code (5 : Nat) (Option.some (Jvm.ClassFile.FieldType.array Jvm.ClassFile.FieldType.byte)), Jvm.Cond.code ({ cls := "java/lang/StringUTF16", name := "newBytesFor", desc := "(I)[B" } : Jvm.MethodName) jdk_52_method_2_code (1 : Nat) (Option.some (Jvm.ClassFile.FieldType.array Jvm.ClassFile.FieldType.byte)), Jvm.Cond.code ({ cls := "java/lang/StringUTF16", name := "newBytesLength", desc := "(I)I" } : Jvm.MethodName) jdk_52_method_3_code (1 : Nat) (Option.some Jvm.ClassFile.FieldType.int), Jvm.Cond.code ({ cls := "java/lang/StringUTF16", name := "putChar", desc := "([BII)V" } : Jvm.MethodName) jdk_52_method_4_code (3 : Nat) (Option.none : Option Jvm.ClassFile.FieldType), Jvm.Cond.code ({ cls := "java/lang/StringUTF16", name := "getChar", desc := "([BI)C" } : Jvm.MethodName) jdk_52_method_5_code (2 : Nat) (Option.some Jvm.ClassFile.FieldType.char), Jvm.Cond.code ({ cls := "java/lang/StringUTF16", name := "charAt", desc := "([BI)C" } : Jvm.MethodName) jdk_52_method_83_code (2 : Nat) (Option.some Jvm.ClassFile.FieldType.char), Jvm.Cond.code ({ cls := "java/lang/StringUTF16", name := "checkIndex", desc := "(I[B)V" } : Jvm.MethodName) jdk_52_method_91_code (2 : Nat) (Option.none : Option Jvm.ClassFile.FieldType), Jvm.Cond.code ({ cls := "java/lang/StringUTF16", name := "length", desc := "([B)I" } : Jvm.MethodName) jdk_52_method_6_code (1 : Nat) (Option.some Jvm.ClassFile.FieldType.int)]
set_option maxRecDepth 65536 in
theorem codes_eq : words1.filter isCode = codes1 := rfl
theorem w_codes : ∀ c ∈ words1.filter isCode, c.before args0 about1 = true := by
  rw [codes_eq]
  intro c hc
  simp only [codes1, List.mem_cons, List.not_mem_nil, or_false] at hc
  rcases hc with rfl | rfl | rfl | rfl | rfl | rfl | rfl | rfl | rfl | rfl | rfl | rfl | rfl | rfl | rfl | rfl | rfl | rfl | rfl | rfl | rfl | rfl | rfl | rfl | rfl
  · exact w_c0
  · exact w_c1
  · exact w_c2
  · exact w_c3
  · exact w_c4
  · exact w_c5
  · exact w_c6
  · exact w_c7
  · exact w_c8
  · exact w_c9
  · exact w_c10
  · exact w_c11
  · exact w_c12
  · exact w_c13
  · exact w_c14
  · exact w_c15
  · exact w_c16
  · exact w_c17
  · exact w_c18
  · exact w_c19
  · exact w_c20
  · exact w_c21
  · exact w_c22
  · exact w_c23
  · exact w_c24
set_option maxRecDepth 65536 in
theorem w_t1 : (words1.take 24).all (fun c => isCode c || c.before args0 about1) = true := by decide +kernel
set_option maxRecDepth 65536 in
theorem w_t2 : ((words1.drop 24).take 24).all (fun c => isCode c || c.before args0 about1) = true := by decide +kernel
set_option maxRecDepth 65536 in
theorem w_t3 : (((words1.drop 24).drop 24).take 24).all (fun c => isCode c || c.before args0 about1) = true := by decide +kernel
set_option maxRecDepth 65536 in
theorem w_t4 : ((((words1.drop 24).drop 24).drop 24).take 24).all (fun c => isCode c || c.before args0 about1) = true := by decide +kernel
set_option maxRecDepth 65536 in
theorem w_t5 : ((((words1.drop 24).drop 24).drop 24).drop 24).all (fun c => isCode c || c.before args0 about1) = true := by decide +kernel
theorem w_tables : (allAtoms (Jvm.Cond.code x code maxLocals ret :: tables_1)).before args0 about1 = true := by
  rw [allAtoms_all]
  show words1.all (fun c => c.before args0 about1) = true
  refine all_split ?_ w_codes
  rw [← List.take_append_drop 24 words1, List.all_append, w_t1, ← List.take_append_drop 24 (words1.drop 24), List.all_append, w_t2, ← List.take_append_drop 24 ((words1.drop 24).drop 24), List.all_append, w_t3, ← List.take_append_drop 24 (((words1.drop 24).drop 24).drop 24), List.all_append, w_t4, w_t5]
  rfl
set_option maxRecDepth 65536 in
theorem w_rest : rest_1_c.before args0 about1 = true := by decide +kernel
set_option maxRecDepth 65536 in
theorem w_case : (Jvm.Cond.and given_1 narrow_1).before args0 about1 = true := by decide +kernel
set_option maxRecDepth 65536 in
theorem w_consts : constsHeld consts_1 about1 := Jvm.Lit.constsHeldB_iff.mp (by decide +kernel)
theorem w_applies : (headSpec (Jvm.Cond.code x code maxLocals ret :: tables_1) room_1).applies x e0.platform about1 = true :=
  (Spec.applies_iff w_frames).mpr ⟨w_running, w_runnable, w_alone, w_named, w_hears, w_ripe, w_room, w_tables⟩
theorem atStart : AtStart classFile x code maxLocals ret World_1 tables_1 room_1 Calls_1 rest_1 Pre_1 launch0 p0 e0 about1 theMethod args0 below0 :=
  ⟨lists_1, trivial, launch0.admits_env _ _ _, launch0.least_env, fairChoices_fair.cas, fairChoices_fair.clock, w_frames, w_args, w_heap, w_applies, ⟨w_consts, trivial⟩, w_rest, w_case⟩
end start1
theorem witness_1 : WitnessClaimed_1 := ⟨start1.p0, start1.e0, start1.about1, start1.theMethod, start1.args0, start1.below0, start1.atStart⟩
end Jvm.Pilot.@@N@@
