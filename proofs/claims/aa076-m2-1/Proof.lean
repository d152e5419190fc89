import JvmDerived
import JvmDerived.Pilot.@@N@@Statement
import JvmDerived.Pilot.@@N@@Code
set_option linter.unusedVariables false
set_option linter.unusedSimpArgs false
namespace Jvm.Pilot.@@N@@
namespace Own
open Jvm Jvm.ClassFile Sem Op Lib Jvm.Free Jvm.Stand Jvm.LawKit Jvm.RoadKit
/-! A WALK READ FORWARDS. 'Owe .. G T g': from the state T with the frame g on top the invocation comes back, and G holds of what it leaves. Each step's rule asks what is owed behind the step. -/
def Owe (tb : Tables) (e : Env) (below : List Frame) (G : Outcome → State → Prop) (T : State) (g : JFrame) : Prop := ∃ u o, Steps tb e below (T.setTop g) u ∧ u.status = .running ∧ Ended u below o ∧ G o u
theorem Owe.by {tb : Tables} {e : Env} {below : List Frame} {G : Outcome → State → Prop} {T T' : State} {g g' : JFrame} (k : ∀ t, Steps tb e below (T'.setTop g') t → Steps tb e below (T.setTop g) t) (h : Owe tb e below G T' g') : Owe tb e below G T g := by
  obtain ⟨u, o, h1, h2⟩ := h
  exact ⟨u, o, k _ h1, h2⟩
theorem Owe.cast {tb : Tables} {e : Env} {below : List Frame} {G : Outcome → State → Prop} {T : State} {g g' : JFrame} (q : g = g') (h : Owe tb e below G T g') : Owe tb e below G T g := q ▸ h
section Plain
variable {tb : Tables} [Ours tb] {e : Env} {below : List Frame} {G : Outcome → State → Prop} {T : State} {m : MethodId} {c : Code} {pc : Nat} {Ls : Array Slot} {st : List Value}
theorem Owe.aloadN (h : At T m c below) (hx : tb.exec = Jvm.exec) {k : Fin 4} {v : Value} (hd : decode c.code pc = .ok (.aload_n k, 1)) (hl : Ls[k.val]? = some (.val v)) (hv : v.isRef = true) (go : Owe tb e below G T (mkF m (pc + 1) Ls (v :: st))) : Owe tb e below G T (mkF m pc Ls st) := Owe.by (fun t k => XS.aloadN h hx rfl hd hl hv k) go
theorem Owe.aload (h : At T m c below) (hx : tb.exec = Jvm.exec) {k : Nat} {v : Value} (hd : decode c.code pc = .ok (.aload k, 2)) (hl : Ls[k]? = some (.val v)) (hv : v.isRef = true) (go : Owe tb e below G T (mkF m (pc + 2) Ls (v :: st))) : Owe tb e below G T (mkF m pc Ls st) := Owe.by (fun t k => XS.aload h hx rfl hd hl hv k) go
theorem Owe.iloadN (h : At T m c below) (hx : tb.exec = Jvm.exec) {k : Fin 4} {v : Int32} (hd : decode c.code pc = .ok (.iload_n k, 1)) (hl : Ls[k.val]? = some (.val (.int v))) (go : Owe tb e below G T (mkF m (pc + 1) Ls (.int v :: st))) : Owe tb e below G T (mkF m pc Ls st) := Owe.by (fun t k => XS.iloadN h hx rfl hd hl k) go
theorem Owe.iload (h : At T m c below) (hx : tb.exec = Jvm.exec) {k : Nat} {v : Int32} (hd : decode c.code pc = .ok (.iload k, 2)) (hl : Ls[k]? = some (.val (.int v))) (go : Owe tb e below G T (mkF m (pc + 2) Ls (.int v :: st))) : Owe tb e below G T (mkF m pc Ls st) := Owe.by (fun t k => XS.iload h hx rfl hd hl k) go
theorem Owe.iconst (h : At T m c below) (hx : tb.exec = Jvm.exec) {i : Int} (hd : decode c.code pc = .ok (.iconst i, 1)) {w : Int32} (hw : (Int32.ofInt i) = w) (go : Owe tb e below G T (mkF m (pc + 1) Ls (.int w :: st))) : Owe tb e below G T (mkF m pc Ls st) := by subst hw; exact Owe.by (fun t k => XS.iconst h hx rfl hd k) go
theorem Owe.bipush (h : At T m c below) (hx : tb.exec = Jvm.exec) {i : Int} (hd : decode c.code pc = .ok (.bipush i, 2)) {w : Int32} (hw : (Int8.ofInt i).toInt32 = w) (go : Owe tb e below G T (mkF m (pc + 2) Ls (.int w :: st))) : Owe tb e below G T (mkF m pc Ls st) := by subst hw; exact Owe.by (fun t k => XS.bipush h hx rfl hd k) go
theorem Owe.sipush (h : At T m c below) (hx : tb.exec = Jvm.exec) {i : Int} (hd : decode c.code pc = .ok (.sipush i, 3)) {w : Int32} (hw : (Int16.ofInt i).toInt32 = w) (go : Owe tb e below G T (mkF m (pc + 3) Ls (.int w :: st))) : Owe tb e below G T (mkF m pc Ls st) := by subst hw; exact Owe.by (fun t k => XS.sipush h hx rfl hd k) go
theorem Owe.aconstNull (h : At T m c below) (hx : tb.exec = Jvm.exec) (hd : decode c.code pc = .ok (.aconst_null, 1)) (go : Owe tb e below G T (mkF m (pc + 1) Ls (.null :: st))) : Owe tb e below G T (mkF m pc Ls st) := Owe.by (fun t k => XS.aconstNull h hx rfl hd k) go
theorem Owe.iadd (h : At T m c below) (hx : tb.exec = Jvm.exec) {x y : Int32} {rest : List Value} (hd : decode c.code pc = .ok (.iadd, 1)) (hs : st = .int y :: .int x :: rest) (go : Owe tb e below G T (mkF m (pc + 1) Ls (.int (x + y) :: rest))) : Owe tb e below G T (mkF m pc Ls st) := Owe.by (fun t k => XS.iadd h hx rfl hd hs k) go
theorem Owe.isub (h : At T m c below) (hx : tb.exec = Jvm.exec) {x y : Int32} {rest : List Value} (hd : decode c.code pc = .ok (.isub, 1)) (hs : st = .int y :: .int x :: rest) (go : Owe tb e below G T (mkF m (pc + 1) Ls (.int (x - y) :: rest))) : Owe tb e below G T (mkF m pc Ls st) := Owe.by (fun t k => XS.isub h hx rfl hd hs k) go
theorem Owe.imul (h : At T m c below) (hx : tb.exec = Jvm.exec) {x y : Int32} {rest : List Value} (hd : decode c.code pc = .ok (.imul, 1)) (hs : st = .int y :: .int x :: rest) (go : Owe tb e below G T (mkF m (pc + 1) Ls (.int (x * y) :: rest))) : Owe tb e below G T (mkF m pc Ls st) := Owe.by (fun t k => XS.imul h hx rfl hd hs k) go
theorem Owe.iand (h : At T m c below) (hx : tb.exec = Jvm.exec) {x y : Int32} {rest : List Value} (hd : decode c.code pc = .ok (.iand, 1)) (hs : st = .int y :: .int x :: rest) (go : Owe tb e below G T (mkF m (pc + 1) Ls (.int (x &&& y) :: rest))) : Owe tb e below G T (mkF m pc Ls st) := Owe.by (fun t k => XS.iand h hx rfl hd hs k) go
theorem Owe.ior (h : At T m c below) (hx : tb.exec = Jvm.exec) {x : Int32} {y : Int32} {rest : List Value} (hd : decode c.code pc = .ok (.ior, 1)) (hs : st = .int y :: .int x :: rest) (go : Owe tb e below G T (mkF m (pc + 1) Ls (.int (x ||| y) :: rest))) : Owe tb e below G T (mkF m pc Ls st) := Owe.by (fun t k => XS.ior h hx rfl hd hs k) go
theorem Owe.ixor (h : At T m c below) (hx : tb.exec = Jvm.exec) {x : Int32} {y : Int32} {rest : List Value} (hd : decode c.code pc = .ok (.ixor, 1)) (hs : st = .int y :: .int x :: rest) (go : Owe tb e below G T (mkF m (pc + 1) Ls (.int (x ^^^ y) :: rest))) : Owe tb e below G T (mkF m pc Ls st) := Owe.by (fun t k => XS.ixor h hx rfl hd hs k) go
theorem Owe.ishl (h : At T m c below) (hx : tb.exec = Jvm.exec) {x : Int32} {y : Int32} {rest : List Value} (hd : decode c.code pc = .ok (.ishl, 1)) (hs : st = .int y :: .int x :: rest) (go : Owe tb e below G T (mkF m (pc + 1) Ls (.int (x <<< (y &&& 31)) :: rest))) : Owe tb e below G T (mkF m pc Ls st) := Owe.by (fun t k => XS.ishl h hx rfl hd hs k) go
theorem Owe.ishr (h : At T m c below) (hx : tb.exec = Jvm.exec) {x : Int32} {y : Int32} {rest : List Value} (hd : decode c.code pc = .ok (.ishr, 1)) (hs : st = .int y :: .int x :: rest) (go : Owe tb e below G T (mkF m (pc + 1) Ls (.int (x >>> (y &&& 31)) :: rest))) : Owe tb e below G T (mkF m pc Ls st) := Owe.by (fun t k => XS.ishr h hx rfl hd hs k) go
theorem Owe.iushr (h : At T m c below) (hx : tb.exec = Jvm.exec) {x : Int32} {y : Int32} {rest : List Value} (hd : decode c.code pc = .ok (.iushr, 1)) (hs : st = .int y :: .int x :: rest) (go : Owe tb e below G T (mkF m (pc + 1) Ls (.int ((x.toUInt32 >>> (y &&& 31).toUInt32).toInt32) :: rest))) : Owe tb e below G T (mkF m pc Ls st) := Owe.by (fun t k => XS.iushr h hx rfl hd hs k) go
theorem Owe.irem (h : At T m c below) (hx : tb.exec = Jvm.exec) {x y : Int32} {rest : List Value} (hd : decode c.code pc = .ok (.irem, 1)) (hs : st = .int y :: .int x :: rest) (hy : y ≠ 0) (go : Owe tb e below G T (mkF m (pc + 1) Ls (.int (x - (x / y) * y) :: rest))) : Owe tb e below G T (mkF m pc Ls st) := Owe.by (fun t k => XS.irem h hx rfl hd hs hy k) go
theorem Owe.idiv (h : At T m c below) (hx : tb.exec = Jvm.exec) {x y : Int32} {rest : List Value} (hd : decode c.code pc = .ok (.idiv, 1)) (hs : st = .int y :: .int x :: rest) (hy : y ≠ 0) (go : Owe tb e below G T (mkF m (pc + 1) Ls (.int (x / y) :: rest))) : Owe tb e below G T (mkF m pc Ls st) := Owe.by (fun t k => XS.idiv h hx rfl hd hs hy k) go
theorem Owe.ineg (h : At T m c below) (hx : tb.exec = Jvm.exec) {x : Int32} {rest : List Value} (hd : decode c.code pc = .ok (.ineg, 1)) (hs : st = .int x :: rest) (go : Owe tb e below G T (mkF m (pc + 1) Ls (.int (-x) :: rest))) : Owe tb e below G T (mkF m pc Ls st) := Owe.by (fun t k => XS.ineg h hx rfl hd hs k) go
theorem Owe.iinc (h : At T m c below) (hx : tb.exec = Jvm.exec) {k : Nat} {cst : Int} {x : Int32} {l' : Array Slot} (hd : decode c.code pc = .ok (.iinc k cst, 3)) (hl : Ls[k]? = some (.val (.int x))) (hl' : storeLocals Ls k (.int (x + Int32.ofInt cst)) = some l') (go : Owe tb e below G T (mkF m (pc + 3) l' st)) : Owe tb e below G T (mkF m pc Ls st) := Owe.by (fun t k => XS.iinc h hx rfl hd hl hl' k) go
theorem Owe.dup (h : At T m c below) (hx : tb.exec = Jvm.exec) {x : Value} {rest : List Value} (hd : decode c.code pc = .ok (.dup, 1)) (hs : st = x :: rest) (hc : x.category = 1) (go : Owe tb e below G T (mkF m (pc + 1) Ls (x :: x :: rest))) : Owe tb e below G T (mkF m pc Ls st) := Owe.by (fun t k => XS.dup h hx rfl hd hs hc k) go
theorem Owe.pop (h : At T m c below) (hx : tb.exec = Jvm.exec) {x : Value} {rest : List Value} (hd : decode c.code pc = .ok (.pop, 1)) (hs : st = x :: rest) (hc : x.category = 1) (go : Owe tb e below G T (mkF m (pc + 1) Ls rest)) : Owe tb e below G T (mkF m pc Ls st) := Owe.by (fun t k => XS.pop h hx rfl hd hs hc k) go
theorem Owe.dupX1 (h : At T m c below) (hx : tb.exec = Jvm.exec) {x y : Value} {rest : List Value} (hd : decode c.code pc = .ok (.dup_x1, 1)) (hs : st = x :: y :: rest) (hc : x.category = 1) (hc2 : y.category = 1) (go : Owe tb e below G T (mkF m (pc + 1) Ls (x :: y :: x :: rest))) : Owe tb e below G T (mkF m pc Ls st) := Owe.by (fun t k => XS.dupX1 h hx rfl hd hs hc hc2 k) go
theorem Owe.dup2 (h : At T m c below) (hx : tb.exec = Jvm.exec) {x y : Value} {rest : List Value} (hd : decode c.code pc = .ok (.dup2, 1)) (hs : st = x :: y :: rest) (hc : x.category = 1) (hc' : y.category = 1) (go : Owe tb e below G T (mkF m (pc + 1) Ls (x :: y :: x :: y :: rest))) : Owe tb e below G T (mkF m pc Ls st) := Owe.by (fun t k => Jvm.Free.XT.dup2 h hx rfl hd hs hc hc' k) go
theorem Owe.istoreN (h : At T m c below) (hx : tb.exec = Jvm.exec) {k : Fin 4} {x : Int32} {rest : List Value} {l' : Array Slot} (hd : decode c.code pc = .ok (.istore_n k, 1)) (hs : st = .int x :: rest) (hl : storeLocals Ls k.val (.int x) = some l') (go : Owe tb e below G T (mkF m (pc + 1) l' rest)) : Owe tb e below G T (mkF m pc Ls st) := Owe.by (fun t k => XS.istoreN h hx rfl hd hs hl k) go
theorem Owe.istore (h : At T m c below) (hx : tb.exec = Jvm.exec) {k : Nat} {x : Int32} {rest : List Value} {l' : Array Slot} (hd : decode c.code pc = .ok (.istore k, 2)) (hs : st = .int x :: rest) (hl : storeLocals Ls k (.int x) = some l') (go : Owe tb e below G T (mkF m (pc + 2) l' rest)) : Owe tb e below G T (mkF m pc Ls st) := Owe.by (fun t k => XS.istore h hx rfl hd hs hl k) go
theorem Owe.astoreN (h : At T m c below) (hx : tb.exec = Jvm.exec) {k : Fin 4} {x : Value} {rest : List Value} {l' : Array Slot} (hd : decode c.code pc = .ok (.astore_n k, 1)) (hs : st = x :: rest) (hv : x.isRef = true) (hl : storeLocals Ls k.val x = some l') (go : Owe tb e below G T (mkF m (pc + 1) l' rest)) : Owe tb e below G T (mkF m pc Ls st) := Owe.by (fun t k => XS.astoreN h hx rfl hd hs hv hl k) go
theorem Owe.astore (h : At T m c below) (hx : tb.exec = Jvm.exec) {k : Nat} {x : Value} {rest : List Value} {l' : Array Slot} (hd : decode c.code pc = .ok (.astore k, 2)) (hs : st = x :: rest) (hv : x.isRef = true) (hl : storeLocals Ls k x = some l') (go : Owe tb e below G T (mkF m (pc + 2) l' rest)) : Owe tb e below G T (mkF m pc Ls st) := Owe.by (fun t k => XS.astore h hx rfl hd hs hv hl k) go
theorem Owe.goto (h : At T m c below) (hx : tb.exec = Jvm.exec) {o : Int} {pc' : Nat}  (hd : decode c.code pc = .ok (.goto o, 3)) (ho : 0 ≤ (pc : Int) + o) (hp : ((pc : Int) + o).toNat = pc') (go : Owe tb e below G T (mkF m pc' Ls st)) : Owe tb e below G T (mkF m pc Ls st) := Owe.by (fun t k => XS.goto h hx rfl rfl hd ho hp k) go
theorem Owe.ifYes (h : At T m c below) (hx : tb.exec = Jvm.exec) {cd : ClassFile.Cond} {x : Int32} {rest : List Value} {o : Int} {pc' : Nat}  (hd : decode c.code pc = .ok (.ifCond cd o, 3)) (hs : st = .int x :: rest) (hc : ifCond.holds cd x = true) (ho : 0 ≤ (pc : Int) + o) (hp : ((pc : Int) + o).toNat = pc') (go : Owe tb e below G T (mkF m pc' Ls rest)) : Owe tb e below G T (mkF m pc Ls st) := Owe.by (fun t k => XS.ifYes h hx rfl rfl hd hs hc ho hp k) go
theorem Owe.ifNo (h : At T m c below) (hx : tb.exec = Jvm.exec) {cd : ClassFile.Cond} {o : Int} {x : Int32} {rest : List Value} (hd : decode c.code pc = .ok (.ifCond cd o, 3)) (hs : st = .int x :: rest) (hc : ifCond.holds cd x = false) (go : Owe tb e below G T (mkF m (pc + 3) Ls rest)) : Owe tb e below G T (mkF m pc Ls st) := Owe.by (fun t k => XS.ifNo h hx rfl hd hs hc k) go
theorem Owe.icmpYes (h : At T m c below) (hx : tb.exec = Jvm.exec) {cd : ClassFile.Cond} {x y : Int32} {rest : List Value} {o : Int} {pc' : Nat}  (hd : decode c.code pc = .ok (.if_icmp cd o, 3)) (hs : st = .int y :: .int x :: rest) (hc : if_icmp.holds cd x y = true) (ho : 0 ≤ (pc : Int) + o) (hp : ((pc : Int) + o).toNat = pc') (go : Owe tb e below G T (mkF m pc' Ls rest)) : Owe tb e below G T (mkF m pc Ls st) := Owe.by (fun t k => XS.icmpYes h hx rfl rfl hd hs hc ho hp k) go
theorem Owe.icmpNo (h : At T m c below) (hx : tb.exec = Jvm.exec) {cd : ClassFile.Cond} {o : Int} {x y : Int32} {rest : List Value} (hd : decode c.code pc = .ok (.if_icmp cd o, 3)) (hs : st = .int y :: .int x :: rest) (hc : if_icmp.holds cd x y = false) (go : Owe tb e below G T (mkF m (pc + 3) Ls rest)) : Owe tb e below G T (mkF m pc Ls st) := Owe.by (fun t k => XS.icmpNo h hx rfl hd hs hc k) go
theorem Owe.ifnullYes (h : At T m c below) (hx : tb.exec = Jvm.exec) {rest : List Value} {o : Int} {pc' : Nat}  (hd : decode c.code pc = .ok (.ifnull o, 3)) (hs : st = .null :: rest) (ho : 0 ≤ (pc : Int) + o) (hp : ((pc : Int) + o).toNat = pc') (go : Owe tb e below G T (mkF m pc' Ls rest)) : Owe tb e below G T (mkF m pc Ls st) := Owe.by (fun t k => XS.ifnullYes h hx rfl rfl hd hs ho hp k) go
theorem Owe.ifnullNo (h : At T m c below) (hx : tb.exec = Jvm.exec) {o : Int} {b : Addr} {rest : List Value} (hd : decode c.code pc = .ok (.ifnull o, 3)) (hs : st = .ref b :: rest) (go : Owe tb e below G T (mkF m (pc + 3) Ls rest)) : Owe tb e below G T (mkF m pc Ls st) := Owe.by (fun t k => XS.ifnullNo h hx rfl hd hs k) go
theorem Owe.ifnonnullYes (h : At T m c below) (hx : tb.exec = Jvm.exec) {b : Addr} {rest : List Value} {o : Int} {pc' : Nat}  (hd : decode c.code pc = .ok (.ifnonnull o, 3)) (hs : st = .ref b :: rest) (ho : 0 ≤ (pc : Int) + o) (hp : ((pc : Int) + o).toNat = pc') (go : Owe tb e below G T (mkF m pc' Ls rest)) : Owe tb e below G T (mkF m pc Ls st) := Owe.by (fun t k => XS.ifnonnullYes h hx rfl rfl hd hs ho hp k) go
theorem Owe.ifnonnullNo (h : At T m c below) (hx : tb.exec = Jvm.exec) {o : Int} {rest : List Value} (hd : decode c.code pc = .ok (.ifnonnull o, 3)) (hs : st = .null :: rest) (go : Owe tb e below G T (mkF m (pc + 3) Ls rest)) : Owe tb e below G T (mkF m pc Ls st) := Owe.by (fun t k => XS.ifnonnullNo h hx rfl hd hs k) go
theorem Owe.acmpYes (h : At T m c below) (hx : tb.exec = Jvm.exec) {cd : ClassFile.ACond} {x y : Value} {rest : List Value} {o : Int} {pc' : Nat}  (hd : decode c.code pc = .ok (.if_acmp cd o, 3)) (hs : st = y :: x :: rest) (hx' : x.isRef = true) (hy' : y.isRef = true) (hc : Jvm.Free.XT.acmp cd x y = true) (ho : 0 ≤ (pc : Int) + o) (hp : ((pc : Int) + o).toNat = pc') (go : Owe tb e below G T (mkF m pc' Ls rest)) : Owe tb e below G T (mkF m pc Ls st) := Owe.by (fun t k => Jvm.Free.XT.acmpYes h hx rfl rfl hd hs hx' hy' hc ho hp k) go
theorem Owe.acmpNo (h : At T m c below) (hx : tb.exec = Jvm.exec) {cd : ClassFile.ACond} {o : Int} {x y : Value} {rest : List Value} (hd : decode c.code pc = .ok (.if_acmp cd o, 3)) (hs : st = y :: x :: rest) (hx' : x.isRef = true) (hy' : y.isRef = true) (hc : Jvm.Free.XT.acmp cd x y = false) (go : Owe tb e below G T (mkF m (pc + 3) Ls rest)) : Owe tb e below G T (mkF m pc Ls st) := Owe.by (fun t k => Jvm.Free.XT.acmpNo h hx rfl hd hs hx' hy' hc k) go
theorem Owe.ladd (h : At T m c below) (hx : tb.exec = Jvm.exec) {x : Int64} {y : Int64} {rest : List Value} (hd : decode c.code pc = .ok (.ladd, 1)) (hs : st = .long y :: .long x :: rest) (go : Owe tb e below G T (mkF m (pc + 1) Ls (.long (x + y) :: rest))) : Owe tb e below G T (mkF m pc Ls st) := Owe.by (fun t k => XS.ladd h hx rfl hd hs k) go
theorem Owe.lsub (h : At T m c below) (hx : tb.exec = Jvm.exec) {x : Int64} {y : Int64} {rest : List Value} (hd : decode c.code pc = .ok (.lsub, 1)) (hs : st = .long y :: .long x :: rest) (go : Owe tb e below G T (mkF m (pc + 1) Ls (.long (x - y) :: rest))) : Owe tb e below G T (mkF m pc Ls st) := Owe.by (fun t k => XS.lsub h hx rfl hd hs k) go
theorem Owe.lmul (h : At T m c below) (hx : tb.exec = Jvm.exec) {x : Int64} {y : Int64} {rest : List Value} (hd : decode c.code pc = .ok (.lmul, 1)) (hs : st = .long y :: .long x :: rest) (go : Owe tb e below G T (mkF m (pc + 1) Ls (.long (x * y) :: rest))) : Owe tb e below G T (mkF m pc Ls st) := Owe.by (fun t k => XS.lmul h hx rfl hd hs k) go
theorem Owe.land (h : At T m c below) (hx : tb.exec = Jvm.exec) {x : Int64} {y : Int64} {rest : List Value} (hd : decode c.code pc = .ok (.land, 1)) (hs : st = .long y :: .long x :: rest) (go : Owe tb e below G T (mkF m (pc + 1) Ls (.long (x &&& y) :: rest))) : Owe tb e below G T (mkF m pc Ls st) := Owe.by (fun t k => XS.land h hx rfl hd hs k) go
theorem Owe.lor (h : At T m c below) (hx : tb.exec = Jvm.exec) {x : Int64} {y : Int64} {rest : List Value} (hd : decode c.code pc = .ok (.lor, 1)) (hs : st = .long y :: .long x :: rest) (go : Owe tb e below G T (mkF m (pc + 1) Ls (.long (x ||| y) :: rest))) : Owe tb e below G T (mkF m pc Ls st) := Owe.by (fun t k => XS.lor h hx rfl hd hs k) go
theorem Owe.lxor (h : At T m c below) (hx : tb.exec = Jvm.exec) {x : Int64} {y : Int64} {rest : List Value} (hd : decode c.code pc = .ok (.lxor, 1)) (hs : st = .long y :: .long x :: rest) (go : Owe tb e below G T (mkF m (pc + 1) Ls (.long (x ^^^ y) :: rest))) : Owe tb e below G T (mkF m pc Ls st) := Owe.by (fun t k => XS.lxor h hx rfl hd hs k) go
theorem Owe.lshl (h : At T m c below) (hx : tb.exec = Jvm.exec) {x : Int64} {y : Int32} {rest : List Value} (hd : decode c.code pc = .ok (.lshl, 1)) (hs : st = .int y :: .long x :: rest) (go : Owe tb e below G T (mkF m (pc + 1) Ls (.long (x <<< (y &&& 0x3f).toInt64) :: rest))) : Owe tb e below G T (mkF m pc Ls st) := Owe.by (fun t k => XS.lshl h hx rfl hd hs k) go
theorem Owe.lshr (h : At T m c below) (hx : tb.exec = Jvm.exec) {x : Int64} {y : Int32} {rest : List Value} (hd : decode c.code pc = .ok (.lshr, 1)) (hs : st = .int y :: .long x :: rest) (go : Owe tb e below G T (mkF m (pc + 1) Ls (.long (x >>> (y &&& 0x3f).toInt64) :: rest))) : Owe tb e below G T (mkF m pc Ls st) := Owe.by (fun t k => XS.lshr h hx rfl hd hs k) go
theorem Owe.lushr (h : At T m c below) (hx : tb.exec = Jvm.exec) {x : Int64} {y : Int32} {rest : List Value} (hd : decode c.code pc = .ok (.lushr, 1)) (hs : st = .int y :: .long x :: rest) (go : Owe tb e below G T (mkF m (pc + 1) Ls (.long ((x.toUInt64 >>> (y &&& 0x3f).toInt64.toUInt64).toInt64) :: rest))) : Owe tb e below G T (mkF m pc Ls st) := Owe.by (fun t k => XS.lushr h hx rfl hd hs k) go
theorem Owe.lneg (h : At T m c below) (hx : tb.exec = Jvm.exec) {v : Int64} {rest : List Value} (hd : decode c.code pc = .ok (.lneg, 1)) (hs : st = .long v :: rest) (go : Owe tb e below G T (mkF m (pc + 1) Ls (.long (-v) :: rest))) : Owe tb e below G T (mkF m pc Ls st) := Owe.by (fun t k => XS.lneg h hx rfl hd hs k) go
theorem Owe.i2l (h : At T m c below) (hx : tb.exec = Jvm.exec) {v : Int32} {rest : List Value} (hd : decode c.code pc = .ok (.i2l, 1)) (hs : st = .int v :: rest) (go : Owe tb e below G T (mkF m (pc + 1) Ls (.long (v.toInt64) :: rest))) : Owe tb e below G T (mkF m pc Ls st) := Owe.by (fun t k => XS.i2l h hx rfl hd hs k) go
theorem Owe.l2i (h : At T m c below) (hx : tb.exec = Jvm.exec) {v : Int64} {rest : List Value} (hd : decode c.code pc = .ok (.l2i, 1)) (hs : st = .long v :: rest) (go : Owe tb e below G T (mkF m (pc + 1) Ls (.int (v.toInt32) :: rest))) : Owe tb e below G T (mkF m pc Ls st) := Owe.by (fun t k => XS.l2i h hx rfl hd hs k) go
theorem Owe.i2b (h : At T m c below) (hx : tb.exec = Jvm.exec) {v : Int32} {rest : List Value} (hd : decode c.code pc = .ok (.i2b, 1)) (hs : st = .int v :: rest) (go : Owe tb e below G T (mkF m (pc + 1) Ls (.int (v.toInt8.toInt32) :: rest))) : Owe tb e below G T (mkF m pc Ls st) := Owe.by (fun t k => XS.i2b h hx rfl hd hs k) go
theorem Owe.i2c (h : At T m c below) (hx : tb.exec = Jvm.exec) {v : Int32} {rest : List Value} (hd : decode c.code pc = .ok (.i2c, 1)) (hs : st = .int v :: rest) (go : Owe tb e below G T (mkF m (pc + 1) Ls (.int (v.toUInt32.toUInt16.toUInt32.toInt32) :: rest))) : Owe tb e below G T (mkF m pc Ls st) := Owe.by (fun t k => XS.i2c h hx rfl hd hs k) go
theorem Owe.i2s (h : At T m c below) (hx : tb.exec = Jvm.exec) {v : Int32} {rest : List Value} (hd : decode c.code pc = .ok (.i2s, 1)) (hs : st = .int v :: rest) (go : Owe tb e below G T (mkF m (pc + 1) Ls (.int (v.toInt16.toInt32) :: rest))) : Owe tb e below G T (mkF m pc Ls st) := Owe.by (fun t k => XS.i2s h hx rfl hd hs k) go
theorem Owe.lloadN (h : At T m c below) (hx : tb.exec = Jvm.exec) {k : Fin 4} {v : Int64} (hd : decode c.code pc = .ok (.lload_n k, 1)) (hl : Ls[k.val]? = some (.val (.long v))) (go : Owe tb e below G T (mkF m (pc + 1) Ls (.long v :: st))) : Owe tb e below G T (mkF m pc Ls st) := Owe.by (fun t k => XS.lloadN h hx rfl hd hl k) go
theorem Owe.lload (h : At T m c below) (hx : tb.exec = Jvm.exec) {k : Nat} {v : Int64} (hd : decode c.code pc = .ok (.lload k, 2)) (hl : Ls[k]? = some (.val (.long v))) (go : Owe tb e below G T (mkF m (pc + 2) Ls (.long v :: st))) : Owe tb e below G T (mkF m pc Ls st) := Owe.by (fun t k => XS.lload h hx rfl hd hl k) go
theorem Owe.lstoreN (h : At T m c below) (hx : tb.exec = Jvm.exec) {k : Fin 4} {x : Int64} {rest : List Value} {l' : Array Slot} (hd : decode c.code pc = .ok (.lstore_n k, 1)) (hs : st = .long x :: rest) (hl : storeLocals Ls k.val (.long x) = some l') (go : Owe tb e below G T (mkF m (pc + 1) l' rest)) : Owe tb e below G T (mkF m pc Ls st) := Owe.by (fun t k => XS.lstoreN h hx rfl hd hs hl k) go
theorem Owe.lstore (h : At T m c below) (hx : tb.exec = Jvm.exec) {k : Nat} {x : Int64} {rest : List Value} {l' : Array Slot} (hd : decode c.code pc = .ok (.lstore k, 2)) (hs : st = .long x :: rest) (hl : storeLocals Ls k (.long x) = some l') (go : Owe tb e below G T (mkF m (pc + 2) l' rest)) : Owe tb e below G T (mkF m pc Ls st) := Owe.by (fun t k => XS.lstore h hx rfl hd hs hl k) go
theorem Owe.lconst (h : At T m c below) (hx : tb.exec = Jvm.exec) {k : Fin 2} (hd : decode c.code pc = .ok (.lconst k, 1)) {w : Int64} (hw : (Int64.ofNat k) = w) (go : Owe tb e below G T (mkF m (pc + 1) Ls (.long w :: st))) : Owe tb e below G T (mkF m pc Ls st) := by subst hw; exact Owe.by (fun t k => XS.lconst h hx rfl hd k) go
theorem Owe.lcmp (h : At T m c below) (hx : tb.exec = Jvm.exec) {x y : Int64} {rest : List Value} (hd : decode c.code pc = .ok (.lcmp, 1)) (hs : st = .long y :: .long x :: rest) (go : Owe tb e below G T (mkF m (pc + 1) Ls (.int (lcmpW x y) :: rest))) : Owe tb e below G T (mkF m pc Ls st) := Owe.by (fun t k => XS.lcmp h hx rfl hd hs k) go
theorem Owe.tswIn (h : At T m c below) (hx : tb.exec = Jvm.exec) {dflt low high : Int} {offs : Array Int} {len : Nat} {o : Int} {pc' : Nat}  (hd : decode c.code pc = .ok (.tableswitch dflt low high offs, len)) {i : Int32} {rest : List Value} (hs : st = .int i :: rest) (hin : ¬ (i.toInt < low ∨ i.toInt > high)) (hoff : offs[(i.toInt - low).toNat]? = some o) (ho : 0 ≤ (pc : Int) + o) (hp : ((pc : Int) + o).toNat = pc') (go : Owe tb e below G T (mkF m pc' Ls rest)) : Owe tb e below G T (mkF m pc Ls st) := Owe.by (fun t k => XS.tswIn h hx rfl rfl hd hs hin hoff ho hp k) go
theorem Owe.tswOut (h : At T m c below) (hx : tb.exec = Jvm.exec) {dflt low high : Int} {offs : Array Int} {len : Nat} {pc' : Nat}  (hd : decode c.code pc = .ok (.tableswitch dflt low high offs, len)) {i : Int32} {rest : List Value} (hs : st = .int i :: rest) (hout : i.toInt < low ∨ i.toInt > high) (ho : 0 ≤ (pc : Int) + dflt) (hp : ((pc : Int) + dflt).toNat = pc') (go : Owe tb e below G T (mkF m pc' Ls rest)) : Owe tb e below G T (mkF m pc Ls st) := Owe.by (fun t k => XS.tswOut h hx rfl rfl hd hs hout ho hp k) go
theorem Owe.dload (h : At T m c below) (hx : tb.exec = Jvm.exec) {k : Nat} {v : UInt64} (hd : decode c.code pc = .ok (.dload k, 2)) (hl : Ls[k]? = some (.val (.double v))) (go : Owe tb e below G T (mkF m (pc + 2) Ls (.double v :: st))) : Owe tb e below G T (mkF m pc Ls st) := Owe.by (fun t k => XS.dload h hx rfl hd hl k) go
theorem Owe.dloadN (h : At T m c below) (hx : tb.exec = Jvm.exec) {k : Fin 4} {v : UInt64} (hd : decode c.code pc = .ok (.dload_n k, 1)) (hl : Ls[k.val]? = some (.val (.double v))) (go : Owe tb e below G T (mkF m (pc + 1) Ls (.double v :: st))) : Owe tb e below G T (mkF m pc Ls st) := Owe.by (fun t k => XS.dloadN h hx rfl hd hl k) go
theorem Owe.dstore (h : At T m c below) (hx : tb.exec = Jvm.exec) {k : Nat} {x : UInt64} {rest : List Value} {l' : Array Slot} (hd : decode c.code pc = .ok (.dstore k, 2)) (hs : st = .double x :: rest) (hl : storeLocals Ls k (.double x) = some l') (go : Owe tb e below G T (mkF m (pc + 2) l' rest)) : Owe tb e below G T (mkF m pc Ls st) := Owe.by (fun t k => XS.dstore h hx rfl hd hs hl k) go
theorem Owe.dstoreN (h : At T m c below) (hx : tb.exec = Jvm.exec) {k : Fin 4} {x : UInt64} {rest : List Value} {l' : Array Slot} (hd : decode c.code pc = .ok (.dstore_n k, 1)) (hs : st = .double x :: rest) (hl : storeLocals Ls k.val (.double x) = some l') (go : Owe tb e below G T (mkF m (pc + 1) l' rest)) : Owe tb e below G T (mkF m pc Ls st) := Owe.by (fun t k => XS.dstoreN h hx rfl hd hs hl k) go
theorem Owe.dconst0 (h : At T m c below) (hx : tb.exec = Jvm.exec) {v : UInt64} (hd : decode c.code pc = .ok (.dconst 0, 1)) (hv : FP.dconst0 = v) (go : Owe tb e below G T (mkF m (pc + 1) Ls (.double v :: st))) : Owe tb e below G T (mkF m pc Ls st) := Owe.by (fun t k => XS.dconst0 h hx rfl hd hv k) go
theorem Owe.dconst1 (h : At T m c below) (hx : tb.exec = Jvm.exec) {v : UInt64} (hd : decode c.code pc = .ok (.dconst 1, 1)) (hv : FP.dconst1 = v) (go : Owe tb e below G T (mkF m (pc + 1) Ls (.double v :: st))) : Owe tb e below G T (mkF m pc Ls st) := Owe.by (fun t k => XS.dconst1 h hx rfl hd hv k) go
theorem Owe.i2dS (h : At T m c below) (hx : tb.exec = Jvm.exec) {x : Int32} {v : UInt64} {rest : List Value} (hd : decode c.code pc = .ok (.i2d, 1)) (hs : st = .int x :: rest) (hv : FP.i2d x = v) (go : Owe tb e below G T (mkF m (pc + 1) Ls (.double v :: rest))) : Owe tb e below G T (mkF m pc Ls st) := Owe.by (fun t k => XS.i2dS h hx rfl hd hs hv k) go
theorem Owe.l2dS (h : At T m c below) (hx : tb.exec = Jvm.exec) {x : Int64} {v : UInt64} {rest : List Value} (hd : decode c.code pc = .ok (.l2d, 1)) (hs : st = .long x :: rest) (hv : FP.l2d x = v) (go : Owe tb e below G T (mkF m (pc + 1) Ls (.double v :: rest))) : Owe tb e below G T (mkF m pc Ls st) := Owe.by (fun t k => XS.l2dS h hx rfl hd hs hv k) go
theorem Owe.dcmpS (h : At T m c below) (hx : tb.exec = Jvm.exec) {o : CmpOp} {x y : UInt64} {v : Int32} {rest : List Value} (hd : decode c.code pc = .ok (.dcmp o, 1)) (hs : st = .double y :: .double x :: rest) (hv : cmpValue (FP.dcmp x y) o = v) (go : Owe tb e below G T (mkF m (pc + 1) Ls (.int v :: rest))) : Owe tb e below G T (mkF m pc Ls st) := Owe.by (fun t k => XS.dcmpS h hx rfl hd hs hv k) go
end Plain
section Heavy
variable {p : Program} {l : Launch} {e : Env} {R : Room} {s : State} {m : MethodId} {args : Array Value} {below : List Frame} {meth : Method} {c : Code} {T : State} {locs : List Loc} {cells slots : Nat} {Z : State} {a0 : Array Value} {h : Heap} {G : Outcome → State → Prop} {pc : Nat} {Ls : Array Slot} {st : List Value}
theorem Owe.ldcI (X : Stand p l e R s m args below meth c T locs cells slots) (hx : p.tables.exec = Jvm.exec) {own : String} {index : Nat} {v : Int32} (hown : s.vm.findClass own = some m.cls) (w : (Cond.constant own index v).before args s = true) (hd : decode c.code pc = .ok (.ldc index, 2)) (go : Owe p.tables e below G T (mkF m (pc + 2) Ls (.int v :: st))) : Owe p.tables e below G T (mkF m pc Ls st) :=
  Owe.by (X.ldcInt hx hown w (g := mkF m pc Ls st) rfl hd) go
theorem Owe.new (X : Stand p l e R s m args below meth c T locs cells slots) (hx : p.tables.exec = Jvm.exec) (hZ : Z.Warmed39 s.vm) {own C : String} {index n : Nat} (hown : s.vm.findClass own = some m.cls) (w : (Cond.classLink own index C).before a0 Z = true) (wi : (Cond.instantiable C n).before a0 Z = true) (wz : (Cond.initialized C).before a0 Z = true) (eT : T.heap = h) (hd : decode c.code pc = .ok (.new index, 3)) (hc : cells + 1 ≤ R.cells) (hl : slots + n ≤ R.slots)
    (go : ∀ (T' : State) (h' : Heap) (a : Addr), a = h.size → Stand p l e R s m args below meth c T' locs (cells + 1) (slots + n) → T'.heap = h' → Ext h h' → Exa Z h' a C → (∀ {O nm d : String} {ty : FieldType}, Laid Z a0 C O nm d → parseFieldDescriptor d = some ty → Fld Z h' a O nm d (defaultValue ty)) → Owe p.tables e below G T' (mkF m (pc + 3) Ls (.ref a :: st))) : Owe p.tables e below G T (mkF m pc Ls st) := by
  obtain ⟨T', h', X', e', E', A', D', -, st'⟩ := newO X hx hZ hown w wi wz eT (g := mkF m pc Ls st) rfl hd hc hl
  exact Owe.by st' (go T' h' _ rfl X' e' E' A' D')
theorem Owe.newarr (X : Stand p l e R s m args below meth c T locs cells slots) (hx : p.tables.exec = Jvm.exec) (hZ : Z.Warmed39 s.vm) {aty : ArrayType} (w : (Cond.arrayClass (newarray.typeOf aty)).before a0 Z = true) (eT : T.heap = h) (hd : decode c.code pc = .ok (.newarray aty, 2)) {n : Int32} {rest : List Value} (hs : st = .int n :: rest) (hn : ¬ n < 0) {cap : Nat} (hcap : n.toNatClampNeg ≤ cap) (hb : cap * 8 ≤ 536870912) (hc : cells + 1 ≤ R.cells) (hl : slots + cap ≤ R.slots)
    (go : ∀ (T' : State) (h' : Heap) (a : Addr) (k : ClassId), a = h.size → Stand p l e R s m args below meth c T' locs (cells + 1) (slots + cap) → T'.heap = h' → Ext h h' → Arv Z h' a k (newarray.typeOf aty) n [] (defaultValue (newarray.typeOf aty)) → Owe p.tables e below G T' (mkF m (pc + 2) Ls (.ref a :: rest))) : Owe p.tables e below G T (mkF m pc Ls st) := by
  obtain ⟨T', h', k, X', e', E', A', st'⟩ := newP X hx hZ w eT (g := mkF m pc Ls st) rfl hd hs hn hcap hb hc hl
  exact Owe.by st' (go T' h' _ k rfl X' e' E' (Arv.new A' hn))
theorem Owe.castore (X : Stand p l e R s m args below meth c T locs cells slots) (hx : p.tables.exec = Jvm.exec) (hZ : Z.Warmed39 s.vm) (eT : T.heap = h) {a : Addr} {k : ClassId} {n : Int32} {vs : List Value} {dv : Value} (V : Arv Z h a k .char n vs dv) {j x : Int32} (i : Nat) (hj : j.toNatClampNeg = i) (hi : i < vs.length) (hin : ¬ j < 0 ∧ j < n) (hd : decode c.code pc = .ok (.castore, 1)) {rest : List Value} (hs : st = .int x :: .int j :: .ref a :: rest)
    (go : ∀ (T' : State) (h' : Heap), Stand p l e R s m args below meth c T' (locs ++ [⟨a, j.toNatClampNeg⟩]) cells slots → T'.heap = h' → Wr h h' a j.toNatClampNeg (.int (nar .char x)) → Arv Z h' a k .char n (vs.set i (.int (nar .char x))) dv → Owe p.tables e below G T' (mkF m (pc + 1) Ls rest)) : Owe p.tables e below G T (mkF m pc Ls st) := by
  obtain ⟨cl, A, q, S, M, H, U⟩ := V
  obtain ⟨T', h', X', e', W', st'⟩ := stC X hx hZ eT A (j := j) (inb_of S hin) (g := mkF m pc Ls st) rfl hs hd
  exact Owe.by st' (go T' h' X' e' W' (Arv.set A q S M H U (fits_nar_char _) W' i hj hi))
theorem Owe.bastore (X : Stand p l e R s m args below meth c T locs cells slots) (hx : p.tables.exec = Jvm.exec) (hZ : Z.Warmed39 s.vm) (eT : T.heap = h) {a : Addr} {k : ClassId} {n : Int32} {vs : List Value} {dv : Value} (V : Arv Z h a k .byte n vs dv) {j x : Int32} (i : Nat) (hj : j.toNatClampNeg = i) (hi : i < vs.length) (hin : ¬ j < 0 ∧ j < n) (hd : decode c.code pc = .ok (.bastore, 1)) {rest : List Value} (hs : st = .int x :: .int j :: .ref a :: rest)
    (go : ∀ (T' : State) (h' : Heap), Stand p l e R s m args below meth c T' (locs ++ [⟨a, j.toNatClampNeg⟩]) cells slots → T'.heap = h' → Wr h h' a j.toNatClampNeg (.int (x.toInt8.toInt32)) → Arv Z h' a k .byte n (vs.set i (.int (x.toInt8.toInt32))) dv → Owe p.tables e below G T' (mkF m (pc + 1) Ls rest)) : Owe p.tables e below G T (mkF m pc Ls st) := by
  obtain ⟨cl, A, q, S, M, H, U⟩ := V
  obtain ⟨T', h', X', e', W', st'⟩ := stB X hx hZ eT A (j := j) (inb_of S hin) (g := mkF m pc Ls st) rfl hs hd
  exact Owe.by st' (go T' h' X' e' W' (Arv.set A q S M H U (fits_nar_byte _) W' i hj hi))
theorem Owe.caload (X : Stand p l e R s m args below meth c T locs cells slots) (hx : p.tables.exec = Jvm.exec) (hZ : Z.Warmed39 s.vm) (eT : T.heap = h) {a : Addr} {k : ClassId} {n : Int32} {vs : List Value} {dv : Value} (V : Arv Z h a k .char n vs dv) {j : Int32} {v : Value} (hin : ¬ j < 0 ∧ j < n) (hv : vs.getD j.toNatClampNeg dv = v) (hd : decode c.code pc = .ok (.caload, 1)) {rest : List Value} (hs : st = .int j :: .ref a :: rest)
    (go : Owe p.tables e below G T (mkF m (pc + 1) Ls (v :: rest))) : Owe p.tables e below G T (mkF m pc Ls st) := by
  obtain ⟨cl, A, q, S, M, H, U⟩ := V
  exact Owe.by (fun t k => X.caload hx (by rw [eT]; exact A.1) (State.isArrayOf_alike hZ.alike A.2.1) A.2.2 (inb_of S hin) (H.at (inb_of S hin) hv) (g := mkF m pc Ls st) rfl hs hd t k) go
theorem Owe.baload (X : Stand p l e R s m args below meth c T locs cells slots) (hx : p.tables.exec = Jvm.exec) (hZ : Z.Warmed39 s.vm) (eT : T.heap = h) {a : Addr} {k : ClassId} {n : Int32} {vs : List Value} {dv : Value} (V : Arv Z h a k .byte n vs dv) {j : Int32} {v : Value} (hin : ¬ j < 0 ∧ j < n) (hv : vs.getD j.toNatClampNeg dv = v) (hd : decode c.code pc = .ok (.baload, 1)) {rest : List Value} (hs : st = .int j :: .ref a :: rest)
    (go : Owe p.tables e below G T (mkF m (pc + 1) Ls (v :: rest))) : Owe p.tables e below G T (mkF m pc Ls st) := by
  obtain ⟨cl, A, q, S, M, H, U⟩ := V
  exact Owe.by (fun t k => X.baloadBytes hx (by rw [eT]; exact A.1) (State.isArrayOf_alike hZ.alike A.2.1) A.2.2 (inb_of S hin) (H.at (inb_of S hin) hv) (g := mkF m pc Ls st) rfl hs hd t k) go
theorem Owe.arrlen (X : Stand p l e R s m args below meth c T locs cells slots) (hx : p.tables.exec = Jvm.exec) (hZ : Z.Warmed39 s.vm) (eT : T.heap = h) {a : Addr} {k : ClassId} {ty : FieldType} {n : Int32} {vs : List Value} {dv : Value} (V : Arv Z h a k ty n vs dv) (hd : decode c.code pc = .ok (.arraylength, 1)) {rest : List Value} (hs : st = .ref a :: rest)
    (go : Owe p.tables e below G T (mkF m (pc + 1) Ls (.int n :: rest))) : Owe p.tables e below G T (mkF m pc Ls st) := by
  obtain ⟨cl, A, q, S, M, H, U⟩ := V
  refine Owe.by (fun t k => X.arraylength hx (by rw [eT]; exact A.1) (State.isArrayOf_alike hZ.alike A.2.1) (g := mkF m pc Ls st) rfl hs hd t ?_) go
  rw [len_of S M]; exact k
theorem Owe.getf (X : Stand p l e R s m args below meth c T locs cells slots) (hx : p.tables.exec = Jvm.exec) (hZ : Z.Warmed39 s.vm) {own R0 O n d host : String} {index : Nat} (hown : s.vm.findClass own = some m.cls) (w : (Cond.fieldLink own index R0 n d).before a0 Z = true ∨ (Cond.fieldLinkNest own index R0 n d host).before a0 Z = true) (via : Via Z R0 O n d) (eT : T.heap = h) {a : Addr} {v : Value} (F : Fld Z h a O n d v) (hd : decode c.code pc = .ok (.getfield index, 3)) {rest : List Value} (hs : st = .ref a :: rest)
    (go : ∀ T' : State, Stand p l e R s m args below meth c T' locs cells slots → T'.heap = h → Owe p.tables e below G T' (mkF m (pc + 3) Ls (v :: rest))) : Owe p.tables e below G T (mkF m pc Ls st) := by
  obtain ⟨T', X', e', st'⟩ := getF X hx hZ hown w via eT F (g := mkF m pc Ls st) rfl hs hd
  exact Owe.by st' (go T' X' e')
theorem Owe.gets (X : Stand p l e R s m args below meth c T locs cells slots) (hx : p.tables.exec = Jvm.exec) (hZ : Z.Warmed39 s.vm) {own R0 O n d : String} {index : Nat} (hown : s.vm.findClass own = some m.cls) (w : (Cond.fieldLink own index R0 n d).before a0 Z = true) (via : Via Z R0 O n d) (eT : T.heap = h) {v : Value} (F : Sta Z h O n d v) (hd : decode c.code pc = .ok (.getstatic index, 3))
    (go : ∀ T' : State, Stand p l e R s m args below meth c T' locs cells slots → T'.heap = h → Owe p.tables e below G T' (mkF m (pc + 3) Ls (v :: st))) : Owe p.tables e below G T (mkF m pc Ls st) := by
  obtain ⟨T', X', e', st'⟩ := getS X hx hZ (host := "") hown w via eT F (g := mkF m pc Ls st) rfl hd
  exact Owe.by st' (go T' X' e')
theorem Owe.putf (X : Stand p l e R s m args below meth c T locs cells slots) (hx : p.tables.exec = Jvm.exec) (hZ : Z.Warmed39 s.vm) {own R0 O n d host C : String} {index kk : Nat} {ty : FieldType} (hown : s.vm.findClass own = some m.cls) (w : (Cond.fieldLink own index R0 n d).before a0 Z = true ∨ (Cond.fieldLinkNest own index R0 n d host).before a0 Z = true) (via : Via Z R0 O n d) (eT : T.heap = h) {a : Addr} {v old : Value} (F : Fld Z h a O n d old) (E : Exa Z h a C)
    (L : (Cond.lays C O n d).before a0 Z = true ∨ ((Cond.laysFinal C O n d).before a0 Z = true ∧ own = O ∧ meth.name = "<init>")) (wi : (Cond.instantiable C kk).before a0 Z = true) (hty : parseFieldDescriptor d = some ty) (hn : narrow ty v = v) (hf : fits ty v = true) (hd : decode c.code pc = .ok (.putfield index, 3)) {rest : List Value} (hs : st = v :: .ref a :: rest)
    (go : ∀ (T' : State) (h' : Heap), Stand p l e R s m args below meth c T' (locs ++ [⟨a, Jvm.RoadKit.slotOf Z O n d⟩]) cells slots → T'.heap = h' → Wr h h' a (Jvm.RoadKit.slotOf Z O n d) v → Owe p.tables e below G T' (mkF m (pc + 3) Ls rest)) : Owe p.tables e below G T (mkF m pc Ls st) := by
  obtain ⟨T', h', X', e', W', st'⟩ := putF X hx hZ hown w via eT F E L wi hty hn hf (g := mkF m pc Ls st) rfl hs hd
  exact Owe.by st' (go T' h' X' e' W')
theorem Owe.objinit (X : Stand p l e R s m args below meth c T locs cells slots) (hx : p.tables.exec = Jvm.exec) (hZ : Z.Warmed39 s.vm) {own : String} {idx : Nat} (hown : s.vm.findClass own = some m.cls) (w1 : (Cond.methodLink own idx Lib.objectInit).before a0 Z = true) (w2 : (Cond.instanceMethod Lib.objectInit).before a0 Z = true) (w3 : (Cond.code Lib.objectInit ⟨#[0xb1]⟩ 1 none).before a0 Z = true) (eT : T.heap = h) (hsize : Ls.size = c.maxLocals) {a : Addr} {rest : List Value} (hs : st = .ref a :: rest) (hd : decode c.code pc = .ok (.invokespecial idx, 3)) (hf : 1 ≤ R.frames) {W : Nat} (hW : (rest.map fun v => v.category).sum ≤ W) (hl : W + 12 ≤ R.locals)
    (go : ∀ T' : State, Stand p l e R s m args below meth c T' locs cells slots → T'.heap = h → Owe p.tables e below G T' (mkF m (pc + 3) Ls rest)) : Owe p.tables e below G T (mkF m pc Ls st) := by
  obtain ⟨T', X', e', st'⟩ := initO X hx hZ hown w1 w2 w3 eT (g := mkF m pc Ls st) rfl hsize hs hd hf (W := W) (by show 2 * 0 + _ ≤ W; omega) hl
  exact Owe.by st' (go T' X' e')
theorem Owe.castY (X : Stand p l e R s m args below meth c T locs cells slots) (hx : p.tables.exec = Jvm.exec) (hZ : Z.Warmed39 s.vm) {own K : String} {index : Nat} (hown : s.vm.findClass own = some m.cls) (w : (Cond.classLink own index K).before a0 Z = true) (eT : T.heap = h) {a : Addr} (F : Ins Z h a K true) (hd : decode c.code pc = .ok (.checkcast index, 3)) {rest : List Value} (hs : st = .ref a :: rest)
    (go : ∀ T' : State, Stand p l e R s m args below meth c T' locs cells slots → T'.heap = h → Owe p.tables e below G T' (mkF m (pc + 3) Ls st)) : Owe p.tables e below G T (mkF m pc Ls st) := by
  obtain ⟨T', X', e', st'⟩ := Jvm.RoadKit.castY X hx hZ hown w eT F (g := mkF m pc Ls st) rfl hs hd
  exact Owe.by st' (go T' X' e')
theorem Owe.instY (X : Stand p l e R s m args below meth c T locs cells slots) (hx : p.tables.exec = Jvm.exec) (hZ : Z.Warmed39 s.vm) {own K : String} {index : Nat} (hown : s.vm.findClass own = some m.cls) (w : (Cond.classLink own index K).before a0 Z = true) (eT : T.heap = h) {a : Addr} (F : Ins Z h a K true) (hd : decode c.code pc = .ok (.instanceof index, 3)) {rest : List Value} (hs : st = .ref a :: rest)
    (go : ∀ T' : State, Stand p l e R s m args below meth c T' locs cells slots → T'.heap = h → Owe p.tables e below G T' (mkF m (pc + 3) Ls (.int 1 :: rest))) : Owe p.tables e below G T (mkF m pc Ls st) := by
  obtain ⟨T', X', e', st'⟩ := Jvm.RoadKit.instY X hx hZ hown w eT F (g := mkF m pc Ls st) rfl hs hd
  exact Owe.by st' (go T' X' e')
theorem Owe.instNo (X : Stand p l e R s m args below meth c T locs cells slots) (hx : p.tables.exec = Jvm.exec) (hZ : Z.Warmed39 s.vm) {own K C : String} {index : Nat} (hown : s.vm.findClass own = some m.cls) (w : (Cond.classLink own index K).before a0 Z = true) (eT : T.heap = h) {a : Addr} (E : Exa Z h a C) (F : ∃ c t, Z.vm.findClass C = some c ∧ Z.vm.findClass K = some t ∧ Z.vm.assignable c t = false) (hd : decode c.code pc = .ok (.instanceof index, 3)) {rest : List Value} (hs : st = .ref a :: rest)
    (go : ∀ T' : State, Stand p l e R s m args below meth c T' locs cells slots → T'.heap = h → Owe p.tables e below G T' (mkF m (pc + 3) Ls (.int 0 :: rest))) : Owe p.tables e below G T (mkF m pc Ls st) := by
  obtain ⟨T', X', e', st'⟩ := Jvm.RoadKit.instNo X hx hZ hown w eT E F (g := mkF m pc Ls st) rfl hs hd
  exact Owe.by st' (go T' X' e')
theorem Owe.instNull (X : Stand p l e R s m args below meth c T locs cells slots) (hx : p.tables.exec = Jvm.exec) {index : Nat} (hd : decode c.code pc = .ok (.instanceof index, 3)) {rest : List Value} (hs : st = .null :: rest) (go : Owe p.tables e below G T (mkF m (pc + 3) Ls (.int 0 :: rest))) : Owe p.tables e below G T (mkF m pc Ls st) :=
  Owe.by (Jvm.Stand.instanceofNull X hx (g := mkF m pc Ls st) rfl hs hd) go
theorem Owe.aaload (X : Stand p l e R s m args below meth c T locs cells slots) (hx : p.tables.exec = Jvm.exec) (hZ : Z.Warmed39 s.vm) (eT : T.heap = h) {a : Addr} {cl : Cell} {ty : FieldType} (A : Jvm.RoadKit.Arr Z h a cl ty) (hty : ty.isReference = true) {j : Int32} {v : Value} (hin : ¬ (j < 0 ∨ cl.slots.size ≤ j.toNatClampNeg)) (hv : cl.slots[j.toNatClampNeg]? = some v) (hd : decode c.code pc = .ok (.aaload, 1)) {rest : List Value} (hs : st = .int j :: .ref a :: rest)
    (go : Owe p.tables e below G T (mkF m (pc + 1) Ls (v :: rest))) : Owe p.tables e below G T (mkF m pc Ls st) :=
  Owe.by (fun t k => X.aaload hx (by rw [eT]; exact A.1) (State.isArrayOf_alike hZ.alike A.2.1) hty A.2.2 hin hv (g := mkF m pc Ls st) rfl hs hd t k) go
theorem Owe.aaloadV (X : Stand p l e R s m args below meth c T locs cells slots) (hx : p.tables.exec = Jvm.exec) (hZ : Z.Warmed39 s.vm) (eT : T.heap = h) {a : Addr} {k : ClassId} {ty : FieldType} {n : Int32} {vs : List Value} {dv : Value} (V : Arv Z h a k ty n vs dv) (hty : ty.isReference = true) {j : Int32} {v : Value} (hin : ¬ j < 0 ∧ j < n) (hv : vs.getD j.toNatClampNeg dv = v) (hd : decode c.code pc = .ok (.aaload, 1)) {rest : List Value} (hs : st = .int j :: .ref a :: rest)
    (go : Owe p.tables e below G T (mkF m (pc + 1) Ls (v :: rest))) : Owe p.tables e below G T (mkF m pc Ls st) := by
  obtain ⟨cl, A, q, S, M, H, U⟩ := V
  exact Owe.aaload X hx hZ eT A hty (inb_of S hin) (H.at (inb_of S hin) hv) hd hs go
theorem Owe.ldc2L (X : Stand p l e R s m args below meth c T locs cells slots) (hx : p.tables.exec = Jvm.exec) {own : String} {index : Nat} {v : Int64} (hown : s.vm.findClass own = some m.cls) (w : (Cond.constantLong own index v).before args s = true) (hd : decode c.code pc = .ok (.ldc2_w index, 3)) (go : Owe p.tables e below G T (mkF m (pc + 3) Ls (.long v :: st))) : Owe p.tables e below G T (mkF m pc Ls st) :=
  Owe.by (X.ldc2Long hx hown w (g := mkF m pc Ls st) rfl hd) go
theorem Owe.clone (X : Stand p l e R s m args below meth c T locs cells slots) (hx : p.tables.exec = Jvm.exec) (hZ : Z.Warmed39 s.vm) {own ad : String} {index : Nat} (hown : s.vm.findClass own = some m.cls) (w1 : (Cond.methodLink own index ⟨ad, "clone", "()Ljava/lang/Object;"⟩).before a0 Z = true) (w2 : (Cond.sameMethod ad "java/lang/Object" "clone" "()Ljava/lang/Object;").before a0 Z = true) (w3 : (Cond.native ⟨"java/lang/Object", "clone", "()Ljava/lang/Object;"⟩).before a0 Z = true)
    (w4 : (Cond.instanceMethod ⟨"java/lang/Object", "clone", "()Ljava/lang/Object;"⟩).before a0 Z = true) (w5 : (Cond.selects ad ⟨ad, "clone", "()Ljava/lang/Object;"⟩ ⟨"java/lang/Object", "clone", "()Ljava/lang/Object;"⟩).before a0 Z = true) (w6 : (Cond.castable ad "java/lang/Cloneable").before a0 Z = true)
    (eT : T.heap = h) {a : Addr} {k : ClassId} {ty : FieldType} {n : Int32} {vs : List Value} {dv : Value} (V : Arv Z h a k ty n vs dv) (E : Exa Z h a ad) (hsize : Ls.size = c.maxLocals) {rest : List Value} (hs : st = .ref a :: rest) (hd : decode c.code pc = .ok (.invokevirtual index, 3))
    (hf : 1 ≤ R.frames) {W cap : Nat} (hW : (rest.map fun v => v.category).sum ≤ W) (hl : W + 14 ≤ R.locals) (hcap : n.toNatClampNeg ≤ cap) (hc : cells + 1 ≤ R.cells) (hsl : slots + cap ≤ R.slots)
    (go : ∀ (T' : State) (h' : Heap) (b : Addr), b = h.size → Stand p l e R s m args below meth c T' locs (cells + 1) (slots + cap) → T'.heap = h' → Ext h h' → Arv Z h' b k ty n vs dv → Exa Z h' b ad → Owe p.tables e below G T' (mkF m (pc + 3) Ls (.ref b :: rest))) : Owe p.tables e below G T (mkF m pc Ls st) := by
  obtain ⟨T', h', X', e', E', A', B', st'⟩ := cloneH X hx hZ hown w1 w2 w3 w4 w5 w6 eT V.arh E (g := mkF m pc Ls st) rfl hsize hs hd hf (W := W) (by show 2 * 0 + _ ≤ W; omega) hl hcap hc hsl
  exact Owe.by st' (go T' h' _ rfl X' e' E' A' B')
/-! calls by a contract in the Back form of 'backOf' and of the pasted String laws -/
variable {y z : MethodName} {as' : Array Value} {Q : Option Value → Heap → List Loc → Prop} {W kc ks : Nat}
theorem Owe.special (X : Stand p l e R s m args below meth c T locs cells slots) (hx : p.tables.exec = Jvm.exec) {own : String} {index : Nat} (hy1 : y.name = "<init>") (hown : s.vm.findClass own = some m.cls) (hlink : (Cond.methodLink own index y).before args s = true) (hinst : (Cond.instanceMethod y).before args s = true) {bytes : ByteArray} {maxL : Nat} (hcode : (Cond.code y bytes maxL none).before args s = true) (hy : y.cls ≠ "java/lang/invoke/MethodHandle" ∧ y.cls ≠ "java/lang/invoke/VarHandle")
    (hK : Back l R p e below s args y 3 W (fun A a => a = as' ∧ A.U.heap = h ∧ A.cells + kc ≤ R.cells ∧ A.slots + ks ≤ R.slots) (fun A _ v B => ∃ L, Q v B.U.heap L ∧ B.locs = A.locs ++ L ∧ B.cells = A.cells + kc ∧ B.slots = A.slots + ks))
    (hsize : Ls.size = c.maxLocals) {a : Addr} {argsL rest : List Value} (hlen : ∀ sig, parseMethodDescriptor y.desc = some sig → argsL.length = sig.parameters.length) (hs : st = argsL.reverse ++ .ref a :: rest) (hW : (rest.map fun v => v.category).sum ≤ W) (hd : decode c.code pc = .ok (.invokespecial index, 3))
    (has : (.ref a :: argsL).toArray = as') (eT : T.heap = h) (hc : cells + kc ≤ R.cells) (hl : slots + ks ≤ R.slots)
    (go : ∀ (T' : State) (v : Option Value) (L : List Loc), Stand p l e R s m args below meth c T' (locs ++ L) (cells + kc) (slots + ks) → Q v T'.heap L → Owe p.tables e below G T' (mkF m (pc + 3) Ls (v.toList ++ rest))) : Owe p.tables e below G T (mkF m pc Ls st) := by
  obtain ⟨v, _, ⟨T', L', k', n'⟩, -, X', ⟨L, hQ, l', y', z'⟩, st'⟩ := X.specialBack hx hy1 hown hlink hinst hcode hy hK (g := mkF m pc Ls st) rfl hsize (Steps.refl _) hlen hs (by show 2 * 0 + _ ≤ W; omega) hd (fun _ _ => ⟨has, eT, hc, hl⟩)
  dsimp only [Pt.U, Pt.locs, Pt.cells, Pt.slots] at X' l' y' z' st' hQ
  subst l' y' z'
  exact Owe.by (fun t k => st'.trans k) (go T' v L X' hQ)
theorem Owe.specialRef (X : Stand p l e R s m args below meth c T locs cells slots) (hx : p.tables.exec = Jvm.exec) (hZ : Z.Warmed39 s.vm) {own : String} {index : Nat} (hy1 : y.name = "<init>") (hown : s.vm.findClass own = some m.cls) (href : (Cond.methodRef own index y).before a0 Z = true) (hinst : (Cond.instanceMethod y).before a0 Z = true) {bytes : ByteArray} {maxL : Nat} (hcode : (Cond.code y bytes maxL none).before a0 Z = true) (hy : y.cls ≠ "java/lang/invoke/MethodHandle" ∧ y.cls ≠ "java/lang/invoke/VarHandle")
    (hK : Back l R p e below s args y 3 W (fun A a => a = as' ∧ A.U.heap = h ∧ A.cells + kc ≤ R.cells ∧ A.slots + ks ≤ R.slots) (fun A _ v B => ∃ L, Q v B.U.heap L ∧ B.locs = A.locs ++ L ∧ B.cells = A.cells + kc ∧ B.slots = A.slots + ks))
    (hsize : Ls.size = c.maxLocals) {a : Addr} {argsL rest : List Value} (hlen : ∀ sig, parseMethodDescriptor y.desc = some sig → argsL.length = sig.parameters.length) (hs : st = argsL.reverse ++ .ref a :: rest) (hW : (rest.map fun v => v.category).sum ≤ W) (hd : decode c.code pc = .ok (.invokespecial index, 3))
    (has : (.ref a :: argsL).toArray = as') (eT : T.heap = h) (hc : cells + kc ≤ R.cells) (hl : slots + ks ≤ R.slots)
    (go : ∀ (T' : State) (v : Option Value) (L : List Loc), Stand p l e R s m args below meth c T' (locs ++ L) (cells + kc) (slots + ks) → Q v T'.heap L → Owe p.tables e below G T' (mkF m (pc + 3) Ls (v.toList ++ rest))) : Owe p.tables e below G T (mkF m pc Ls st) := by
  have hU : Z.Warmed39 T.vm := wtrans hZ X.warmed
  obtain ⟨obj, methO, hnO, hmO, hstO, habO⟩ := Cond.instanceMethod_spec hinst
  obtain ⟨methO', cO, hmO', hcO, hbO, hlO, -, hlockO, -, hsigO⟩ := Cond.code_spec hnO hcode
  cases hmO.symm.trans hmO'
  obtain ⟨kO, hkO, hnameO⟩ := className_of_methodNamed hnO
  obtain ⟨hnameMO, hdescO⟩ := name_of_methodNamed hnO hmO
  have href' := Cond.methodRef_warmed39 (vm' := T.vm) hU hnO hy href
  have hownT : (Z.setVm T.vm).vm.findClass own = some m.cls := by show T.vm.findClass own = _; rw [X.warmed.alike.findClass]; exact hown
  have hnT : (Z.setVm T.vm).methodNamed? y = some obj := by rw [State.methodNamed?_setVm hU.alike]; exact hnO
  obtain ⟨m', c', hf, hready, hfind, hnr⟩ := Cond.methodRef_named e hownT href'
  have hfo := State.methodFound?_of_named hnT hy
  cases hfo.symm.trans hf
  cases (findClass_of_methodNamed hnT).symm.trans hfind
  obtain ⟨kO₂, hkO₂, heO₂⟩ := hU.alike.2.2 _ _ hkO
  have hmO₂ : T.vm.method? obj = some methO := by rw [hU.alike.method?]; exact hmO
  have hfound : lookupSpecial T.vm obj.cls "<init>" methO.desc = .method obj := by
    rw [hU.alike.lookupSpecial, hdescO, ← hy1]; exact lookupSpecial_of_named hnO hmO hstO
  obtain ⟨v, ⟨T', L', k', n'⟩, X', ⟨L, hQ, l', y', z'⟩, st'⟩ := hK m meth c ⟨T, locs, cells, slots⟩ (mkF m pc Ls rest) (.invokespecial index) obj (.ref a :: argsL).toArray X rfl hsize hd (by show 2 * 0 + (rest.map fun v => v.category).sum ≤ W; omega) hnT ⟨has, eT, hc, hl⟩
  dsimp only [Pt.U, Pt.locs, Pt.cells, Pt.slots] at X' l' y' z' st' hQ
  subst l' y' z'
  refine Owe.by (fun t k => ?_) (go T' v L X' hQ)
  have hstep : ∀ target, (∀ acts, Steps p.tables e below (doInvoke e (T.setTop (mkF m pc Ls rest)) acts obj (.ref a :: argsL).toArray).1 target) → Steps p.tables e below (T.setTop (mkF m pc Ls st)) target := fun target hrest => by
    jvm_step X.here [hx, hd, invokespecial.wp_init (e := e) (s := T) (k := kO₂) (meth := methO) (m := obj) (a := a) (args := argsL) (rest := rest) (f := mkF m pc Ls st)
      X.here.top hnr hready hkO₂ hmO₂ (by rw [hnameMO]; exact hy1) hstO habO hfound (hlen _ hsigO) hs]
    exact hrest
  exact hstep _ fun acts => by rw [doInvoke_state]; exact st'.trans k
theorem Owe.virt (X : Stand p l e R s m args below meth c T locs cells slots) (hx : p.tables.exec = Jvm.exec) (hZ : Z.Warmed39 s.vm) {own C : String} {index : Nat} (hown : s.vm.findClass own = some m.cls) (hlink : (Cond.methodLink own index y).before args s = true) (hdecl : (Cond.declares y).before args s = true) (hsel : (Cond.selects C y z).before args s = true) (hinst : (Cond.instanceMethod z).before args s = true) (hnf : NotFace s y) (hy : y.cls ≠ "java/lang/invoke/MethodHandle" ∧ y.cls ≠ "java/lang/invoke/VarHandle")
    (hK : Back l R p e below s args z 3 W (fun A a => a = as' ∧ A.U.heap = h ∧ A.cells + kc ≤ R.cells ∧ A.slots + ks ≤ R.slots) (fun A _ v B => ∃ L, Q v B.U.heap L ∧ B.locs = A.locs ++ L ∧ B.cells = A.cells + kc ∧ B.slots = A.slots + ks))
    (hsize : Ls.size = c.maxLocals) {a : Addr} {argsL rest : List Value} (E : Exa Z h a C) (hlen : ∀ sig, parseMethodDescriptor y.desc = some sig → argsL.length = sig.parameters.length) (hs : st = argsL.reverse ++ .ref a :: rest) (hW : (rest.map fun v => v.category).sum ≤ W) (hd : decode c.code pc = .ok (.invokevirtual index, 3))
    (has : (.ref a :: argsL).toArray = as') (eT : T.heap = h) (hc : cells + kc ≤ R.cells) (hl : slots + ks ≤ R.slots)
    (go : ∀ (T' : State) (v : Option Value) (L : List Loc), Stand p l e R s m args below meth c T' (locs ++ L) (cells + kc) (slots + ks) → Q v T'.heap L → Owe p.tables e below G T' (mkF m (pc + 3) Ls (v.toList ++ rest))) : Owe p.tables e below G T (mkF m pc Ls st) := by
  obtain ⟨cq, kq, qa, qb, qc⟩ := isOf hZ eT E
  obtain ⟨v, _, ⟨T', L', k', n'⟩, -, X', ⟨L, hQ, l', y', z'⟩, st'⟩ := X.virtualBack hx hown hlink hdecl hnf hsel hinst hy hK qa qc (g := mkF m pc Ls st) rfl hsize (Steps.refl _) hlen hs (by show 2 * 0 + _ ≤ W; omega) hd (fun _ _ => ⟨has, eT, hc, hl⟩)
  dsimp only [Pt.U, Pt.locs, Pt.cells, Pt.slots] at X' l' y' z' st' hQ
  subst l' y' z'
  exact Owe.by (fun t k => st'.trans k) (go T' v L X' hQ)
theorem Owe.virtUp (X : Stand p l e R s m args below meth c T locs cells slots) (hx : p.tables.exec = Jvm.exec) (hZ : Z.Warmed39 s.vm) {own C owner : String} {index : Nat} (hown : s.vm.findClass own = some m.cls) (hlink : (Cond.methodLink own index y).before args s = true) (hsame : (Cond.sameMethod y.cls owner y.name y.desc).before args s = true) (hdecl : (Cond.declares ⟨owner, y.name, y.desc⟩).before args s = true) (howner : owner ≠ "java/lang/invoke/MethodHandle" ∧ owner ≠ "java/lang/invoke/VarHandle") (hsel : (Cond.selects C y z).before args s = true) (hinst : (Cond.instanceMethod z).before args s = true)
    (hK : Back l R p e below s args z 3 W (fun A a => a = as' ∧ A.U.heap = h ∧ A.cells + kc ≤ R.cells ∧ A.slots + ks ≤ R.slots) (fun A _ v B => ∃ L, Q v B.U.heap L ∧ B.locs = A.locs ++ L ∧ B.cells = A.cells + kc ∧ B.slots = A.slots + ks))
    (hsize : Ls.size = c.maxLocals) {a : Addr} {argsL rest : List Value} (E : Exa Z h a C) (hlen : ∀ sig, parseMethodDescriptor y.desc = some sig → argsL.length = sig.parameters.length) (hs : st = argsL.reverse ++ .ref a :: rest) (hW : (rest.map fun v => v.category).sum ≤ W) (hd : decode c.code pc = .ok (.invokevirtual index, 3))
    (has : (.ref a :: argsL).toArray = as') (eT : T.heap = h) (hc : cells + kc ≤ R.cells) (hl : slots + ks ≤ R.slots)
    (go : ∀ (T' : State) (v : Option Value) (L : List Loc), Stand p l e R s m args below meth c T' (locs ++ L) (cells + kc) (slots + ks) → Q v T'.heap L → Owe p.tables e below G T' (mkF m (pc + 3) Ls (v.toList ++ rest))) : Owe p.tables e below G T (mkF m pc Ls st) := by
  obtain ⟨cq, kq, qa, qb, qc⟩ := isOf hZ eT E
  obtain ⟨v, _, ⟨T', L', k', n'⟩, -, X', ⟨L, hQ, l', y', z'⟩, st'⟩ := X.virtualBackUp hx hown hlink hsame hdecl howner hsel hinst hK qa qc (g := mkF m pc Ls st) rfl hsize (Steps.refl _) hlen hs (by show 2 * 0 + _ ≤ W; omega) hd (fun _ _ => ⟨has, eT, hc, hl⟩)
  dsimp only [Pt.U, Pt.locs, Pt.cells, Pt.slots] at X' l' y' z' st' hQ
  subst l' y' z'
  exact Owe.by (fun t k => st'.trans k) (go T' v L X' hQ)
theorem Owe.stat (X : Stand p l e R s m args below meth c T locs cells slots) (hx : p.tables.exec = Jvm.exec) {own : String} {index : Nat} {bytes : ByteArray} {maxL : Nat} {ret : Option FieldType} (hown : s.vm.findClass own = some m.cls) (hlink : (Cond.methodLink own index y).before args s = true) (hstat : (Cond.static y).before args s = true) (hinit : (Cond.initialized y.cls).before args s = true) (hcode : (Cond.code y bytes maxL ret).before args s = true) (hy : y.cls ≠ "java/lang/invoke/MethodHandle" ∧ y.cls ≠ "java/lang/invoke/VarHandle")
    (hK : Back l R p e below s args y 3 W (fun A a => a = as' ∧ A.U.heap = h ∧ A.cells + kc ≤ R.cells ∧ A.slots + ks ≤ R.slots) (fun A _ v B => ∃ L, Q v B.U.heap L ∧ B.locs = A.locs ++ L ∧ B.cells = A.cells + kc ∧ B.slots = A.slots + ks))
    (hsize : Ls.size = c.maxLocals) {argsL rest : List Value} (hlen : ∀ sig, parseMethodDescriptor y.desc = some sig → argsL.length = sig.parameters.length) (hs : st = argsL.reverse ++ rest) (hW : (rest.map fun v => v.category).sum ≤ W) (hd : decode c.code pc = .ok (.invokestatic index, 3))
    (has : argsL.toArray = as') (eT : T.heap = h) (hc : cells + kc ≤ R.cells) (hl : slots + ks ≤ R.slots)
    (go : ∀ (T' : State) (v : Option Value) (L : List Loc), Stand p l e R s m args below meth c T' (locs ++ L) (cells + kc) (slots + ks) → Q v T'.heap L → Owe p.tables e below G T' (mkF m (pc + 3) Ls (v.toList ++ rest))) : Owe p.tables e below G T (mkF m pc Ls st) := by
  obtain ⟨v, _, ⟨T', L', k', n'⟩, -, X', ⟨L, hQ, l', y', z'⟩, st'⟩ := Jvm.LawKit.callS X hx hown hlink hstat hinit hcode hy hK (g := mkF m pc Ls st) rfl hsize hlen hs (by show 2 * 0 + _ ≤ W; omega) hd (fun _ _ => ⟨has, eT, hc, hl⟩)
  dsimp only [Pt.U, Pt.locs, Pt.cells, Pt.slots] at X' l' y' z' st' hQ
  subst l' y' z'
  exact Owe.by st' (go T' v L X' hQ)
/-! the end: it returns -/
theorem Owe.retN (X : Stand p l e R s m args below meth c T locs cells slots) (hx : p.tables.exec = Jvm.exec) (hlk : meth.locks = false) {z : Int32} {t : FieldType} {rest : List Value} (hret : meth.sig.returnType = some t) (ht : t = .boolean ∨ t = .byte ∨ t = .char ∨ t = .short) (hd : decode c.code pc = .ok (.ireturn, 1)) (hs : st = .int z :: rest)
    (go : ∀ fs : List Frame, FrameEnd s (.returned (some (.int (nar t z)))) (T.setFrames fs) locs cells slots → G (.returned (some (.int (nar t z)))) (T.setFrames fs)) : Owe p.tables e below G T (mkF m pc Ls st) := by
  subst hs
  obtain ⟨fs, hr, hrun, hended, hW, hsame⟩ := X.leave (v := some (.int (nar t z))) (fun h => by rw [hret] at h; cases h) hlk
  exact ⟨_, _, Jvm.RoadKit.retN X hx hret ht hd hr, hrun, hended, go fs ⟨⟨_, rfl⟩, hW, hsame⟩⟩
theorem Owe.retI (X : Stand p l e R s m args below meth c T locs cells slots) (hx : p.tables.exec = Jvm.exec) (hlk : meth.locks = false) {z : Int32} {rest : List Value} (hret : meth.sig.returnType = some .int) (hd : decode c.code pc = .ok (.ireturn, 1)) (hs : st = .int z :: rest)
    (go : ∀ fs : List Frame, FrameEnd s (.returned (some (.int z))) (T.setFrames fs) locs cells slots → G (.returned (some (.int z))) (T.setFrames fs)) : Owe p.tables e below G T (mkF m pc Ls st) := by
  subst hs
  obtain ⟨fs, hr, hrun, hended, hW, hsame⟩ := X.leave (v := some (.int z)) (fun h => by rw [hret] at h; cases h) hlk
  have hm' : T.vm.method? m = some meth := X.method'
  have hn : narrow .int (.int z) = .int z := rfl
  refine ⟨_, _, ?_, hrun, hended, go fs ⟨⟨_, rfl⟩, hW, hsame⟩⟩
  show Steps p.tables e below (T.setTop { method := m, pc := pc, locals := Ls, stack := _ :: rest, locked := none }) _
  jvm_step X.here [X.here.top, hx, hd, hm', hret, hn]
  first | (intro acts; rw [hr _ acts rfl rfl rfl]) | rw [hr _ _ rfl rfl rfl]
  exact Steps.refl _
theorem Owe.retR (X : Stand p l e R s m args below meth c T locs cells slots) (hx : p.tables.exec = Jvm.exec) (hlk : meth.locks = false) {w : Value} {t : FieldType} {rest : List Value} (hret : meth.sig.returnType = some t) (hn : narrow t w = w) (ht : t.isReference = true) (hw : w.isRef = true) (hd : decode c.code pc = .ok (.areturn, 1)) (hs : st = w :: rest)
    (go : ∀ fs : List Frame, FrameEnd s (.returned (some w)) (T.setFrames fs) locs cells slots → G (.returned (some w)) (T.setFrames fs)) : Owe p.tables e below G T (mkF m pc Ls st) := by
  subst hs
  obtain ⟨fs, hr, hrun, hended, hW, hsame⟩ := X.leave (v := some w) (fun h => by rw [hret] at h; cases h) hlk
  have hm' : T.vm.method? m = some meth := X.method'
  refine ⟨_, _, ?_, hrun, hended, go fs ⟨⟨_, rfl⟩, hW, hsame⟩⟩
  show Steps p.tables e below (T.setTop { method := m, pc := pc, locals := Ls, stack := _ :: rest, locked := none }) _
  jvm_step X.here [X.here.top, hx, hd, hm', hret, hn, hw]
  try (refine ⟨ht, ?_⟩)
  first | (intro acts; rw [hr _ acts rfl rfl rfl]) | rw [hr _ _ rfl rfl rfl]
  exact Steps.refl _
theorem Owe.ret0 (X : Stand p l e R s m args below meth c T locs cells slots) (hx : p.tables.exec = Jvm.exec) (hlk : meth.locks = false) (hret : meth.sig.returnType = none) (hd : decode c.code pc = .ok (.return_, 1)) (hs : st = [])
    (go : ∀ fs : List Frame, FrameEnd s (.returned none) (T.setFrames fs) locs cells slots → G (.returned none) (T.setFrames fs)) : Owe p.tables e below G T (mkF m pc Ls st) := by
  subst hs
  obtain ⟨fs, hr, hrun, hended, hW, hsame⟩ := X.leave (v := none) (fun _ => rfl) hlk
  exact ⟨_, _, X.returnOut hx hret hd hr, hrun, hended, go fs ⟨⟨_, rfl⟩, hW, hsame⟩⟩
end Heavy
theorem frameMono {s t : State} {o : Outcome} {L : List Loc} {k n k' n' : Nat} (h : FrameEnd s o t L k n) (hk : k ≤ k') (hn : n ≤ n') : FrameEnd s o t L k' n' := ⟨h.1, h.2.1, h.2.2.mono hk hn⟩
end Own
end Jvm.Pilot.@@N@@
namespace Jvm.Pilot.@@N@@
namespace Own
open Jvm Jvm.ClassFile Sem Op Lib Jvm.Free Jvm.Stand Jvm.LawKit Jvm.RoadKit
section
variable {p : Program} {l : Launch} {e : Env} {R R' : Room} {s Z : State} {m : MethodId} {args a0 : Array Value} {below : List Frame} {meth : Method} {c : Code} {T : State} {locs : List Loc} {cells slots : Nat} {G : Outcome → State → Prop} {pc : Nat} {Ls : Array Slot} {st : List Value} {h : Heap}
theorem Owe.rawBits (X : Stand p l e R s m args below meth c T locs cells slots) (hx : p.tables.exec = Jvm.exec) (hZ : Z.Warmed39 s.vm) {own : String} {index : Nat} (hown : s.vm.findClass own = some m.cls) (w1 : (Cond.methodLink own index doubleToRawLongBitsName).before a0 Z = true) (w2 : (Cond.native doubleToRawLongBitsName).before a0 Z = true) (w3 : (Cond.static doubleToRawLongBitsName).before a0 Z = true) (w4 : (Cond.initialized "java/lang/Double").before a0 Z = true) (eT : T.heap = h) (hsize : Ls.size = c.maxLocals) {b : UInt64} {rest : List Value} (hs : st = .double b :: rest) (hd : decode c.code pc = .ok (.invokestatic index, 3))
    (hf : 1 ≤ R.frames) {W : Nat} (hW : (rest.map fun v => v.category).sum ≤ W) (hl : W + (nativeFrameWords "java/lang/Double" "doubleToRawLongBits" 2 + 11) ≤ R.locals)
    (go : ∀ T' : State, Stand p l e R s m args below meth c T' locs cells slots → T'.heap = h → Owe p.tables e below G T' (mkF m (pc + 3) Ls (.long b.toInt64 :: rest))) : Owe p.tables e below G T (mkF m pc Ls st) := by
  obtain ⟨vm', X', st'⟩ := X.doubleToRawLongBits hx hown (mvT hZ w1) (mvT hZ w2) (mvT hZ w3) (mvT hZ w4) (g := mkF m pc Ls st) rfl hsize hs hd hf (by show 2 * 0 + (rest.map fun v => v.category).sum + _ ≤ R.locals; omega)
  exact Owe.by st' (go _ X' eT)
theorem Owe.maxD (X : Stand p l e R s m args below meth c T locs cells slots) (hx : p.tables.exec = Jvm.exec) (hZ : Z.Warmed39 s.vm) {own : String} {index ml : Nat} {bytes : ByteArray} (hown : s.vm.findClass own = some m.cls) (w1 : (Cond.methodLink own index NT.mathMax64N).before a0 Z = true) (w2 : (Cond.static NT.mathMax64N).before a0 Z = true) (w3 : (Cond.initialized "java/lang/Math").before a0 Z = true) (w4 : (Cond.code NT.mathMax64N bytes ml (some .double)).before a0 Z = true) (eT : T.heap = h) {a b : UInt64} (ha : FP.dIsNaN a = false) (hb : FP.dIsNaN b = false) (hsize : Ls.size = c.maxLocals) {rest : List Value} (hs : st = .double b :: .double a :: rest) (hd : decode c.code pc = .ok (.invokestatic index, 3))
    (hf : 1 ≤ R.frames) {W : Nat} (hW : (rest.map fun v => v.category).sum ≤ W) (hl : W + (ml + 11) ≤ R.locals)
    (go : ∀ T' : State, Stand p l e R s m args below meth c T' locs cells slots → T'.heap = h → Owe p.tables e below G T' (mkF m (pc + 3) Ls (.double (Native.java_lang_Math.nans.pick64 true a b) :: rest))) : Owe p.tables e below G T (mkF m pc Ls st) := by
  have c4 : (Cond.code NT.mathMax64N bytes ml (some .double)).before args s = true := mvT hZ w4
  obtain ⟨mk, hnamed⟩ := Cond.code_named c4
  obtain ⟨methM, cM, hmethM, -, -, -, -, -, -, hsigM⟩ := Cond.code_spec hnamed c4
  obtain ⟨v, vm1, B, hW1, X', ⟨hB, hv⟩, st'⟩ := Stand.staticBack (args := args) X hx hown (mvT hZ w1) (mvT hZ w2) (mvT hZ w3) hnamed hmethM hsigM (by decide) (NT.Max64.pays c4 (mvT hZ w2) hf hl) (g := mkF m pc Ls st) rfl hsize (Steps.refl _) (argsL := [.double a, .double b]) (rest := rest) (lenOf NT.mathMax64_desc rfl) hs (by show 2 * 0 + (rest.map fun v => v.category).sum ≤ W; omega) hd (fun vm1 _ => ⟨(a, b), rfl, ha, hb⟩)
  have hv' := hv (a, b) ⟨rfl, ha, hb⟩
  subst hv' hB
  exact Owe.by (fun t k => st'.trans k) (go _ X' eT)
theorem Owe.minD (X : Stand p l e R s m args below meth c T locs cells slots) (hx : p.tables.exec = Jvm.exec) (hZ : Z.Warmed39 s.vm) {own : String} {index ml : Nat} {bytes : ByteArray} (hown : s.vm.findClass own = some m.cls) (w1 : (Cond.methodLink own index NT.mathMin64N).before a0 Z = true) (w2 : (Cond.static NT.mathMin64N).before a0 Z = true) (w3 : (Cond.initialized "java/lang/Math").before a0 Z = true) (w4 : (Cond.code NT.mathMin64N bytes ml (some .double)).before a0 Z = true) (eT : T.heap = h) {a b : UInt64} (ha : FP.dIsNaN a = false) (hb : FP.dIsNaN b = false) (hsize : Ls.size = c.maxLocals) {rest : List Value} (hs : st = .double b :: .double a :: rest) (hd : decode c.code pc = .ok (.invokestatic index, 3))
    (hf : 1 ≤ R.frames) {W : Nat} (hW : (rest.map fun v => v.category).sum ≤ W) (hl : W + (ml + 11) ≤ R.locals)
    (go : ∀ T' : State, Stand p l e R s m args below meth c T' locs cells slots → T'.heap = h → Owe p.tables e below G T' (mkF m (pc + 3) Ls (.double (Native.java_lang_Math.nans.pick64 false a b) :: rest))) : Owe p.tables e below G T (mkF m pc Ls st) := by
  have c4 : (Cond.code NT.mathMin64N bytes ml (some .double)).before args s = true := mvT hZ w4
  obtain ⟨mk, hnamed⟩ := Cond.code_named c4
  obtain ⟨methM, cM, hmethM, -, -, -, -, -, -, hsigM⟩ := Cond.code_spec hnamed c4
  obtain ⟨v, vm1, B, hW1, X', ⟨hB, hv⟩, st'⟩ := Stand.staticBack (args := args) X hx hown (mvT hZ w1) (mvT hZ w2) (mvT hZ w3) hnamed hmethM hsigM (by decide) (NT.Min64.pays c4 (mvT hZ w2) hf hl) (g := mkF m pc Ls st) rfl hsize (Steps.refl _) (argsL := [.double a, .double b]) (rest := rest) (lenOf NT.mathMin64_desc rfl) hs (by show 2 * 0 + (rest.map fun v => v.category).sum ≤ W; omega) hd (fun vm1 _ => ⟨(a, b), rfl, ha, hb⟩)
  have hv' := hv (a, b) ⟨rfl, ha, hb⟩
  subst hv' hB
  exact Owe.by (fun t k => st'.trans k) (go _ X' eT)
theorem Owe.laloadA (X : Stand p l e R s m args below meth c T locs cells slots) (hx : p.tables.exec = Jvm.exec) (hZ : Z.Warmed39 s.vm) (eT : T.heap = h) {a : Addr} {k : ClassId} {n : Int32} {vs : List Value} {dv : Value} (V : Arv Z h a k .long n vs dv) {j : Int32} (hin : ¬ j < 0 ∧ j < n) (hd : decode c.code pc = .ok (.laload, 1)) {rest : List Value} (hs : st = .int j :: .ref a :: rest)
    (go : ∀ x : Int64, Owe p.tables e below G T (mkF m (pc + 1) Ls (.long x :: rest))) : Owe p.tables e below G T (mkF m pc Ls st) := by
  obtain ⟨cl, A, q, S, M, H, U⟩ := V
  have hb := inb_of S hin
  have hf := U j.toNatClampNeg (Nat.lt_of_not_le fun z => hb (Or.inr z))
  obtain ⟨x, hv⟩ : ∃ x, vs.getD j.toNatClampNeg dv = .long x := by
    cases hq : vs.getD j.toNatClampNeg dv <;> rw [hq] at hf <;> first | exact ⟨_, rfl⟩ | (cases hf; done)
  exact Owe.by (fun t k => X.laload hx (by rw [eT]; exact A.1) (State.isArrayOf_alike hZ.alike A.2.1) A.2.2 hb (H.at hb hv) (g := mkF m pc Ls st) rfl hs hd t k) (go x)
theorem Owe.lastoreA (X : Stand p l e R s m args below meth c T locs cells slots) (hx : p.tables.exec = Jvm.exec) (hZ : Z.Warmed39 s.vm) (eT : T.heap = h) {a : Addr} {k : ClassId} {n : Int32} {vs : List Value} {dv : Value} (V : Arv Z h a k .long n vs dv) {j : Int32} {x : Int64} (hin : ¬ j < 0 ∧ j < n) (hd : decode c.code pc = .ok (.lastore, 1)) {rest : List Value} (hs : st = .long x :: .int j :: .ref a :: rest)
    (go : ∀ (T' : State) (h' : Heap) (vs' : List Value), Stand p l e R s m args below meth c T' (locs ++ [⟨a, j.toNatClampNeg⟩]) cells slots → T'.heap = h' → Wr h h' a j.toNatClampNeg (.long x) → Arv Z h' a k .long n vs' dv → Owe p.tables e below G T' (mkF m (pc + 1) Ls rest)) : Owe p.tables e below G T (mkF m pc Ls st) := by
  obtain ⟨cl, A, q, S, M, H, U⟩ := V.pad (pad_rep vs dv n.toNatClampNeg)
  have hb := inb_of S hin
  have hlt : j.toNatClampNeg < cl.slots.size := Nat.lt_of_not_le fun z => hb (Or.inr z)
  obtain ⟨X', st'⟩ := X.lastore hx (by rw [eT]; exact A.1) (State.isArrayOf_alike hZ.alike A.2.1) A.2.2 hb (g := mkF m pc Ls st) rfl hs hd
  have W' : Wr h (T.setCell a (cl.setSlot j.toNatClampNeg (.long x))).heap a j.toNatClampNeg (.long x) := ⟨cl, A.1, A.plain, hlt, by rw [← eT]; rfl⟩
  exact Owe.by st' (go _ _ _ X' rfl W' (Arv.set A q S M H U rfl W' _ rfl (by simp; omega)))
theorem Owe.virtP (X : Stand p l e R s m args below meth c T locs cells slots) (hx : p.tables.exec = Jvm.exec) (hZ : Z.Warmed39 s.vm) {y : MethodName} {as' : Array Value} {Q : Option Value → Heap → List Loc → Prop} {W kc ks : Nat} {own C : String} {index ni maxL : Nat} {bytes : ByteArray} {ret : Option FieldType} (hown : s.vm.findClass own = some m.cls) (hlink : (Cond.methodLink own index y).before args s = true) (hinst : (Cond.instanceMethod y).before args s = true) (hpriv : (Cond.privateMethod y).before args s = true) (hcode : (Cond.code y bytes maxL ret).before args s = true) (hi : (Cond.instantiable y.cls ni).before args s = true) (hy : y.cls ≠ "java/lang/invoke/MethodHandle" ∧ y.cls ≠ "java/lang/invoke/VarHandle")
    (hK : Back l R p e below s args y 3 W (fun A a => a = as' ∧ A.U.heap = h ∧ A.cells + kc ≤ R.cells ∧ A.slots + ks ≤ R.slots) (fun A _ v B => ∃ L, Q v B.U.heap L ∧ B.locs = A.locs ++ L ∧ B.cells = A.cells + kc ∧ B.slots = A.slots + ks))
    (hsize : Ls.size = c.maxLocals) {a : Addr} {argsL rest : List Value} (E : Exa Z h a C) (hlen : ∀ sig, parseMethodDescriptor y.desc = some sig → argsL.length = sig.parameters.length) (hs : st = argsL.reverse ++ .ref a :: rest) (hW : (rest.map fun v => v.category).sum ≤ W) (hd : decode c.code pc = .ok (.invokevirtual index, 3))
    (has : (.ref a :: argsL).toArray = as') (eT : T.heap = h) (hc : cells + kc ≤ R.cells) (hl : slots + ks ≤ R.slots)
    (go : ∀ (T' : State) (v : Option Value) (L : List Loc), Stand p l e R s m args below meth c T' (locs ++ L) (cells + kc) (slots + ks) → Q v T'.heap L → Owe p.tables e below G T' (mkF m (pc + 3) Ls (v.toList ++ rest))) : Owe p.tables e below G T (mkF m pc Ls st) := by
  obtain ⟨cq, kq, qa, qb, ⟨cell, g1, g2, g3⟩⟩ := isOf hZ eT E
  obtain ⟨mk, methM, hnamed, hmethM, hstM, habM⟩ := Cond.instanceMethod_spec hinst
  obtain ⟨methM', cM, hmethM', -, -, -, -, -, -, hsigM⟩ := Cond.code_spec hnamed hcode
  cases hmethM.symm.trans hmethM'
  obtain ⟨cI, kI, i1, i2, -, i4, -⟩ := Cond.instantiable_spec hi
  cases (findClass_of_methodNamed hnamed).symm.trans i1
  have hni : kI.isInterface = false := (Bool.or_eq_false_iff.mp i4).1
  have hselP : selectMethod e.platform s.vm cell.cls mk = .method mk := selectMethod_private hmethM (Cond.privateMethod_at hpriv mk methM hnamed hmethM)
  obtain ⟨vm₁, X₁, hstep₁⟩ := X.invokevirtual hx hown hlink hnamed hmethM hstM i2 hni hy (a := a) (cell := cell) g1 (fun q z => by rw [z] at g3; cases g3) hselP hmethM habM i2 hni (g := mkF m pc Ls st) rfl (argsL := argsL) (rest := rest) (hlen _ hsigM) hs hd
  obtain ⟨v, ⟨T', L', k', n'⟩, X', ⟨L, hQ, l', y', z'⟩, st'⟩ := hK m meth c ⟨T.setVm vm₁, locs, cells, slots⟩ (mkF m pc Ls rest) (.invokevirtual index) mk (.ref a :: argsL).toArray X₁ rfl hsize hd (by show 2 * 0 + (rest.map fun v => v.category).sum ≤ W; omega) (X₁.named hnamed) ⟨has, eT, hc, hl⟩
  dsimp only [Pt.U, Pt.locs, Pt.cells, Pt.slots] at X' l' y' z' st' hQ
  subst l' y' z'
  exact Owe.by (fun t k => hstep₁ _ fun acts => by rw [doInvoke_state]; exact st'.trans k) (go T' v L X' hQ)
theorem Owe.ldc2D (X : Stand p l e R s m args below meth c T locs cells slots) (hx : p.tables.exec = Jvm.exec) {own : String} {index : Nat} {v : UInt64} (hown : s.vm.findClass own = some m.cls) (w : (Cond.constantDouble own index v).before args s = true) (hd : decode c.code pc = .ok (.ldc2_w index, 3)) (go : Owe p.tables e below G T (mkF m (pc + 3) Ls (.double v :: st))) : Owe p.tables e below G T (mkF m pc Ls st) :=
  Owe.by (X.ldc2DoubleC hx hown w (g := mkF m pc Ls st) rfl hd) go
theorem Owe.retJ (X : Stand p l e R s m args below meth c T locs cells slots) (hx : p.tables.exec = Jvm.exec) (hlk : meth.locks = false) {z : Int64} {rest : List Value} (hret : meth.sig.returnType = some .long) (hd : decode c.code pc = .ok (.lreturn, 1)) (hs : st = .long z :: rest)
    (go : ∀ fs : List Frame, FrameEnd s (.returned (some (.long z))) (T.setFrames fs) locs cells slots → G (.returned (some (.long z))) (T.setFrames fs)) : Owe p.tables e below G T (mkF m pc Ls st) := by
  subst hs
  obtain ⟨fs, hr, hrun, hended, hW, hsame⟩ := X.leave (v := some (.long z)) (fun h => by rw [hret] at h; cases h) hlk
  have hm' : T.vm.method? m = some meth := X.method'
  have hn : narrow .long (.long z) = .long z := rfl
  refine ⟨_, _, ?_, hrun, hended, go fs ⟨⟨_, rfl⟩, hW, hsame⟩⟩
  show Steps p.tables e below (T.setTop { method := m, pc := pc, locals := Ls, stack := _ :: rest, locked := none }) _
  jvm_step X.here [X.here.top, hx, hd, hm', hret, hn]
  first | (intro acts; rw [hr _ acts rfl rfl rfl]) | rw [hr _ _ rfl rfl rfl]
  exact Steps.refl _
theorem Owe.retD (X : Stand p l e R s m args below meth c T locs cells slots) (hx : p.tables.exec = Jvm.exec) (hlk : meth.locks = false) {z : UInt64} {rest : List Value} (hret : meth.sig.returnType = some .double) (hd : decode c.code pc = .ok (.dreturn, 1)) (hs : st = .double z :: rest)
    (go : ∀ fs : List Frame, FrameEnd s (.returned (some (.double z))) (T.setFrames fs) locs cells slots → G (.returned (some (.double z))) (T.setFrames fs)) : Owe p.tables e below G T (mkF m pc Ls st) := by
  subst hs
  obtain ⟨fs, hr, hrun, hended, hW, hsame⟩ := X.leave (v := some (.double z)) (fun h => by rw [hret] at h; cases h) hlk
  have hm' : T.vm.method? m = some meth := X.method'
  have hn : narrow .double (.double z) = .double z := rfl
  refine ⟨_, _, ?_, hrun, hended, go fs ⟨⟨_, rfl⟩, hW, hsame⟩⟩
  show Steps p.tables e below (T.setTop { method := m, pc := pc, locals := Ls, stack := _ :: rest, locked := none }) _
  jvm_step X.here [X.here.top, hx, hd, hm', hret, hn]
  first | (intro acts; rw [hr _ acts rfl rfl rfl]) | rw [hr _ _ rfl rfl rfl]
  exact Steps.refl _
end
end Own
end Jvm.Pilot.@@N@@
namespace Jvm.Pilot.@@N@@
open Jvm Jvm.ClassFile Sem Op Lib Jvm.Free Jvm.Stand Jvm.LawKit Jvm.RoadKit Bundle Jvm.Pilot.@@N@@.Jvm.D Jvm.Pilot.@@N@@.Own
open Native.java_lang_Math.nans (pick64)
abbrev Hw (Z : State) (a0 : Array Value) : Prop := ∀ d ∈ tables_1, d.before a0 Z = true
theorem wd {Z : State} {a0 : Array Value} (hw : Hw Z a0) (i : Nat) {d : Jvm.Cond} (h : tables_1[i]? = some d := by rfl) : d.before a0 Z = true := hw d (List.mem_of_getElem? h)
theorem nb {a b : Nat} (h : Nat.ble a b = true) : a ≤ b := Nat.le_of_ble_eq_true h
abbrev MF (l : Launch) (Z : State) (y : MethodName) (bytes : ByteArray) (maxL : Nat) (ret : Option FieldType) (ws : List Jvm.Cond) (RT : Room) (as' : Array Value) (h0 : Heap) (Q : Option Value → Heap → List Loc → Prop) : Prop :=
  MetFree l y (head1 (Jvm.Cond.code y bytes maxL ret :: ws) RT) (fun a U => a = as' ∧ Z.Warmed39 U.vm ∧ U.heap = h0) (fun _ _ _ _ _ => True) (fun _ U o U' => ∃ v L, o = .returned v ∧ Q v U'.heap L ∧ FrameEnd U o U' L RT.cells RT.slots)
theorem MF.of {l : Launch} {Z : State} {y : MethodName} {bytes : ByteArray} {maxL : Nat} {ret : Option FieldType} {ws : List Jvm.Cond} {RT : Room} {as' : Array Value} {h0 : Heap} {Q : Option Value → Heap → List Loc → Prop} {Ls : Array Slot} (pn : plainFor y = true) (ef : ∀ m, entryFrame m as' maxL = mkF m 0 Ls [])
    (k : ∀ (p : Program) (e : Env) (s : State) (m : MethodId) (below : List Frame) (meth : Method) (c : Code) (s₁ : State) (G : Outcome → State → Prop), Stand p l e RT s m as' below meth c s₁ [] 0 0 → s₁.heap = h0 → p.tables.exec = Jvm.exec → c.code = bytes → c.maxLocals = maxL → s.vm.findClass y.cls = some m.cls → meth.name = y.name → meth.locks = false → meth.sig.returnType = ret → Z.Warmed39 s.vm → s.methodNamed? y = some m →
      (∀ o u, (∃ v L, o = .returned v ∧ Q v u.heap L ∧ FrameEnd s o u L RT.cells RT.slots) → G o u) → Owe p.tables e below G s₁ (mkF m 0 Ls [])) : MF l Z y bytes maxL ret ws RT as' h0 Q := by
  refine MetFree.of_bodySF pn hisR ?_
  intro p e s m args below meth c s₁ Bd hml hP hK
  obtain ⟨rfl, hZ, hh⟩ := hP
  obtain ⟨u, o, h1, h2, h3, h4⟩ := k p e s m below meth c s₁ (fun o u => ∃ v L, o = .returned v ∧ Q v u.heap L ∧ FrameEnd s o u L RT.cells RT.slots) (Stand.of_body Bd) (by rw [← hh, Bd.state]; rfl) Bd.exec Bd.bytes hml (findClass_of_methodNamed Bd.named) (name_of_methodNamed Bd.named Bd.method).1 (BodyLoose.notSynchronized Bd) Bd.returns hZ Bd.named (fun _ _ q => q)
  exact ⟨u, o, castTop (ef m) h1, h2, h3, h4⟩
theorem and255_chars (x : Int32) : ¬ nar .char ((x &&& (255 : Int32)).toUInt32.toUInt16.toUInt32.toInt32) < 0 ∧ ¬ (255 : Int32) < nar .char ((x &&& (255 : Int32)).toUInt32.toUInt16.toUInt32.toInt32) := by
  have t : ∀ k : Fin 256, ¬ nar .char ((Int32.ofNat k.val).toUInt32.toUInt16.toUInt32.toInt32) < 0 ∧ ¬ (255 : Int32) < nar .char ((Int32.ofNat k.val).toUInt32.toUInt16.toUInt32.toInt32) := by decide +kernel
  have h : (x &&& 255).toBitVec.toNat < 256 := by
    simp only [Int32.toBitVec_and, BitVec.toNat_and]
    exact Nat.lt_succ_of_le Nat.and_le_right
  have e : (x &&& 255) = Int32.ofNat (x &&& 255).toBitVec.toNat := by
    apply Int32.toBitVec_inj.mp
    show _ = BitVec.ofNat 32 _
    rw [BitVec.ofNat_toNat]; simp
  rw [e]
  exact t ⟨_, h⟩
theorem own_narrow_ref {v : Value} {t : FieldType} (h : v.isRef = true) (ht : t.isReference = true) : narrow t v = v := by cases t <;> first | (cases ht; done) | (cases v <;> first | rfl | (cases h; done))
theorem own_fits_ref {v : Value} {t : FieldType} (h : v.isRef = true) (ht : t.isReference = true) : fits t v = true := by cases t <;> first | (cases ht; done) | (cases v <;> first | rfl | (cases h; done))
theorem own_cat_ref {v : Value} (h : v.isRef = true) : v.category = 1 := by cases v <;> first | rfl | (cases h; done)
theorem own_ix0 {q N : Int32} (h : 0 ≤ q.toInt ∧ q.toInt + 4 < N.toInt) : ¬ q < 0 ∧ q < N := by
  have e0 : (0 : Int32).toInt = 0 := rfl
  simp only [Int32.lt_iff_toInt_lt, e0]; omega
theorem own_ix1 {q N d : Int32} (h : 0 ≤ q.toInt ∧ q.toInt + 4 < N.toInt) (h0 : 0 ≤ d.toInt) (h1 : d.toInt ≤ 3) : ¬ (q + d) < 0 ∧ (q + d) < N := by
  have e0 : (0 : Int32).toInt = 0 := rfl
  have a := c_iadd q d
  have r := rng32 N; have r2 := rng32 (q + d)
  simp only [Int32.lt_iff_toInt_lt, e0]; omega
theorem own_ix2 {q N d : Int32} (h : 0 ≤ q.toInt ∧ q.toInt + 4 < N.toInt) (h0 : 0 ≤ d.toInt) (h1 : d.toInt ≤ 3) : ¬ (q + d + (1 : Int32)) < 0 ∧ (q + d + (1 : Int32)) < N := by
  have e0 : (0 : Int32).toInt = 0 := rfl
  have e1 : (1 : Int32).toInt = 1 := rfl
  have a := c_iadd q d
  have b := c_iadd (q + d) (1 : Int32)
  have r := rng32 N; have r2 := rng32 (q + d); have r3 := rng32 (q + d + (1 : Int32))
  simp only [Int32.lt_iff_toInt_lt, e0]; omega
theorem own_n2047 {e : Int32} (h : 0 ≤ e.toInt ∧ e.toInt ≤ 1055) : ¬ e = (2047 : Int32) := fun q => by
  rw [q] at h; revert h; decide
theorem own_nac {a : Int32} {bd : Int} (h : 0 ≤ a.toInt ∧ a.toInt ≤ bd) (hb : bd ≤ 100) : ¬ a = (536870912 : Int32) := fun q => by
  rw [q] at h
  have e : (536870912 : Int32).toInt = 536870912 := rfl
  omega
theorem own_as0 {a : Int32} {bd : Int} (h : 0 ≤ a.toInt ∧ a.toInt ≤ bd) : 0 ≤ a.toInt ∧ a.toInt ≤ bd + 1 := by omega
theorem own_as1 {a : Int32} {bd : Int} (h : 0 ≤ a.toInt ∧ a.toInt ≤ bd) (hb : bd ≤ 100) : 0 ≤ (a + (1 : Int32)).toInt ∧ (a + (1 : Int32)).toInt ≤ bd + 1 := by
  have e1 : (1 : Int32).toInt = 1 := rfl
  have b := c_iadd a (1 : Int32)
  have r3 := rng32 (a + (1 : Int32))
  omega
theorem own_exp {x : UInt64} (h : Jvm.Free.Fl.Mag64 1056 x) : 0 ≤ ((((x.toInt64).toUInt64 >>> ((52 : Int32) &&& 0x3f).toInt64.toUInt64).toInt64).toInt32 &&& (2047 : Int32)).toInt ∧ ((((x.toInt64).toUInt64 >>> ((52 : Int32) &&& 0x3f).toInt64.toUInt64).toInt64).toInt32 &&& (2047 : Int32)).toInt ≤ 1055 := by
  have a := c_lushr (x.toInt64) (52 : Int32) 52 rfl (by decide)
  have b := c_l2i (((x.toInt64).toUInt64 >>> ((52 : Int32) &&& 0x3f).toInt64.toUInt64).toInt64)
  have c := c_mask ((((x.toInt64).toUInt64 >>> ((52 : Int32) &&& 0x3f).toInt64.toUInt64).toInt64).toInt32) (2047 : Int32) 11 (by decide) (by decide)
  have e : (x.toInt64).toInt % 18446744073709551616 = x.toNat := by
    have q : (x.toInt64).toInt = x.toBitVec.toInt := rfl
    have z : x.toBitVec.toNat = x.toNat := rfl
    have lt := x.toBitVec.isLt
    rw [q, BitVec.toInt_eq_toNat_cond, z]
    split <;> omega
  unfold Jvm.Free.Fl.Mag64 at h
  have hx : x.toNat < 18446744073709551616 := x.toNat_lt
  rw [e] at a
  omega
theorem own_q1 {e : Int32} (h : 0 ≤ e.toInt ∧ e.toInt ≤ 1055) (h0 : ¬ e = (0 : Int32)) : 0 ≤ (((e - (1075 : Int32)) - (-1074 : Int32)) / (32 : Int32)).toInt ∧ (((e - (1075 : Int32)) - (-1074 : Int32)) / (32 : Int32)).toInt + 4 < (69 : Int32).toInt := by
  have h1 : ¬ e.toInt = 0 := fun q => h0 (Int32.toInt_inj.mp q)
  have a := c_isub e (1075 : Int32); have b := c_isub (e - (1075 : Int32)) (-1074 : Int32)
  have e1 : (1075 : Int32).toInt = 1075 := rfl
  have e2 : (-1074 : Int32).toInt = -1074 := rfl
  have e3 : (69 : Int32).toInt = 69 := rfl
  have r1 := rng32 (e - (1075 : Int32)); have r2 := rng32 ((e - (1075 : Int32)) - (-1074 : Int32))
  have k : ((e - (1075 : Int32)) - (-1074 : Int32)).toInt = e.toInt - 1 := by omega
  have d := (c_idiv ((e - (1075 : Int32)) - (-1074 : Int32)) (32 : Int32) 32 (by decide) (by decide)).1 (by omega)
  rw [d, k, e3]; omega
theorem own_q2 {e : Int32} (h : 0 ≤ e.toInt ∧ e.toInt ≤ 1055) (h0 : ¬ e = (0 : Int32)) : 0 ≤ ((((2 : Int32) * (e - (1075 : Int32))) - (-2148 : Int32)) / (32 : Int32)).toInt ∧ ((((2 : Int32) * (e - (1075 : Int32))) - (-2148 : Int32)) / (32 : Int32)).toInt + 4 < (135 : Int32).toInt := by
  have h1 : ¬ e.toInt = 0 := fun q => h0 (Int32.toInt_inj.mp q)
  have a := c_isub e (1075 : Int32); have c := c_imul (2 : Int32) (e - (1075 : Int32)); have b := c_isub ((2 : Int32) * (e - (1075 : Int32))) (-2148 : Int32)
  have e1 : (1075 : Int32).toInt = 1075 := rfl
  have e2 : (-2148 : Int32).toInt = -2148 := rfl
  have e3 : (135 : Int32).toInt = 135 := rfl
  have e4 : (2 : Int32).toInt = 2 := rfl
  have r1 := rng32 (e - (1075 : Int32)); have r2 := rng32 (((2 : Int32) * (e - (1075 : Int32))) - (-2148 : Int32)); have r3 := rng32 ((2 : Int32) * (e - (1075 : Int32)))
  have k1 : (e - (1075 : Int32)).toInt = e.toInt - 1075 := by omega
  rw [e4, k1] at c
  have k : (((2 : Int32) * (e - (1075 : Int32))) - (-2148 : Int32)).toInt = 2 * e.toInt - 2 := by omega
  have d := (c_idiv (((2 : Int32) * (e - (1075 : Int32))) - (-2148 : Int32)) (32 : Int32) 32 (by decide) (by decide)).1 (by omega)
  rw [d, k, e3]; omega
theorem own_b53 (a : Int32) : B53 a.toInt64 := by
  have r := rng32 a
  have e : a.toInt64.toInt = a.toInt := Int32.toInt_toInt64 a
  apply b53
  · rw [Int64.lt_iff_toInt_lt, e]; have q : (-9007199254740992 : Int64).toInt = -9007199254740992 := rfl; omega
  · rw [Int64.lt_iff_toInt_lt, e]; have q : (9007199254740992 : Int64).toInt = 9007199254740992 := rfl; omega
theorem own_l64 {a b : Int32} : a.toInt64 < b.toInt64 ↔ a < b := by
  rw [Int64.lt_iff_toInt_lt, Int32.lt_iff_toInt_lt, Int32.toInt_toInt64, Int32.toInt_toInt64]
theorem own_n1 (a : Int32) : pick64 true (18442240474082181120 : UInt64) (FP.i2d a) = FP.i2d a := by
  have q : FP.dcmp (18442240474082181120 : UInt64) (FP.i2d a) = some .lt := (FP.Core.fin_lt_inf (FP.Core.i2d_fin a)).2.2.2
  simp [pick64, q]
theorem own_m1 (a : Int32) : pick64 false (9218868437227405312 : UInt64) (FP.i2d a) = FP.i2d a := by
  have q : FP.dcmp (9218868437227405312 : UInt64) (FP.i2d a) = some .gt := (FP.Core.fin_lt_inf (FP.Core.i2d_fin a)).2.2.1
  simp [pick64, q]
theorem own_lt {a b : Int32} (h : a < b) : pick64 true (FP.i2d a) (FP.i2d b) = FP.i2d b := by
  rw [i2d_w, i2d_w]; exact max_l (own_b53 a) (own_b53 b) (own_l64.mpr h)
theorem own_ge {a b : Int32} (h : ¬ a < b) : pick64 true (FP.i2d a) (FP.i2d b) = FP.i2d a := by
  rw [i2d_w, i2d_w]; exact max_g (own_b53 a) (own_b53 b) (fun q => h (own_l64.mp q))
theorem own_mlt {a b : Int32} (h : b < a) : pick64 false (FP.i2d a) (FP.i2d b) = FP.i2d b := by
  rw [i2d_w, i2d_w]
  refine min_g (own_b53 a) (own_b53 b) (fun q => ?_)
  have q2 := own_l64.mp q
  rw [Int32.lt_iff_toInt_lt] at h q2; omega
theorem own_mge {a b : Int32} (h : ¬ b < a) : pick64 false (FP.i2d a) (FP.i2d b) = FP.i2d a := by
  by_cases q : a < b
  · rw [i2d_w, i2d_w]; exact min_l (own_b53 a) (own_b53 b) (own_l64.mpr q)
  · have e : a = b := by
      apply Int32.toInt_inj.mp
      rw [Int32.lt_iff_toInt_lt] at h q; omega
    subst e
    rw [i2d_w]; exact min_g (own_b53 a) (own_b53 a) (fun z => by rw [Int64.lt_iff_toInt_lt] at z; omega)
theorem own_nnx (a : Int32) : FP.dIsNaN (FP.i2d a) = false := by
  exact FP.Core.DFin.notNaN (FP.Core.i2d_fin a)
theorem own_nnp {g : Bool} {a b : UInt64} (ha : FP.dIsNaN a = false) (hb : FP.dIsNaN b = false) : FP.dIsNaN (pick64 g a b) = false := by
  rcases Jvm.Free.Fl.pick64_or g a b with h | h <;> rw [h] <;> assumption
theorem own_self (a : Int32) (o : CmpOp) : cmpValue (FP.dcmp (FP.i2d a) (FP.i2d a)) o = 0 := by
  rw [i2d_w, dcmpV_w (own_b53 a) (own_b53 a)]
  simp [lcmpW]
theorem own_and3 (x : Int32) : (x &&& (3 : Int32)) = (0 : Int32) ∨ (x &&& (3 : Int32)) = (1 : Int32) ∨ (x &&& (3 : Int32)) = (2 : Int32) ∨ (x &&& (3 : Int32)) = (3 : Int32) := by
  have h := c_mask x (3 : Int32) 2 (by decide) (by decide)
  have e : (x &&& (3 : Int32)).toInt = 0 ∨ (x &&& (3 : Int32)).toInt = 1 ∨ (x &&& (3 : Int32)).toInt = 2 ∨ (x &&& (3 : Int32)).toInt = 3 := by omega
  simp only [← Int32.toInt_inj]
  exact e
abbrev Y0 : MethodName := ⟨"com/example/rill/rill/collectors/FixedPointSum", "<init>", "(I)V"⟩
abbrev Y1 : MethodName := ⟨"com/example/rill/rill/collectors/FixedPointSum", "addChunk", "(ZJII)V"⟩
abbrev Y2 : MethodName := ⟨"com/example/rill/rill/collectors/FixedPointSum", "add", "(ZJJI)V"⟩
abbrev Y3 : MethodName := ⟨"java/lang/Math", "multiplyHigh", "(JJ)J"⟩
abbrev Y4 : MethodName := ⟨"com/example/rill/rill/collectors/ExactMoments", "<init>", "(Z)V"⟩
abbrev Y5 : MethodName := ⟨"com/example/rill/rill/collectors/ExactMoments", "add", "(D)V"⟩
abbrev Y6 : MethodName := ⟨"com/example/rill/rill/collectors/ExactMoments", "least", "()D"⟩
theorem pd_0 : parseMethodDescriptor "(ZJII)V" = some ⟨[.boolean, .long, .int, .int], none⟩ := by decide +kernel
theorem pd_1 : parseMethodDescriptor "(I)V" = some ⟨[.int], none⟩ := by decide +kernel
theorem pd_2 : parseMethodDescriptor "(ZJJI)V" = some ⟨[.boolean, .long, .long, .int], none⟩ := by decide +kernel
theorem pd_3 : parseMethodDescriptor "(JJ)J" = some ⟨[.long, .long], some .long⟩ := by decide +kernel
theorem pd_4 : parseMethodDescriptor "(Z)V" = some ⟨[.boolean], none⟩ := by decide +kernel
theorem pd_5 : parseMethodDescriptor "()D" = some ⟨[], some .double⟩ := by decide +kernel
theorem pd_6 : parseMethodDescriptor "(D)V" = some ⟨[.double], none⟩ := by decide +kernel
theorem d0_0 : decode prog_41_method_1_code 0 = .ok (.aload_n 0, 1) := by decide +kernel
theorem d0_1 : decode prog_41_method_1_code 1 = .ok (.invokespecial 3, 3) := by decide +kernel
theorem d0_4 : decode prog_41_method_1_code 4 = .ok (.aload_n 0, 1) := by decide +kernel
theorem d0_5 : decode prog_41_method_1_code 5 = .ok (.iload_n 1, 1) := by decide +kernel
theorem d0_6 : decode prog_41_method_1_code 6 = .ok (.bipush 64, 2) := by decide +kernel
theorem d0_8 : decode prog_41_method_1_code 8 = .ok (.iadd, 1) := by decide +kernel
theorem d0_9 : decode prog_41_method_1_code 9 = .ok (.bipush 32, 2) := by decide +kernel
theorem d0_11 : decode prog_41_method_1_code 11 = .ok (.idiv, 1) := by decide +kernel
theorem d0_12 : decode prog_41_method_1_code 12 = .ok (.iconst 2, 1) := by decide +kernel
theorem d0_13 : decode prog_41_method_1_code 13 = .ok (.iadd, 1) := by decide +kernel
theorem d0_14 : decode prog_41_method_1_code 14 = .ok (.newarray .long, 2) := by decide +kernel
theorem d0_16 : decode prog_41_method_1_code 16 = .ok (.putfield 9, 3) := by decide +kernel
theorem d0_19 : decode prog_41_method_1_code 19 = .ok (.return_, 1) := by decide +kernel
theorem pn_0 : plainName "com/example/rill/rill/collectors/FixedPointSum" = true := by first | (simp [plainName, overriddenIn]; done) | decide +kernel
theorem ef_fsi69 (m : MethodId) (x0 : Addr) (x1 : Int32)  : entryFrame m #[(.ref x0), (.int x1)] 2 = mkF m 0 #[.val (.ref x0), .val (.int x1)] [] := by first | (simp [entryFrame, mkF, argsToLocals, Value.category]; done) | rfl
def Qfsi69 (Z : State) (a1 : Addr) (h0 : Heap) (n0 : Nat) (v : Option Value) (h : Heap) (L : List Loc) : Prop := ∃ (l1 : Addr), ∃ (kl : ClassId), v = none ∧ Fr n0 L ∧ Keep h0 h [a1] ∧ n0 ≤ l1 ∧ h0.size ≤ l1 ∧ Exa Z h a1 "com/example/rill/rill/collectors/FixedPointSum" ∧ Fld Z h a1 "com/example/rill/rill/collectors/FixedPointSum" "limbs" "[J" (.ref l1) ∧ Fld Z h a1 "com/example/rill/rill/collectors/FixedPointSum" "additionsSinceCarry" "I" (.int (0 : Int32)) ∧ Arv Z h l1 kl .long (69 : Int32) [] (.long (0 : Int64))
set_option maxRecDepth 65536 in
set_option maxHeartbeats 40000000 in
theorem rmfsi69 (l : Launch) (Z : State) (a0 : Array Value) (hw : Hw Z a0) (ws : List Jvm.Cond) (a1 : Addr) (h0 : Heap) (n0 : Nat) (Z0 : n0 ≤ h0.size) (E_a1 : Exa Z h0 a1 "com/example/rill/rill/collectors/FixedPointSum") (Flimbs_a1 : Fld Z h0 a1 "com/example/rill/rill/collectors/FixedPointSum" "limbs" "[J" .null) (FadditionsSinceCarry_a1 : Fld Z h0 a1 "com/example/rill/rill/collectors/FixedPointSum" "additionsSinceCarry" "I" (.int (0 : Int32))) (ge_a1 : n0 ≤ a1) :
    MF l Z Y0 prog_41_method_1_code 2 none ws ({ frames := 1, cells := 1, slots := 69, locals := 12 } : Room) #[(.ref a1), (.int (2098 : Int32))] h0 (Qfsi69 Z a1 h0 n0) := by
  refine MF.of (plainFor_of_name pn_0) (fun m => ef_fsi69 m a1 (2098 : Int32)) ?_
  intro p e s m below meth c s₁ G X0 e0 hx hby hml hown hnm hlk hrt hZ hnd hG
  have N0 := Fr.nil n0
  have K0 := Keep.refl h0 [a1]
  refine Owe.aloadN X0.here hx (hb hby d0_0) rfl rfl ?_
  refine Owe.objinit X0 hx hZ hown (wd hw 15) (wd hw 7) (wd hw 8) e0 (by rw [hml]; rfl) rfl (hb hby d0_1) (by decide) (W := 0) (nb rfl) (by decide) fun T1 X1 e1 => ?_
  refine Owe.aloadN X1.here hx (hb hby d0_4) rfl rfl ?_
  refine Owe.iloadN X1.here hx (hb hby d0_5) rfl ?_
  refine Owe.bipush X1.here hx (hb hby d0_6) (w := (64 : Int32)) rfl ?_
  refine Owe.iadd X1.here hx (hb hby d0_8) rfl ?_
  refine Owe.bipush X1.here hx (hb hby d0_9) (w := (32 : Int32)) rfl ?_
  refine Owe.idiv X1.here hx (hb hby d0_11) rfl (by decide) ?_
  refine Owe.iconst X1.here hx (hb hby d0_12) (w := (2 : Int32)) rfl ?_
  refine Owe.iadd X1.here hx (hb hby d0_13) rfl ?_
  refine Owe.newarr X1 hx hZ (aty := .long) (wd hw 16) e1 (hb hby d0_14) rfl (by decide) (cap := 69) (by decide) (by decide) (by decide) (by decide) fun T2 h2 b2 k2 g2 X2 e2 E2 V2 => ?_
  have ne_a1_b2 : a1 ≠ b2 := Nat.ne_of_lt (Nat.lt_of_lt_of_le E_a1.lt (Nat.le_of_eq g2.symm))
  have sz_b2 := Nat.le_trans K0.1 (Nat.le_of_eq g2.symm)
  have ge_b2 := Nat.le_trans Z0 (Nat.le_of_eq g2.symm)
  have K_3 := K0.ext E2
  have E_a1_4 := E_a1.ext E2
  have Flimbs_a1_5 := Flimbs_a1.ext E2
  have FadditionsSinceCarry_a1_6 := FadditionsSinceCarry_a1.ext E2
  have Z_7 := Nat.le_trans Z0 E2.1
  refine Owe.putf X2 hx hZ (host := "") hown (Or.inl (wd hw 17)) Via.refl e2 Flimbs_a1_5 E_a1_4 (Or.inr ⟨(wd hw 18), rfl, hnm⟩) (wd hw 10) (ty := (.array .long)) (by decide) rfl rfl (hb hby d0_16) rfl fun T8 h8 X8 e8 W8 => ?_
  have K_9 := K_3.wr W8 (Or.inl (List.mem_of_getElem? (i := 0) rfl))
  have E_a1_10 := E_a1_4.wr W8
  have Flimbs_a1_11 := Flimbs_a1_5.same W8
  have FadditionsSinceCarry_a1_12 := FadditionsSinceCarry_a1_6.other W8 (Or.inr (slot_ne (Or.inl (wd hw 61)) (Or.inr (wd hw 18)) (by decide) (t := .int) (t' := (.array .long)) (by decide) (by decide)))
  have V2_13 := V2.other W8 (Ne.symm ne_a1_b2)
  have Z_14 := Nat.le_trans Z_7 (Keep.of_wr W8).1
  have N8 := Fr.snoc X8 N0 ge_a1
  refine Owe.ret0 X8 hx hlk hrt (hb hby d0_19) rfl fun fs hE => ?_
  refine hG _ _ ⟨_, _, rfl, ?_, frameMono hE (by decide) (by decide)⟩
  show Qfsi69 Z a1 h0 n0 _ T8.heap _
  rw [e8]
  exact ⟨b2, k2, rfl, N8, K_9, ge_b2, sz_b2, E_a1_10, Flimbs_a1_11, FadditionsSinceCarry_a1_12, V2_13⟩
theorem ef_fsi135 (m : MethodId) (x0 : Addr) (x1 : Int32)  : entryFrame m #[(.ref x0), (.int x1)] 2 = mkF m 0 #[.val (.ref x0), .val (.int x1)] [] := by first | (simp [entryFrame, mkF, argsToLocals, Value.category]; done) | rfl
def Qfsi135 (Z : State) (a1 : Addr) (h0 : Heap) (n0 : Nat) (v : Option Value) (h : Heap) (L : List Loc) : Prop := ∃ (l1 : Addr), ∃ (kl : ClassId), v = none ∧ Fr n0 L ∧ Keep h0 h [a1] ∧ n0 ≤ l1 ∧ h0.size ≤ l1 ∧ Exa Z h a1 "com/example/rill/rill/collectors/FixedPointSum" ∧ Fld Z h a1 "com/example/rill/rill/collectors/FixedPointSum" "limbs" "[J" (.ref l1) ∧ Fld Z h a1 "com/example/rill/rill/collectors/FixedPointSum" "additionsSinceCarry" "I" (.int (0 : Int32)) ∧ Arv Z h l1 kl .long (135 : Int32) [] (.long (0 : Int64))
set_option maxRecDepth 65536 in
set_option maxHeartbeats 40000000 in
theorem rmfsi135 (l : Launch) (Z : State) (a0 : Array Value) (hw : Hw Z a0) (ws : List Jvm.Cond) (a1 : Addr) (h0 : Heap) (n0 : Nat) (Z0 : n0 ≤ h0.size) (E_a1 : Exa Z h0 a1 "com/example/rill/rill/collectors/FixedPointSum") (Flimbs_a1 : Fld Z h0 a1 "com/example/rill/rill/collectors/FixedPointSum" "limbs" "[J" .null) (FadditionsSinceCarry_a1 : Fld Z h0 a1 "com/example/rill/rill/collectors/FixedPointSum" "additionsSinceCarry" "I" (.int (0 : Int32))) (ge_a1 : n0 ≤ a1) :
    MF l Z Y0 prog_41_method_1_code 2 none ws ({ frames := 1, cells := 1, slots := 135, locals := 12 } : Room) #[(.ref a1), (.int (4196 : Int32))] h0 (Qfsi135 Z a1 h0 n0) := by
  refine MF.of (plainFor_of_name pn_0) (fun m => ef_fsi135 m a1 (4196 : Int32)) ?_
  intro p e s m below meth c s₁ G X0 e0 hx hby hml hown hnm hlk hrt hZ hnd hG
  have N0 := Fr.nil n0
  have K0 := Keep.refl h0 [a1]
  refine Owe.aloadN X0.here hx (hb hby d0_0) rfl rfl ?_
  refine Owe.objinit X0 hx hZ hown (wd hw 15) (wd hw 7) (wd hw 8) e0 (by rw [hml]; rfl) rfl (hb hby d0_1) (by decide) (W := 0) (nb rfl) (by decide) fun T15 X15 e15 => ?_
  refine Owe.aloadN X15.here hx (hb hby d0_4) rfl rfl ?_
  refine Owe.iloadN X15.here hx (hb hby d0_5) rfl ?_
  refine Owe.bipush X15.here hx (hb hby d0_6) (w := (64 : Int32)) rfl ?_
  refine Owe.iadd X15.here hx (hb hby d0_8) rfl ?_
  refine Owe.bipush X15.here hx (hb hby d0_9) (w := (32 : Int32)) rfl ?_
  refine Owe.idiv X15.here hx (hb hby d0_11) rfl (by decide) ?_
  refine Owe.iconst X15.here hx (hb hby d0_12) (w := (2 : Int32)) rfl ?_
  refine Owe.iadd X15.here hx (hb hby d0_13) rfl ?_
  refine Owe.newarr X15 hx hZ (aty := .long) (wd hw 16) e15 (hb hby d0_14) rfl (by decide) (cap := 135) (by decide) (by decide) (by decide) (by decide) fun T16 h16 b16 k16 g16 X16 e16 E16 V16 => ?_
  have ne_a1_b16 : a1 ≠ b16 := Nat.ne_of_lt (Nat.lt_of_lt_of_le E_a1.lt (Nat.le_of_eq g16.symm))
  have sz_b16 := Nat.le_trans K0.1 (Nat.le_of_eq g16.symm)
  have ge_b16 := Nat.le_trans Z0 (Nat.le_of_eq g16.symm)
  have K_17 := K0.ext E16
  have E_a1_18 := E_a1.ext E16
  have Flimbs_a1_19 := Flimbs_a1.ext E16
  have FadditionsSinceCarry_a1_20 := FadditionsSinceCarry_a1.ext E16
  have Z_21 := Nat.le_trans Z0 E16.1
  refine Owe.putf X16 hx hZ (host := "") hown (Or.inl (wd hw 17)) Via.refl e16 Flimbs_a1_19 E_a1_18 (Or.inr ⟨(wd hw 18), rfl, hnm⟩) (wd hw 10) (ty := (.array .long)) (by decide) rfl rfl (hb hby d0_16) rfl fun T22 h22 X22 e22 W22 => ?_
  have K_23 := K_17.wr W22 (Or.inl (List.mem_of_getElem? (i := 0) rfl))
  have E_a1_24 := E_a1_18.wr W22
  have Flimbs_a1_25 := Flimbs_a1_19.same W22
  have FadditionsSinceCarry_a1_26 := FadditionsSinceCarry_a1_20.other W22 (Or.inr (slot_ne (Or.inl (wd hw 61)) (Or.inr (wd hw 18)) (by decide) (t := .int) (t' := (.array .long)) (by decide) (by decide)))
  have V16_27 := V16.other W22 (Ne.symm ne_a1_b16)
  have Z_28 := Nat.le_trans Z_21 (Keep.of_wr W22).1
  have N22 := Fr.snoc X22 N0 ge_a1
  refine Owe.ret0 X22 hx hlk hrt (hb hby d0_19) rfl fun fs hE => ?_
  refine hG _ _ ⟨_, _, rfl, ?_, frameMono hE (by decide) (by decide)⟩
  show Qfsi135 Z a1 h0 n0 _ T22.heap _
  rw [e22]
  exact ⟨b16, k16, rfl, N22, K_23, ge_b16, sz_b16, E_a1_24, Flimbs_a1_25, FadditionsSinceCarry_a1_26, V16_27⟩
theorem d1_0 : decode prog_41_method_3_code 0 = .ok (.lload_n 2, 1) := by decide +kernel
theorem d1_1 : decode prog_41_method_3_code 1 = .ok (.lconst 0, 1) := by decide +kernel
theorem d1_2 : decode prog_41_method_3_code 2 = .ok (.lcmp, 1) := by decide +kernel
theorem d1_3 : decode prog_41_method_3_code 3 = .ok (.ifCond .ne 4, 3) := by decide +kernel
theorem d1_6 : decode prog_41_method_3_code 6 = .ok (.return_, 1) := by decide +kernel
theorem d1_7 : decode prog_41_method_3_code 7 = .ok (.lload_n 2, 1) := by decide +kernel
theorem d1_8 : decode prog_41_method_3_code 8 = .ok (.iload 5, 2) := by decide +kernel
theorem d1_10 : decode prog_41_method_3_code 10 = .ok (.lshl, 1) := by decide +kernel
theorem d1_11 : decode prog_41_method_3_code 11 = .ok (.lstore 6, 2) := by decide +kernel
theorem d1_13 : decode prog_41_method_3_code 13 = .ok (.lload 6, 2) := by decide +kernel
theorem d1_15 : decode prog_41_method_3_code 15 = .ok (.ldc2_w 21, 3) := by decide +kernel
theorem d1_18 : decode prog_41_method_3_code 18 = .ok (.land, 1) := by decide +kernel
theorem d1_19 : decode prog_41_method_3_code 19 = .ok (.lstore 8, 2) := by decide +kernel
theorem d1_21 : decode prog_41_method_3_code 21 = .ok (.lload 6, 2) := by decide +kernel
theorem d1_23 : decode prog_41_method_3_code 23 = .ok (.bipush 32, 2) := by decide +kernel
theorem d1_25 : decode prog_41_method_3_code 25 = .ok (.lushr, 1) := by decide +kernel
theorem d1_26 : decode prog_41_method_3_code 26 = .ok (.lstore 10, 2) := by decide +kernel
theorem d1_28 : decode prog_41_method_3_code 28 = .ok (.iload_n 1, 1) := by decide +kernel
theorem d1_29 : decode prog_41_method_3_code 29 = .ok (.ifCond .eq 32, 3) := by decide +kernel
theorem d1_32 : decode prog_41_method_3_code 32 = .ok (.aload_n 0, 1) := by decide +kernel
theorem d1_33 : decode prog_41_method_3_code 33 = .ok (.getfield 9, 3) := by decide +kernel
theorem d1_36 : decode prog_41_method_3_code 36 = .ok (.iload 4, 2) := by decide +kernel
theorem d1_38 : decode prog_41_method_3_code 38 = .ok (.dup2, 1) := by decide +kernel
theorem d1_39 : decode prog_41_method_3_code 39 = .ok (.laload, 1) := by decide +kernel
theorem d1_40 : decode prog_41_method_3_code 40 = .ok (.lload 8, 2) := by decide +kernel
theorem d1_42 : decode prog_41_method_3_code 42 = .ok (.lsub, 1) := by decide +kernel
theorem d1_43 : decode prog_41_method_3_code 43 = .ok (.lastore, 1) := by decide +kernel
theorem d1_44 : decode prog_41_method_3_code 44 = .ok (.aload_n 0, 1) := by decide +kernel
theorem d1_45 : decode prog_41_method_3_code 45 = .ok (.getfield 9, 3) := by decide +kernel
theorem d1_48 : decode prog_41_method_3_code 48 = .ok (.iload 4, 2) := by decide +kernel
theorem d1_50 : decode prog_41_method_3_code 50 = .ok (.iconst 1, 1) := by decide +kernel
theorem d1_51 : decode prog_41_method_3_code 51 = .ok (.iadd, 1) := by decide +kernel
theorem d1_52 : decode prog_41_method_3_code 52 = .ok (.dup2, 1) := by decide +kernel
theorem d1_53 : decode prog_41_method_3_code 53 = .ok (.laload, 1) := by decide +kernel
theorem d1_54 : decode prog_41_method_3_code 54 = .ok (.lload 10, 2) := by decide +kernel
theorem d1_56 : decode prog_41_method_3_code 56 = .ok (.lsub, 1) := by decide +kernel
theorem d1_57 : decode prog_41_method_3_code 57 = .ok (.lastore, 1) := by decide +kernel
theorem d1_58 : decode prog_41_method_3_code 58 = .ok (.goto 29, 3) := by decide +kernel
theorem d1_61 : decode prog_41_method_3_code 61 = .ok (.aload_n 0, 1) := by decide +kernel
theorem d1_62 : decode prog_41_method_3_code 62 = .ok (.getfield 9, 3) := by decide +kernel
theorem d1_65 : decode prog_41_method_3_code 65 = .ok (.iload 4, 2) := by decide +kernel
theorem d1_67 : decode prog_41_method_3_code 67 = .ok (.dup2, 1) := by decide +kernel
theorem d1_68 : decode prog_41_method_3_code 68 = .ok (.laload, 1) := by decide +kernel
theorem d1_69 : decode prog_41_method_3_code 69 = .ok (.lload 8, 2) := by decide +kernel
theorem d1_71 : decode prog_41_method_3_code 71 = .ok (.ladd, 1) := by decide +kernel
theorem d1_72 : decode prog_41_method_3_code 72 = .ok (.lastore, 1) := by decide +kernel
theorem d1_73 : decode prog_41_method_3_code 73 = .ok (.aload_n 0, 1) := by decide +kernel
theorem d1_74 : decode prog_41_method_3_code 74 = .ok (.getfield 9, 3) := by decide +kernel
theorem d1_77 : decode prog_41_method_3_code 77 = .ok (.iload 4, 2) := by decide +kernel
theorem d1_79 : decode prog_41_method_3_code 79 = .ok (.iconst 1, 1) := by decide +kernel
theorem d1_80 : decode prog_41_method_3_code 80 = .ok (.iadd, 1) := by decide +kernel
theorem d1_81 : decode prog_41_method_3_code 81 = .ok (.dup2, 1) := by decide +kernel
theorem d1_82 : decode prog_41_method_3_code 82 = .ok (.laload, 1) := by decide +kernel
theorem d1_83 : decode prog_41_method_3_code 83 = .ok (.lload 10, 2) := by decide +kernel
theorem d1_85 : decode prog_41_method_3_code 85 = .ok (.ladd, 1) := by decide +kernel
theorem d1_86 : decode prog_41_method_3_code 86 = .ok (.lastore, 1) := by decide +kernel
theorem d1_87 : decode prog_41_method_3_code 87 = .ok (.return_, 1) := by decide +kernel
theorem ef_chk (m : MethodId) (x0 : Addr) (x1 : Int32) (x2 : Int64) (x3 : Int32) (x4 : Int32)  : entryFrame m #[(.ref x0), (.int x1), (.long x2), (.int x3), (.int x4)] 12 = mkF m 0 #[.val (.ref x0), .val (.int x1), .val (.long x2), .second, .val (.int x3), .val (.int x4), .unset, .unset, .unset, .unset, .unset, .unset] [] := by first | (simp [entryFrame, mkF, argsToLocals, Value.category]; done) | rfl
def Qchk (Z : State) (a1 : Addr) (l1 : Addr) (kl : ClassId) (N : Int32) (vs : List Value) (dv : Value) (ng : Int32) (v1 : Int64) (ix : Int32) (sh : Int32) (h0 : Heap) (n0 : Nat) (v : Option Value) (h : Heap) (L : List Loc) : Prop := ∃ (ws : List Value), v = none ∧ Fr n0 L ∧ Keep h0 h [l1] ∧ Arv Z h l1 kl .long N ws dv
set_option maxRecDepth 65536 in
set_option maxHeartbeats 40000000 in
theorem rmchk (l : Launch) (Z : State) (a0 : Array Value) (hw : Hw Z a0) (ws : List Jvm.Cond) (a1 : Addr) (l1 : Addr) (kl : ClassId) (N : Int32) (vs : List Value) (dv : Value) (ng : Int32) (v1 : Int64) (ix : Int32) (sh : Int32) (h0 : Heap) (n0 : Nat) (Z0 : n0 ≤ h0.size) (E_a1 : Exa Z h0 a1 "com/example/rill/rill/collectors/FixedPointSum") (Flimbs_a1 : Fld Z h0 a1 "com/example/rill/rill/collectors/FixedPointSum" "limbs" "[J" (.ref l1)) (V_l1 : Arv Z h0 l1 kl .long N vs dv) (ge_l1 : n0 ≤ l1) (ne_a1_l1 : a1 ≠ l1) (hi0 : ¬ ix < 0 ∧ ix < N) (hi1 : ¬ (ix + (1 : Int32)) < 0 ∧ (ix + (1 : Int32)) < N) :
    MF l Z Y1 prog_41_method_3_code 12 none ws ({ frames := 0, cells := 0, slots := 0, locals := 0 } : Room) #[(.ref a1), (.int ng), (.long v1), (.int ix), (.int sh)] h0 (Qchk Z a1 l1 kl N vs dv ng v1 ix sh h0 n0) := by
  refine MF.of (plainFor_of_name pn_0) (fun m => ef_chk m a1 ng v1 ix sh) ?_
  intro p e s m below meth c s₁ G X0 e0 hx hby hml hown hnm hlk hrt hZ hnd hG
  have N0 := Fr.nil n0
  have K0 := Keep.refl h0 [l1]
  refine Owe.lloadN X0.here hx (hb hby d1_0) rfl ?_
  refine Owe.lconst X0.here hx (hb hby d1_1) (w := (0 : Int64)) rfl ?_
  refine Owe.lcmp X0.here hx (hb hby d1_2) rfl ?_
  by_cases hc3_29 : (lcmpW v1 (0 : Int64)) = (0 : Int32)
  · skip
    refine Owe.ifNo X0.here hx (hb hby d1_3) rfl ((if0 _ _).trans (teq hc3_29).2) ?_
    refine Owe.ret0 X0 hx hlk hrt (hb hby d1_6) rfl fun fs hE => ?_
    refine hG _ _ ⟨_, _, rfl, ?_, frameMono hE (by decide) (by decide)⟩
    show Qchk Z a1 l1 kl N vs dv ng v1 ix sh h0 n0 _ s₁.heap _
    rw [e0]
    exact ⟨vs, rfl, N0, K0, V_l1⟩
  · skip
    refine Owe.ifYes X0.here hx (hb hby d1_3) rfl ((if0 _ _).trans (feq hc3_29).2) (pc' := 7) (by decide) (by decide) ?_
    refine Owe.lloadN X0.here hx (hb hby d1_7) rfl ?_
    refine Owe.iload X0.here hx (hb hby d1_8) rfl ?_
    refine Owe.lshl X0.here hx (hb hby d1_10) rfl ?_
    refine Owe.lstore X0.here hx (hb hby d1_11) rfl (l' := #[.val (.ref a1), .val (.int ng), .val (.long v1), .second, .val (.int ix), .val (.int sh), .val (.long (v1 <<< (sh &&& 0x3f).toInt64)), .second, .unset, .unset, .unset, .unset]) rfl ?_
    refine Owe.lload X0.here hx (hb hby d1_13) rfl ?_
    refine Owe.ldc2L X0 hx (v := (4294967295 : Int64)) hown (mvT hZ (wd hw 63)) (hb hby d1_15) ?_
    refine Owe.land X0.here hx (hb hby d1_18) rfl ?_
    refine Owe.lstore X0.here hx (hb hby d1_19) rfl (l' := #[.val (.ref a1), .val (.int ng), .val (.long v1), .second, .val (.int ix), .val (.int sh), .val (.long (v1 <<< (sh &&& 0x3f).toInt64)), .second, .val (.long ((v1 <<< (sh &&& 0x3f).toInt64) &&& (4294967295 : Int64))), .second, .unset, .unset]) rfl ?_
    refine Owe.lload X0.here hx (hb hby d1_21) rfl ?_
    refine Owe.bipush X0.here hx (hb hby d1_23) (w := (32 : Int32)) rfl ?_
    refine Owe.lushr X0.here hx (hb hby d1_25) rfl ?_
    refine Owe.lstore X0.here hx (hb hby d1_26) rfl (l' := #[.val (.ref a1), .val (.int ng), .val (.long v1), .second, .val (.int ix), .val (.int sh), .val (.long (v1 <<< (sh &&& 0x3f).toInt64)), .second, .val (.long ((v1 <<< (sh &&& 0x3f).toInt64) &&& (4294967295 : Int64))), .second, .val (.long (((v1 <<< (sh &&& 0x3f).toInt64).toUInt64 >>> ((32 : Int32) &&& 0x3f).toInt64.toUInt64).toInt64)), .second]) rfl ?_
    refine Owe.iloadN X0.here hx (hb hby d1_28) rfl ?_
    by_cases hc29_30 : ng = (0 : Int32)
    · skip
      refine Owe.ifYes X0.here hx (hb hby d1_29) rfl ((if0 _ _).trans (teq hc29_30).1) (pc' := 61) (by decide) (by decide) ?_
      refine Owe.aloadN X0.here hx (hb hby d1_61) rfl rfl ?_
      refine Owe.getf X0 hx hZ (host := "") hown (Or.inl (wd hw 17)) Via.refl e0 Flimbs_a1 (hb hby d1_62) rfl fun T31 X31 e31 => ?_
      refine Owe.iload X31.here hx (hb hby d1_65) rfl ?_
      refine Owe.dup2 X31.here hx (hb hby d1_67) rfl rfl rfl ?_
      refine Owe.laloadA X31 hx hZ e31 V_l1 hi0 (hb hby d1_68) rfl fun xl32 => ?_
      refine Owe.lload X31.here hx (hb hby d1_69) rfl ?_
      refine Owe.ladd X31.here hx (hb hby d1_71) rfl ?_
      refine Owe.lastoreA X31 hx hZ e31 V_l1 hi0 (hb hby d1_72) rfl fun T33 h33 vs33 X33 e33 W33 V33 => ?_
      have K_34 := K0.wr W33 (Or.inl (List.mem_of_getElem? (i := 0) rfl))
      have E_a1_35 := E_a1.wr W33
      have Flimbs_a1_36 := Flimbs_a1.other W33 (Or.inl ne_a1_l1)
      have Z_37 := Nat.le_trans Z0 (Keep.of_wr W33).1
      have N33 := Fr.snoc X33 N0 ge_l1
      refine Owe.aloadN X33.here hx (hb hby d1_73) rfl rfl ?_
      refine Owe.getf X33 hx hZ (host := "") hown (Or.inl (wd hw 17)) Via.refl e33 Flimbs_a1_36 (hb hby d1_74) rfl fun T38 X38 e38 => ?_
      refine Owe.iload X38.here hx (hb hby d1_77) rfl ?_
      refine Owe.iconst X38.here hx (hb hby d1_79) (w := (1 : Int32)) rfl ?_
      refine Owe.iadd X38.here hx (hb hby d1_80) rfl ?_
      refine Owe.dup2 X38.here hx (hb hby d1_81) rfl rfl rfl ?_
      refine Owe.laloadA X38 hx hZ e38 V33 hi1 (hb hby d1_82) rfl fun xl39 => ?_
      refine Owe.lload X38.here hx (hb hby d1_83) rfl ?_
      refine Owe.ladd X38.here hx (hb hby d1_85) rfl ?_
      refine Owe.lastoreA X38 hx hZ e38 V33 hi1 (hb hby d1_86) rfl fun T40 h40 vs40 X40 e40 W40 V40 => ?_
      have K_41 := K_34.wr W40 (Or.inl (List.mem_of_getElem? (i := 0) rfl))
      have E_a1_42 := E_a1_35.wr W40
      have Flimbs_a1_43 := Flimbs_a1_36.other W40 (Or.inl ne_a1_l1)
      have Z_44 := Nat.le_trans Z_37 (Keep.of_wr W40).1
      have N40 := Fr.snoc X40 N33 ge_l1
      refine Owe.ret0 X40 hx hlk hrt (hb hby d1_87) rfl fun fs hE => ?_
      refine hG _ _ ⟨_, _, rfl, ?_, frameMono hE (by decide) (by decide)⟩
      show Qchk Z a1 l1 kl N vs dv ng v1 ix sh h0 n0 _ T40.heap _
      rw [e40]
      exact ⟨vs40, rfl, N40, K_41, V40⟩
    · skip
      refine Owe.ifNo X0.here hx (hb hby d1_29) rfl ((if0 _ _).trans (feq hc29_30).1) ?_
      refine Owe.aloadN X0.here hx (hb hby d1_32) rfl rfl ?_
      refine Owe.getf X0 hx hZ (host := "") hown (Or.inl (wd hw 17)) Via.refl e0 Flimbs_a1 (hb hby d1_33) rfl fun T45 X45 e45 => ?_
      refine Owe.iload X45.here hx (hb hby d1_36) rfl ?_
      refine Owe.dup2 X45.here hx (hb hby d1_38) rfl rfl rfl ?_
      refine Owe.laloadA X45 hx hZ e45 V_l1 hi0 (hb hby d1_39) rfl fun xl46 => ?_
      refine Owe.lload X45.here hx (hb hby d1_40) rfl ?_
      refine Owe.lsub X45.here hx (hb hby d1_42) rfl ?_
      refine Owe.lastoreA X45 hx hZ e45 V_l1 hi0 (hb hby d1_43) rfl fun T47 h47 vs47 X47 e47 W47 V47 => ?_
      have K_48 := K0.wr W47 (Or.inl (List.mem_of_getElem? (i := 0) rfl))
      have E_a1_49 := E_a1.wr W47
      have Flimbs_a1_50 := Flimbs_a1.other W47 (Or.inl ne_a1_l1)
      have Z_51 := Nat.le_trans Z0 (Keep.of_wr W47).1
      have N47 := Fr.snoc X47 N0 ge_l1
      refine Owe.aloadN X47.here hx (hb hby d1_44) rfl rfl ?_
      refine Owe.getf X47 hx hZ (host := "") hown (Or.inl (wd hw 17)) Via.refl e47 Flimbs_a1_50 (hb hby d1_45) rfl fun T52 X52 e52 => ?_
      refine Owe.iload X52.here hx (hb hby d1_48) rfl ?_
      refine Owe.iconst X52.here hx (hb hby d1_50) (w := (1 : Int32)) rfl ?_
      refine Owe.iadd X52.here hx (hb hby d1_51) rfl ?_
      refine Owe.dup2 X52.here hx (hb hby d1_52) rfl rfl rfl ?_
      refine Owe.laloadA X52 hx hZ e52 V47 hi1 (hb hby d1_53) rfl fun xl53 => ?_
      refine Owe.lload X52.here hx (hb hby d1_54) rfl ?_
      refine Owe.lsub X52.here hx (hb hby d1_56) rfl ?_
      refine Owe.lastoreA X52 hx hZ e52 V47 hi1 (hb hby d1_57) rfl fun T54 h54 vs54 X54 e54 W54 V54 => ?_
      have K_55 := K_48.wr W54 (Or.inl (List.mem_of_getElem? (i := 0) rfl))
      have E_a1_56 := E_a1_49.wr W54
      have Flimbs_a1_57 := Flimbs_a1_50.other W54 (Or.inl ne_a1_l1)
      have Z_58 := Nat.le_trans Z_51 (Keep.of_wr W54).1
      have N54 := Fr.snoc X54 N47 ge_l1
      refine Owe.goto X54.here hx (hb hby d1_58) (pc' := 87) (by decide) (by decide) ?_
      refine Owe.ret0 X54 hx hlk hrt (hb hby d1_87) rfl fun fs hE => ?_
      refine hG _ _ ⟨_, _, rfl, ?_, frameMono hE (by decide) (by decide)⟩
      show Qchk Z a1 l1 kl N vs dv ng v1 ix sh h0 n0 _ T54.heap _
      rw [e54]
      exact ⟨vs54, rfl, N54, K_55, V54⟩
theorem d2_0 : decode prog_41_method_2_code 0 = .ok (.aload_n 0, 1) := by decide +kernel
theorem d2_1 : decode prog_41_method_2_code 1 = .ok (.getfield 13, 3) := by decide +kernel
theorem d2_4 : decode prog_41_method_2_code 4 = .ok (.ldc 17, 2) := by decide +kernel
theorem d2_6 : decode prog_41_method_2_code 6 = .ok (.if_icmp .ne 7, 3) := by decide +kernel
theorem d2_9 : decode prog_41_method_2_code 9 = .ok (.aload_n 0, 1) := by decide +kernel
theorem d2_10 : decode prog_41_method_2_code 10 = .ok (.invokevirtual 18, 3) := by decide +kernel
theorem d2_13 : decode prog_41_method_2_code 13 = .ok (.aload_n 0, 1) := by decide +kernel
theorem d2_14 : decode prog_41_method_2_code 14 = .ok (.dup, 1) := by decide +kernel
theorem d2_15 : decode prog_41_method_2_code 15 = .ok (.getfield 13, 3) := by decide +kernel
theorem d2_18 : decode prog_41_method_2_code 18 = .ok (.iconst 1, 1) := by decide +kernel
theorem d2_19 : decode prog_41_method_2_code 19 = .ok (.iadd, 1) := by decide +kernel
theorem d2_20 : decode prog_41_method_2_code 20 = .ok (.putfield 13, 3) := by decide +kernel
theorem d2_23 : decode prog_41_method_2_code 23 = .ok (.iload 6, 2) := by decide +kernel
theorem d2_25 : decode prog_41_method_2_code 25 = .ok (.bipush 32, 2) := by decide +kernel
theorem d2_27 : decode prog_41_method_2_code 27 = .ok (.idiv, 1) := by decide +kernel
theorem d2_28 : decode prog_41_method_2_code 28 = .ok (.istore 7, 2) := by decide +kernel
theorem d2_30 : decode prog_41_method_2_code 30 = .ok (.iload 6, 2) := by decide +kernel
theorem d2_32 : decode prog_41_method_2_code 32 = .ok (.bipush 32, 2) := by decide +kernel
theorem d2_34 : decode prog_41_method_2_code 34 = .ok (.irem, 1) := by decide +kernel
theorem d2_35 : decode prog_41_method_2_code 35 = .ok (.istore 8, 2) := by decide +kernel
theorem d2_37 : decode prog_41_method_2_code 37 = .ok (.aload_n 0, 1) := by decide +kernel
theorem d2_38 : decode prog_41_method_2_code 38 = .ok (.iload_n 1, 1) := by decide +kernel
theorem d2_39 : decode prog_41_method_2_code 39 = .ok (.lload 4, 2) := by decide +kernel
theorem d2_41 : decode prog_41_method_2_code 41 = .ok (.ldc2_w 21, 3) := by decide +kernel
theorem d2_44 : decode prog_41_method_2_code 44 = .ok (.land, 1) := by decide +kernel
theorem d2_45 : decode prog_41_method_2_code 45 = .ok (.iload 7, 2) := by decide +kernel
theorem d2_47 : decode prog_41_method_2_code 47 = .ok (.iload 8, 2) := by decide +kernel
theorem d2_49 : decode prog_41_method_2_code 49 = .ok (.invokevirtual 23, 3) := by decide +kernel
theorem d2_52 : decode prog_41_method_2_code 52 = .ok (.aload_n 0, 1) := by decide +kernel
theorem d2_53 : decode prog_41_method_2_code 53 = .ok (.iload_n 1, 1) := by decide +kernel
theorem d2_54 : decode prog_41_method_2_code 54 = .ok (.lload 4, 2) := by decide +kernel
theorem d2_56 : decode prog_41_method_2_code 56 = .ok (.bipush 32, 2) := by decide +kernel
theorem d2_58 : decode prog_41_method_2_code 58 = .ok (.lushr, 1) := by decide +kernel
theorem d2_59 : decode prog_41_method_2_code 59 = .ok (.iload 7, 2) := by decide +kernel
theorem d2_61 : decode prog_41_method_2_code 61 = .ok (.iconst 1, 1) := by decide +kernel
theorem d2_62 : decode prog_41_method_2_code 62 = .ok (.iadd, 1) := by decide +kernel
theorem d2_63 : decode prog_41_method_2_code 63 = .ok (.iload 8, 2) := by decide +kernel
theorem d2_65 : decode prog_41_method_2_code 65 = .ok (.invokevirtual 23, 3) := by decide +kernel
theorem d2_68 : decode prog_41_method_2_code 68 = .ok (.aload_n 0, 1) := by decide +kernel
theorem d2_69 : decode prog_41_method_2_code 69 = .ok (.iload_n 1, 1) := by decide +kernel
theorem d2_70 : decode prog_41_method_2_code 70 = .ok (.lload_n 2, 1) := by decide +kernel
theorem d2_71 : decode prog_41_method_2_code 71 = .ok (.ldc2_w 21, 3) := by decide +kernel
theorem d2_74 : decode prog_41_method_2_code 74 = .ok (.land, 1) := by decide +kernel
theorem d2_75 : decode prog_41_method_2_code 75 = .ok (.iload 7, 2) := by decide +kernel
theorem d2_77 : decode prog_41_method_2_code 77 = .ok (.iconst 2, 1) := by decide +kernel
theorem d2_78 : decode prog_41_method_2_code 78 = .ok (.iadd, 1) := by decide +kernel
theorem d2_79 : decode prog_41_method_2_code 79 = .ok (.iload 8, 2) := by decide +kernel
theorem d2_81 : decode prog_41_method_2_code 81 = .ok (.invokevirtual 23, 3) := by decide +kernel
theorem d2_84 : decode prog_41_method_2_code 84 = .ok (.aload_n 0, 1) := by decide +kernel
theorem d2_85 : decode prog_41_method_2_code 85 = .ok (.iload_n 1, 1) := by decide +kernel
theorem d2_86 : decode prog_41_method_2_code 86 = .ok (.lload_n 2, 1) := by decide +kernel
theorem d2_87 : decode prog_41_method_2_code 87 = .ok (.bipush 32, 2) := by decide +kernel
theorem d2_89 : decode prog_41_method_2_code 89 = .ok (.lushr, 1) := by decide +kernel
theorem d2_90 : decode prog_41_method_2_code 90 = .ok (.iload 7, 2) := by decide +kernel
theorem d2_92 : decode prog_41_method_2_code 92 = .ok (.iconst 3, 1) := by decide +kernel
theorem d2_93 : decode prog_41_method_2_code 93 = .ok (.iadd, 1) := by decide +kernel
theorem d2_94 : decode prog_41_method_2_code 94 = .ok (.iload 8, 2) := by decide +kernel
theorem d2_96 : decode prog_41_method_2_code 96 = .ok (.invokevirtual 23, 3) := by decide +kernel
theorem d2_99 : decode prog_41_method_2_code 99 = .ok (.return_, 1) := by decide +kernel
theorem ef_fpa (m : MethodId) (x0 : Addr) (x1 : Int32) (x2 : Int64) (x3 : Int64) (x4 : Int32)  : entryFrame m #[(.ref x0), (.int x1), (.long x2), (.long x3), (.int x4)] 9 = mkF m 0 #[.val (.ref x0), .val (.int x1), .val (.long x2), .second, .val (.long x3), .second, .val (.int x4), .unset, .unset] [] := by first | (simp [entryFrame, mkF, argsToLocals, Value.category]; done) | rfl
def Qfpa (Z : State) (a1 : Addr) (l1 : Addr) (kl : ClassId) (N : Int32) (vs : List Value) (dv : Value) (ac : Int32) (ng : Int32) (v1 : Int64) (v2 : Int64) (sh : Int32) (h0 : Heap) (n0 : Nat) (v : Option Value) (h : Heap) (L : List Loc) : Prop := ∃ (ws : List Value), v = none ∧ Fr n0 L ∧ Keep h0 h [a1, l1] ∧ Exa Z h a1 "com/example/rill/rill/collectors/FixedPointSum" ∧ Fld Z h a1 "com/example/rill/rill/collectors/FixedPointSum" "limbs" "[J" (.ref l1) ∧ Fld Z h a1 "com/example/rill/rill/collectors/FixedPointSum" "additionsSinceCarry" "I" (.int (ac + (1 : Int32))) ∧ Arv Z h l1 kl .long N ws dv
set_option maxRecDepth 65536 in
set_option maxHeartbeats 40000000 in
theorem rmfpa (l : Launch) (Z : State) (a0 : Array Value) (hw : Hw Z a0) (ws : List Jvm.Cond) (a1 : Addr) (l1 : Addr) (kl : ClassId) (N : Int32) (vs : List Value) (dv : Value) (ac : Int32) (ng : Int32) (v1 : Int64) (v2 : Int64) (sh : Int32) (h0 : Heap) (n0 : Nat) (Z0 : n0 ≤ h0.size) (E_a1 : Exa Z h0 a1 "com/example/rill/rill/collectors/FixedPointSum") (Flimbs_a1 : Fld Z h0 a1 "com/example/rill/rill/collectors/FixedPointSum" "limbs" "[J" (.ref l1)) (FadditionsSinceCarry_a1 : Fld Z h0 a1 "com/example/rill/rill/collectors/FixedPointSum" "additionsSinceCarry" "I" (.int ac)) (V_l1 : Arv Z h0 l1 kl .long N vs dv) (ge_a1 : n0 ≤ a1) (ge_l1 : n0 ≤ l1) (ne_a1_l1 : a1 ≠ l1) (hac : ¬ ac = (536870912 : Int32)) (hq : 0 ≤ (sh / (32 : Int32)).toInt ∧ (sh / (32 : Int32)).toInt + 4 < N.toInt) :
    MF l Z Y2 prog_41_method_2_code 9 none ws ({ frames := 1, cells := 0, slots := 0, locals := 23 } : Room) #[(.ref a1), (.int ng), (.long v1), (.long v2), (.int sh)] h0 (Qfpa Z a1 l1 kl N vs dv ac ng v1 v2 sh h0 n0) := by
  refine MF.of (plainFor_of_name pn_0) (fun m => ef_fpa m a1 ng v1 v2 sh) ?_
  intro p e s m below meth c s₁ G X0 e0 hx hby hml hown hnm hlk hrt hZ hnd hG
  have N0 := Fr.nil n0
  have K0 := Keep.refl h0 [a1, l1]
  refine Owe.aloadN X0.here hx (hb hby d2_0) rfl rfl ?_
  refine Owe.getf X0 hx hZ (host := "") hown (Or.inl (wd hw 60)) Via.refl e0 FadditionsSinceCarry_a1 (hb hby d2_1) rfl fun T59 X59 e59 => ?_
  refine Owe.ldcI X59 hx (v := (536870912 : Int32)) hown (mvT hZ (wd hw 62)) (hb hby d2_4) ?_
  refine Owe.icmpYes X59.here hx (hb hby d2_6) rfl (feq hac).2 (pc' := 13) (by decide) (by decide) ?_
  refine Owe.aloadN X59.here hx (hb hby d2_13) rfl rfl ?_
  refine Owe.dup X59.here hx (hb hby d2_14) rfl rfl ?_
  refine Owe.getf X59 hx hZ (host := "") hown (Or.inl (wd hw 60)) Via.refl e59 FadditionsSinceCarry_a1 (hb hby d2_15) rfl fun T60 X60 e60 => ?_
  refine Owe.iconst X60.here hx (hb hby d2_18) (w := (1 : Int32)) rfl ?_
  refine Owe.iadd X60.here hx (hb hby d2_19) rfl ?_
  refine Owe.putf X60 hx hZ (host := "") hown (Or.inl (wd hw 60)) Via.refl e60 FadditionsSinceCarry_a1 E_a1 (Or.inl (wd hw 61)) (wd hw 10) (ty := .int) (by decide) rfl rfl (hb hby d2_20) rfl fun T61 h61 X61 e61 W61 => ?_
  have K_62 := K0.wr W61 (Or.inl (List.mem_of_getElem? (i := 0) rfl))
  have E_a1_63 := E_a1.wr W61
  have Flimbs_a1_64 := Flimbs_a1.other W61 (Or.inr (slot_ne (Or.inr (wd hw 18)) (Or.inl (wd hw 61)) (by decide) (t := (.array .long)) (t' := .int) (by decide) (by decide)))
  have FadditionsSinceCarry_a1_65 := FadditionsSinceCarry_a1.same W61
  have V_l1_66 := V_l1.other W61 (Ne.symm ne_a1_l1)
  have Z_67 := Nat.le_trans Z0 (Keep.of_wr W61).1
  have N61 := Fr.snoc X61 N0 ge_a1
  refine Owe.iload X61.here hx (hb hby d2_23) rfl ?_
  refine Owe.bipush X61.here hx (hb hby d2_25) (w := (32 : Int32)) rfl ?_
  refine Owe.idiv X61.here hx (hb hby d2_27) rfl (by decide) ?_
  refine Owe.istore X61.here hx (hb hby d2_28) rfl (l' := #[.val (.ref a1), .val (.int ng), .val (.long v1), .second, .val (.long v2), .second, .val (.int sh), .val (.int (sh / (32 : Int32))), .unset]) rfl ?_
  refine Owe.iload X61.here hx (hb hby d2_30) rfl ?_
  refine Owe.bipush X61.here hx (hb hby d2_32) (w := (32 : Int32)) rfl ?_
  refine Owe.irem X61.here hx (hb hby d2_34) rfl (by decide) ?_
  refine Owe.istore X61.here hx (hb hby d2_35) rfl (l' := #[.val (.ref a1), .val (.int ng), .val (.long v1), .second, .val (.long v2), .second, .val (.int sh), .val (.int (sh / (32 : Int32))), .val (.int (sh - (sh / (32 : Int32)) * (32 : Int32)))]) rfl ?_
  refine Owe.aloadN X61.here hx (hb hby d2_37) rfl rfl ?_
  refine Owe.iloadN X61.here hx (hb hby d2_38) rfl ?_
  refine Owe.lload X61.here hx (hb hby d2_39) rfl ?_
  refine Owe.ldc2L X61 hx (v := (4294967295 : Int64)) hown (mvT hZ (wd hw 63)) (hb hby d2_41) ?_
  refine Owe.land X61.here hx (hb hby d2_44) rfl ?_
  refine Owe.iload X61.here hx (hb hby d2_45) rfl ?_
  refine Owe.iload X61.here hx (hb hby d2_47) rfl ?_
  refine Owe.virtP X61 hx hZ (y := Y1) hown (mvT hZ (wd hw 64)) (mvT hZ (wd hw 65)) (mvT hZ (wd hw 66)) (mvT hZ (wd hw 67)) (mvT hZ (wd hw 10)) (by decide) (backOf (W := 0) (rmchk l Z a0 hw [] a1 l1 kl N vs dv ng (v2 &&& (4294967295 : Int64)) (sh / (32 : Int32)) (sh - (sh / (32 : Int32)) * (32 : Int32)) h61 n0 Z_67 E_a1_63 Flimbs_a1_64 V_l1_66 ge_l1 ne_a1_l1 (own_ix0 hq) (own_ix1 hq (d := (1 : Int32)) (by decide) (by decide))) hZ (wd hw 67) (wd hw 11) (by decide) (by decide)) (by rw [hml]; rfl) (a := a1) (argsL := [(.int ng), (.long (v2 &&& (4294967295 : Int64))), (.int (sh / (32 : Int32))), (.int (sh - (sh / (32 : Int32)) * (32 : Int32)))]) (rest := []) E_a1_63 (lenOf pd_0 rfl) rfl (nb rfl) (hb hby d2_49) rfl e61 (by decide) (by decide) fun T68 v68 L68 X68 hQ68 => ?_
  obtain ⟨ws_68, rfl, Nq68, K68, V_l1_68⟩ := hQ68
  have N68 := Fr.app N61 Nq68
  have K_69 := K_62.trans K68 (allS (Or.inl (List.mem_of_getElem? (i := 1) rfl)) all0)
  have E_a1_70 := E_a1_63.keep K68
  have Flimbs_a1_71 := Flimbs_a1_64.keep K68 (ninS ne_a1_l1 nin0)
  have FadditionsSinceCarry_a1_72 := FadditionsSinceCarry_a1_65.keep K68 (ninS ne_a1_l1 nin0)
  have Z_73 := Nat.le_trans Z_67 K68.1
  refine Owe.aloadN X68.here hx (hb hby d2_52) rfl rfl ?_
  refine Owe.iloadN X68.here hx (hb hby d2_53) rfl ?_
  refine Owe.lload X68.here hx (hb hby d2_54) rfl ?_
  refine Owe.bipush X68.here hx (hb hby d2_56) (w := (32 : Int32)) rfl ?_
  refine Owe.lushr X68.here hx (hb hby d2_58) rfl ?_
  refine Owe.iload X68.here hx (hb hby d2_59) rfl ?_
  refine Owe.iconst X68.here hx (hb hby d2_61) (w := (1 : Int32)) rfl ?_
  refine Owe.iadd X68.here hx (hb hby d2_62) rfl ?_
  refine Owe.iload X68.here hx (hb hby d2_63) rfl ?_
  refine Owe.virtP X68 hx hZ (y := Y1) hown (mvT hZ (wd hw 64)) (mvT hZ (wd hw 65)) (mvT hZ (wd hw 66)) (mvT hZ (wd hw 67)) (mvT hZ (wd hw 10)) (by decide) (backOf (W := 0) (rmchk l Z a0 hw [] a1 l1 kl N ws_68 dv ng ((v2.toUInt64 >>> ((32 : Int32) &&& 0x3f).toInt64.toUInt64).toInt64) ((sh / (32 : Int32)) + (1 : Int32)) (sh - (sh / (32 : Int32)) * (32 : Int32)) T68.heap n0 Z_73 E_a1_70 Flimbs_a1_71 V_l1_68 ge_l1 ne_a1_l1 (own_ix1 hq (d := (1 : Int32)) (by decide) (by decide)) (own_ix2 hq (d := (1 : Int32)) (by decide) (by decide))) hZ (wd hw 67) (wd hw 11) (by decide) (by decide)) (by rw [hml]; rfl) (a := a1) (argsL := [(.int ng), (.long ((v2.toUInt64 >>> ((32 : Int32) &&& 0x3f).toInt64.toUInt64).toInt64)), (.int ((sh / (32 : Int32)) + (1 : Int32))), (.int (sh - (sh / (32 : Int32)) * (32 : Int32)))]) (rest := []) E_a1_70 (lenOf pd_0 rfl) rfl (nb rfl) (hb hby d2_65) rfl rfl (by decide) (by decide) fun T74 v74 L74 X74 hQ74 => ?_
  obtain ⟨ws_74, rfl, Nq74, K74, V_l1_74⟩ := hQ74
  have N74 := Fr.app N68 Nq74
  have K_75 := K_69.trans K74 (allS (Or.inl (List.mem_of_getElem? (i := 1) rfl)) all0)
  have E_a1_76 := E_a1_70.keep K74
  have Flimbs_a1_77 := Flimbs_a1_71.keep K74 (ninS ne_a1_l1 nin0)
  have FadditionsSinceCarry_a1_78 := FadditionsSinceCarry_a1_72.keep K74 (ninS ne_a1_l1 nin0)
  have Z_79 := Nat.le_trans Z_73 K74.1
  refine Owe.aloadN X74.here hx (hb hby d2_68) rfl rfl ?_
  refine Owe.iloadN X74.here hx (hb hby d2_69) rfl ?_
  refine Owe.lloadN X74.here hx (hb hby d2_70) rfl ?_
  refine Owe.ldc2L X74 hx (v := (4294967295 : Int64)) hown (mvT hZ (wd hw 63)) (hb hby d2_71) ?_
  refine Owe.land X74.here hx (hb hby d2_74) rfl ?_
  refine Owe.iload X74.here hx (hb hby d2_75) rfl ?_
  refine Owe.iconst X74.here hx (hb hby d2_77) (w := (2 : Int32)) rfl ?_
  refine Owe.iadd X74.here hx (hb hby d2_78) rfl ?_
  refine Owe.iload X74.here hx (hb hby d2_79) rfl ?_
  refine Owe.virtP X74 hx hZ (y := Y1) hown (mvT hZ (wd hw 64)) (mvT hZ (wd hw 65)) (mvT hZ (wd hw 66)) (mvT hZ (wd hw 67)) (mvT hZ (wd hw 10)) (by decide) (backOf (W := 0) (rmchk l Z a0 hw [] a1 l1 kl N ws_74 dv ng (v1 &&& (4294967295 : Int64)) ((sh / (32 : Int32)) + (2 : Int32)) (sh - (sh / (32 : Int32)) * (32 : Int32)) T74.heap n0 Z_79 E_a1_76 Flimbs_a1_77 V_l1_74 ge_l1 ne_a1_l1 (own_ix1 hq (d := (2 : Int32)) (by decide) (by decide)) (own_ix2 hq (d := (2 : Int32)) (by decide) (by decide))) hZ (wd hw 67) (wd hw 11) (by decide) (by decide)) (by rw [hml]; rfl) (a := a1) (argsL := [(.int ng), (.long (v1 &&& (4294967295 : Int64))), (.int ((sh / (32 : Int32)) + (2 : Int32))), (.int (sh - (sh / (32 : Int32)) * (32 : Int32)))]) (rest := []) E_a1_76 (lenOf pd_0 rfl) rfl (nb rfl) (hb hby d2_81) rfl rfl (by decide) (by decide) fun T80 v80 L80 X80 hQ80 => ?_
  obtain ⟨ws_80, rfl, Nq80, K80, V_l1_80⟩ := hQ80
  have N80 := Fr.app N74 Nq80
  have K_81 := K_75.trans K80 (allS (Or.inl (List.mem_of_getElem? (i := 1) rfl)) all0)
  have E_a1_82 := E_a1_76.keep K80
  have Flimbs_a1_83 := Flimbs_a1_77.keep K80 (ninS ne_a1_l1 nin0)
  have FadditionsSinceCarry_a1_84 := FadditionsSinceCarry_a1_78.keep K80 (ninS ne_a1_l1 nin0)
  have Z_85 := Nat.le_trans Z_79 K80.1
  refine Owe.aloadN X80.here hx (hb hby d2_84) rfl rfl ?_
  refine Owe.iloadN X80.here hx (hb hby d2_85) rfl ?_
  refine Owe.lloadN X80.here hx (hb hby d2_86) rfl ?_
  refine Owe.bipush X80.here hx (hb hby d2_87) (w := (32 : Int32)) rfl ?_
  refine Owe.lushr X80.here hx (hb hby d2_89) rfl ?_
  refine Owe.iload X80.here hx (hb hby d2_90) rfl ?_
  refine Owe.iconst X80.here hx (hb hby d2_92) (w := (3 : Int32)) rfl ?_
  refine Owe.iadd X80.here hx (hb hby d2_93) rfl ?_
  refine Owe.iload X80.here hx (hb hby d2_94) rfl ?_
  refine Owe.virtP X80 hx hZ (y := Y1) hown (mvT hZ (wd hw 64)) (mvT hZ (wd hw 65)) (mvT hZ (wd hw 66)) (mvT hZ (wd hw 67)) (mvT hZ (wd hw 10)) (by decide) (backOf (W := 0) (rmchk l Z a0 hw [] a1 l1 kl N ws_80 dv ng ((v1.toUInt64 >>> ((32 : Int32) &&& 0x3f).toInt64.toUInt64).toInt64) ((sh / (32 : Int32)) + (3 : Int32)) (sh - (sh / (32 : Int32)) * (32 : Int32)) T80.heap n0 Z_85 E_a1_82 Flimbs_a1_83 V_l1_80 ge_l1 ne_a1_l1 (own_ix1 hq (d := (3 : Int32)) (by decide) (by decide)) (own_ix2 hq (d := (3 : Int32)) (by decide) (by decide))) hZ (wd hw 67) (wd hw 11) (by decide) (by decide)) (by rw [hml]; rfl) (a := a1) (argsL := [(.int ng), (.long ((v1.toUInt64 >>> ((32 : Int32) &&& 0x3f).toInt64.toUInt64).toInt64)), (.int ((sh / (32 : Int32)) + (3 : Int32))), (.int (sh - (sh / (32 : Int32)) * (32 : Int32)))]) (rest := []) E_a1_82 (lenOf pd_0 rfl) rfl (nb rfl) (hb hby d2_96) rfl rfl (by decide) (by decide) fun T86 v86 L86 X86 hQ86 => ?_
  obtain ⟨ws_86, rfl, Nq86, K86, V_l1_86⟩ := hQ86
  have N86 := Fr.app N80 Nq86
  have K_87 := K_81.trans K86 (allS (Or.inl (List.mem_of_getElem? (i := 1) rfl)) all0)
  have E_a1_88 := E_a1_82.keep K86
  have Flimbs_a1_89 := Flimbs_a1_83.keep K86 (ninS ne_a1_l1 nin0)
  have FadditionsSinceCarry_a1_90 := FadditionsSinceCarry_a1_84.keep K86 (ninS ne_a1_l1 nin0)
  have Z_91 := Nat.le_trans Z_85 K86.1
  refine Owe.ret0 X86 hx hlk hrt (hb hby d2_99) rfl fun fs hE => ?_
  refine hG _ _ ⟨_, _, rfl, ?_, frameMono hE (by decide) (by decide)⟩
  show Qfpa Z a1 l1 kl N vs dv ac ng v1 v2 sh h0 n0 _ T86.heap _
  exact ⟨ws_86, rfl, N86, K_87, E_a1_88, Flimbs_a1_89, FadditionsSinceCarry_a1_90, V_l1_86⟩
theorem d3_0 : decode jdk_29_method_45_code 0 = .ok (.lload_n 0, 1) := by decide +kernel
theorem d3_1 : decode jdk_29_method_45_code 1 = .ok (.bipush 32, 2) := by decide +kernel
theorem d3_3 : decode jdk_29_method_45_code 3 = .ok (.lshr, 1) := by decide +kernel
theorem d3_4 : decode jdk_29_method_45_code 4 = .ok (.lstore 4, 2) := by decide +kernel
theorem d3_6 : decode jdk_29_method_45_code 6 = .ok (.lload_n 0, 1) := by decide +kernel
theorem d3_7 : decode jdk_29_method_45_code 7 = .ok (.ldc2_w 138, 3) := by decide +kernel
theorem d3_10 : decode jdk_29_method_45_code 10 = .ok (.land, 1) := by decide +kernel
theorem d3_11 : decode jdk_29_method_45_code 11 = .ok (.lstore 6, 2) := by decide +kernel
theorem d3_13 : decode jdk_29_method_45_code 13 = .ok (.lload_n 2, 1) := by decide +kernel
theorem d3_14 : decode jdk_29_method_45_code 14 = .ok (.bipush 32, 2) := by decide +kernel
theorem d3_16 : decode jdk_29_method_45_code 16 = .ok (.lshr, 1) := by decide +kernel
theorem d3_17 : decode jdk_29_method_45_code 17 = .ok (.lstore 8, 2) := by decide +kernel
theorem d3_19 : decode jdk_29_method_45_code 19 = .ok (.lload_n 2, 1) := by decide +kernel
theorem d3_20 : decode jdk_29_method_45_code 20 = .ok (.ldc2_w 138, 3) := by decide +kernel
theorem d3_23 : decode jdk_29_method_45_code 23 = .ok (.land, 1) := by decide +kernel
theorem d3_24 : decode jdk_29_method_45_code 24 = .ok (.lstore 10, 2) := by decide +kernel
theorem d3_26 : decode jdk_29_method_45_code 26 = .ok (.lload 6, 2) := by decide +kernel
theorem d3_28 : decode jdk_29_method_45_code 28 = .ok (.lload 10, 2) := by decide +kernel
theorem d3_30 : decode jdk_29_method_45_code 30 = .ok (.lmul, 1) := by decide +kernel
theorem d3_31 : decode jdk_29_method_45_code 31 = .ok (.lstore 12, 2) := by decide +kernel
theorem d3_33 : decode jdk_29_method_45_code 33 = .ok (.lload 4, 2) := by decide +kernel
theorem d3_35 : decode jdk_29_method_45_code 35 = .ok (.lload 10, 2) := by decide +kernel
theorem d3_37 : decode jdk_29_method_45_code 37 = .ok (.lmul, 1) := by decide +kernel
theorem d3_38 : decode jdk_29_method_45_code 38 = .ok (.lload 12, 2) := by decide +kernel
theorem d3_40 : decode jdk_29_method_45_code 40 = .ok (.bipush 32, 2) := by decide +kernel
theorem d3_42 : decode jdk_29_method_45_code 42 = .ok (.lushr, 1) := by decide +kernel
theorem d3_43 : decode jdk_29_method_45_code 43 = .ok (.ladd, 1) := by decide +kernel
theorem d3_44 : decode jdk_29_method_45_code 44 = .ok (.lstore 14, 2) := by decide +kernel
theorem d3_46 : decode jdk_29_method_45_code 46 = .ok (.lload 14, 2) := by decide +kernel
theorem d3_48 : decode jdk_29_method_45_code 48 = .ok (.ldc2_w 138, 3) := by decide +kernel
theorem d3_51 : decode jdk_29_method_45_code 51 = .ok (.land, 1) := by decide +kernel
theorem d3_52 : decode jdk_29_method_45_code 52 = .ok (.lstore 16, 2) := by decide +kernel
theorem d3_54 : decode jdk_29_method_45_code 54 = .ok (.lload 14, 2) := by decide +kernel
theorem d3_56 : decode jdk_29_method_45_code 56 = .ok (.bipush 32, 2) := by decide +kernel
theorem d3_58 : decode jdk_29_method_45_code 58 = .ok (.lshr, 1) := by decide +kernel
theorem d3_59 : decode jdk_29_method_45_code 59 = .ok (.lstore 18, 2) := by decide +kernel
theorem d3_61 : decode jdk_29_method_45_code 61 = .ok (.lload 16, 2) := by decide +kernel
theorem d3_63 : decode jdk_29_method_45_code 63 = .ok (.lload 6, 2) := by decide +kernel
theorem d3_65 : decode jdk_29_method_45_code 65 = .ok (.lload 8, 2) := by decide +kernel
theorem d3_67 : decode jdk_29_method_45_code 67 = .ok (.lmul, 1) := by decide +kernel
theorem d3_68 : decode jdk_29_method_45_code 68 = .ok (.ladd, 1) := by decide +kernel
theorem d3_69 : decode jdk_29_method_45_code 69 = .ok (.lstore 16, 2) := by decide +kernel
theorem d3_71 : decode jdk_29_method_45_code 71 = .ok (.lload 4, 2) := by decide +kernel
theorem d3_73 : decode jdk_29_method_45_code 73 = .ok (.lload 8, 2) := by decide +kernel
theorem d3_75 : decode jdk_29_method_45_code 75 = .ok (.lmul, 1) := by decide +kernel
theorem d3_76 : decode jdk_29_method_45_code 76 = .ok (.lload 18, 2) := by decide +kernel
theorem d3_78 : decode jdk_29_method_45_code 78 = .ok (.ladd, 1) := by decide +kernel
theorem d3_79 : decode jdk_29_method_45_code 79 = .ok (.lload 16, 2) := by decide +kernel
theorem d3_81 : decode jdk_29_method_45_code 81 = .ok (.bipush 32, 2) := by decide +kernel
theorem d3_83 : decode jdk_29_method_45_code 83 = .ok (.lshr, 1) := by decide +kernel
theorem d3_84 : decode jdk_29_method_45_code 84 = .ok (.ladd, 1) := by decide +kernel
theorem d3_85 : decode jdk_29_method_45_code 85 = .ok (.lreturn, 1) := by decide +kernel
theorem pf_mh : plainFor Y3 = true := by decide +kernel
theorem ef_mh (m : MethodId) (x0 : Int64) (x1 : Int64)  : entryFrame m #[(.long x0), (.long x1)] 20 = mkF m 0 #[.val (.long x0), .second, .val (.long x1), .second, .unset, .unset, .unset, .unset, .unset, .unset, .unset, .unset, .unset, .unset, .unset, .unset, .unset, .unset, .unset, .unset] [] := by first | (simp [entryFrame, mkF, argsToLocals, Value.category]; done) | rfl
def Qmh (Z : State) (v1 : Int64) (v2 : Int64) (h0 : Heap) (n0 : Nat) (v : Option Value) (h : Heap) (L : List Loc) : Prop := ∃ (mv : Int64), v = some (.long mv) ∧ Fr n0 L ∧ h = h0
set_option maxRecDepth 65536 in
set_option maxHeartbeats 40000000 in
theorem rmmh (l : Launch) (Z : State) (a0 : Array Value) (hw : Hw Z a0) (ws : List Jvm.Cond) (v1 : Int64) (v2 : Int64) (h0 : Heap) (n0 : Nat) (Z0 : n0 ≤ h0.size)  :
    MF l Z Y3 jdk_29_method_45_code 20 (some .long) ws ({ frames := 0, cells := 0, slots := 0, locals := 0 } : Room) #[(.long v1), (.long v2)] h0 (Qmh Z v1 v2 h0 n0) := by
  refine MF.of pf_mh (fun m => ef_mh m v1 v2) ?_
  intro p e s m below meth c s₁ G X0 e0 hx hby hml hown hnm hlk hrt hZ hnd hG
  have N0 := Fr.nil n0
  refine Owe.lloadN X0.here hx (hb hby d3_0) rfl ?_
  refine Owe.bipush X0.here hx (hb hby d3_1) (w := (32 : Int32)) rfl ?_
  refine Owe.lshr X0.here hx (hb hby d3_3) rfl ?_
  refine Owe.lstore X0.here hx (hb hby d3_4) rfl (l' := #[.val (.long v1), .second, .val (.long v2), .second, .val (.long (v1 >>> ((32 : Int32) &&& 0x3f).toInt64)), .second, .unset, .unset, .unset, .unset, .unset, .unset, .unset, .unset, .unset, .unset, .unset, .unset, .unset, .unset]) rfl ?_
  refine Owe.lloadN X0.here hx (hb hby d3_6) rfl ?_
  refine Owe.ldc2L X0 hx (v := (4294967295 : Int64)) hown (mvT hZ (wd hw 71)) (hb hby d3_7) ?_
  refine Owe.land X0.here hx (hb hby d3_10) rfl ?_
  refine Owe.lstore X0.here hx (hb hby d3_11) rfl (l' := #[.val (.long v1), .second, .val (.long v2), .second, .val (.long (v1 >>> ((32 : Int32) &&& 0x3f).toInt64)), .second, .val (.long (v1 &&& (4294967295 : Int64))), .second, .unset, .unset, .unset, .unset, .unset, .unset, .unset, .unset, .unset, .unset, .unset, .unset]) rfl ?_
  refine Owe.lloadN X0.here hx (hb hby d3_13) rfl ?_
  refine Owe.bipush X0.here hx (hb hby d3_14) (w := (32 : Int32)) rfl ?_
  refine Owe.lshr X0.here hx (hb hby d3_16) rfl ?_
  refine Owe.lstore X0.here hx (hb hby d3_17) rfl (l' := #[.val (.long v1), .second, .val (.long v2), .second, .val (.long (v1 >>> ((32 : Int32) &&& 0x3f).toInt64)), .second, .val (.long (v1 &&& (4294967295 : Int64))), .second, .val (.long (v2 >>> ((32 : Int32) &&& 0x3f).toInt64)), .second, .unset, .unset, .unset, .unset, .unset, .unset, .unset, .unset, .unset, .unset]) rfl ?_
  refine Owe.lloadN X0.here hx (hb hby d3_19) rfl ?_
  refine Owe.ldc2L X0 hx (v := (4294967295 : Int64)) hown (mvT hZ (wd hw 71)) (hb hby d3_20) ?_
  refine Owe.land X0.here hx (hb hby d3_23) rfl ?_
  refine Owe.lstore X0.here hx (hb hby d3_24) rfl (l' := #[.val (.long v1), .second, .val (.long v2), .second, .val (.long (v1 >>> ((32 : Int32) &&& 0x3f).toInt64)), .second, .val (.long (v1 &&& (4294967295 : Int64))), .second, .val (.long (v2 >>> ((32 : Int32) &&& 0x3f).toInt64)), .second, .val (.long (v2 &&& (4294967295 : Int64))), .second, .unset, .unset, .unset, .unset, .unset, .unset, .unset, .unset]) rfl ?_
  refine Owe.lload X0.here hx (hb hby d3_26) rfl ?_
  refine Owe.lload X0.here hx (hb hby d3_28) rfl ?_
  refine Owe.lmul X0.here hx (hb hby d3_30) rfl ?_
  refine Owe.lstore X0.here hx (hb hby d3_31) rfl (l' := #[.val (.long v1), .second, .val (.long v2), .second, .val (.long (v1 >>> ((32 : Int32) &&& 0x3f).toInt64)), .second, .val (.long (v1 &&& (4294967295 : Int64))), .second, .val (.long (v2 >>> ((32 : Int32) &&& 0x3f).toInt64)), .second, .val (.long (v2 &&& (4294967295 : Int64))), .second, .val (.long ((v1 &&& (4294967295 : Int64)) * (v2 &&& (4294967295 : Int64)))), .second, .unset, .unset, .unset, .unset, .unset, .unset]) rfl ?_
  refine Owe.lload X0.here hx (hb hby d3_33) rfl ?_
  refine Owe.lload X0.here hx (hb hby d3_35) rfl ?_
  refine Owe.lmul X0.here hx (hb hby d3_37) rfl ?_
  refine Owe.lload X0.here hx (hb hby d3_38) rfl ?_
  refine Owe.bipush X0.here hx (hb hby d3_40) (w := (32 : Int32)) rfl ?_
  refine Owe.lushr X0.here hx (hb hby d3_42) rfl ?_
  refine Owe.ladd X0.here hx (hb hby d3_43) rfl ?_
  refine Owe.lstore X0.here hx (hb hby d3_44) rfl (l' := #[.val (.long v1), .second, .val (.long v2), .second, .val (.long (v1 >>> ((32 : Int32) &&& 0x3f).toInt64)), .second, .val (.long (v1 &&& (4294967295 : Int64))), .second, .val (.long (v2 >>> ((32 : Int32) &&& 0x3f).toInt64)), .second, .val (.long (v2 &&& (4294967295 : Int64))), .second, .val (.long ((v1 &&& (4294967295 : Int64)) * (v2 &&& (4294967295 : Int64)))), .second, .val (.long (((v1 >>> ((32 : Int32) &&& 0x3f).toInt64) * (v2 &&& (4294967295 : Int64))) + ((((v1 &&& (4294967295 : Int64)) * (v2 &&& (4294967295 : Int64))).toUInt64 >>> ((32 : Int32) &&& 0x3f).toInt64.toUInt64).toInt64))), .second, .unset, .unset, .unset, .unset]) rfl ?_
  refine Owe.lload X0.here hx (hb hby d3_46) rfl ?_
  refine Owe.ldc2L X0 hx (v := (4294967295 : Int64)) hown (mvT hZ (wd hw 71)) (hb hby d3_48) ?_
  refine Owe.land X0.here hx (hb hby d3_51) rfl ?_
  refine Owe.lstore X0.here hx (hb hby d3_52) rfl (l' := #[.val (.long v1), .second, .val (.long v2), .second, .val (.long (v1 >>> ((32 : Int32) &&& 0x3f).toInt64)), .second, .val (.long (v1 &&& (4294967295 : Int64))), .second, .val (.long (v2 >>> ((32 : Int32) &&& 0x3f).toInt64)), .second, .val (.long (v2 &&& (4294967295 : Int64))), .second, .val (.long ((v1 &&& (4294967295 : Int64)) * (v2 &&& (4294967295 : Int64)))), .second, .val (.long (((v1 >>> ((32 : Int32) &&& 0x3f).toInt64) * (v2 &&& (4294967295 : Int64))) + ((((v1 &&& (4294967295 : Int64)) * (v2 &&& (4294967295 : Int64))).toUInt64 >>> ((32 : Int32) &&& 0x3f).toInt64.toUInt64).toInt64))), .second, .val (.long ((((v1 >>> ((32 : Int32) &&& 0x3f).toInt64) * (v2 &&& (4294967295 : Int64))) + ((((v1 &&& (4294967295 : Int64)) * (v2 &&& (4294967295 : Int64))).toUInt64 >>> ((32 : Int32) &&& 0x3f).toInt64.toUInt64).toInt64)) &&& (4294967295 : Int64))), .second, .unset, .unset]) rfl ?_
  refine Owe.lload X0.here hx (hb hby d3_54) rfl ?_
  refine Owe.bipush X0.here hx (hb hby d3_56) (w := (32 : Int32)) rfl ?_
  refine Owe.lshr X0.here hx (hb hby d3_58) rfl ?_
  refine Owe.lstore X0.here hx (hb hby d3_59) rfl (l' := #[.val (.long v1), .second, .val (.long v2), .second, .val (.long (v1 >>> ((32 : Int32) &&& 0x3f).toInt64)), .second, .val (.long (v1 &&& (4294967295 : Int64))), .second, .val (.long (v2 >>> ((32 : Int32) &&& 0x3f).toInt64)), .second, .val (.long (v2 &&& (4294967295 : Int64))), .second, .val (.long ((v1 &&& (4294967295 : Int64)) * (v2 &&& (4294967295 : Int64)))), .second, .val (.long (((v1 >>> ((32 : Int32) &&& 0x3f).toInt64) * (v2 &&& (4294967295 : Int64))) + ((((v1 &&& (4294967295 : Int64)) * (v2 &&& (4294967295 : Int64))).toUInt64 >>> ((32 : Int32) &&& 0x3f).toInt64.toUInt64).toInt64))), .second, .val (.long ((((v1 >>> ((32 : Int32) &&& 0x3f).toInt64) * (v2 &&& (4294967295 : Int64))) + ((((v1 &&& (4294967295 : Int64)) * (v2 &&& (4294967295 : Int64))).toUInt64 >>> ((32 : Int32) &&& 0x3f).toInt64.toUInt64).toInt64)) &&& (4294967295 : Int64))), .second, .val (.long ((((v1 >>> ((32 : Int32) &&& 0x3f).toInt64) * (v2 &&& (4294967295 : Int64))) + ((((v1 &&& (4294967295 : Int64)) * (v2 &&& (4294967295 : Int64))).toUInt64 >>> ((32 : Int32) &&& 0x3f).toInt64.toUInt64).toInt64)) >>> ((32 : Int32) &&& 0x3f).toInt64)), .second]) rfl ?_
  refine Owe.lload X0.here hx (hb hby d3_61) rfl ?_
  refine Owe.lload X0.here hx (hb hby d3_63) rfl ?_
  refine Owe.lload X0.here hx (hb hby d3_65) rfl ?_
  refine Owe.lmul X0.here hx (hb hby d3_67) rfl ?_
  refine Owe.ladd X0.here hx (hb hby d3_68) rfl ?_
  refine Owe.lstore X0.here hx (hb hby d3_69) rfl (l' := #[.val (.long v1), .second, .val (.long v2), .second, .val (.long (v1 >>> ((32 : Int32) &&& 0x3f).toInt64)), .second, .val (.long (v1 &&& (4294967295 : Int64))), .second, .val (.long (v2 >>> ((32 : Int32) &&& 0x3f).toInt64)), .second, .val (.long (v2 &&& (4294967295 : Int64))), .second, .val (.long ((v1 &&& (4294967295 : Int64)) * (v2 &&& (4294967295 : Int64)))), .second, .val (.long (((v1 >>> ((32 : Int32) &&& 0x3f).toInt64) * (v2 &&& (4294967295 : Int64))) + ((((v1 &&& (4294967295 : Int64)) * (v2 &&& (4294967295 : Int64))).toUInt64 >>> ((32 : Int32) &&& 0x3f).toInt64.toUInt64).toInt64))), .second, .val (.long (((((v1 >>> ((32 : Int32) &&& 0x3f).toInt64) * (v2 &&& (4294967295 : Int64))) + ((((v1 &&& (4294967295 : Int64)) * (v2 &&& (4294967295 : Int64))).toUInt64 >>> ((32 : Int32) &&& 0x3f).toInt64.toUInt64).toInt64)) &&& (4294967295 : Int64)) + ((v1 &&& (4294967295 : Int64)) * (v2 >>> ((32 : Int32) &&& 0x3f).toInt64)))), .second, .val (.long ((((v1 >>> ((32 : Int32) &&& 0x3f).toInt64) * (v2 &&& (4294967295 : Int64))) + ((((v1 &&& (4294967295 : Int64)) * (v2 &&& (4294967295 : Int64))).toUInt64 >>> ((32 : Int32) &&& 0x3f).toInt64.toUInt64).toInt64)) >>> ((32 : Int32) &&& 0x3f).toInt64)), .second]) rfl ?_
  refine Owe.lload X0.here hx (hb hby d3_71) rfl ?_
  refine Owe.lload X0.here hx (hb hby d3_73) rfl ?_
  refine Owe.lmul X0.here hx (hb hby d3_75) rfl ?_
  refine Owe.lload X0.here hx (hb hby d3_76) rfl ?_
  refine Owe.ladd X0.here hx (hb hby d3_78) rfl ?_
  refine Owe.lload X0.here hx (hb hby d3_79) rfl ?_
  refine Owe.bipush X0.here hx (hb hby d3_81) (w := (32 : Int32)) rfl ?_
  refine Owe.lshr X0.here hx (hb hby d3_83) rfl ?_
  refine Owe.ladd X0.here hx (hb hby d3_84) rfl ?_
  refine Owe.retJ X0 hx hlk hrt (hb hby d3_85) rfl fun fs hE => ?_
  refine hG _ _ ⟨_, _, rfl, ?_, frameMono hE (by decide) (by decide)⟩
  show Qmh Z v1 v2 h0 n0 _ s₁.heap _
  rw [e0]
  exact ⟨((((v1 >>> ((32 : Int32) &&& 0x3f).toInt64) * (v2 >>> ((32 : Int32) &&& 0x3f).toInt64)) + ((((v1 >>> ((32 : Int32) &&& 0x3f).toInt64) * (v2 &&& (4294967295 : Int64))) + ((((v1 &&& (4294967295 : Int64)) * (v2 &&& (4294967295 : Int64))).toUInt64 >>> ((32 : Int32) &&& 0x3f).toInt64.toUInt64).toInt64)) >>> ((32 : Int32) &&& 0x3f).toInt64)) + ((((((v1 >>> ((32 : Int32) &&& 0x3f).toInt64) * (v2 &&& (4294967295 : Int64))) + ((((v1 &&& (4294967295 : Int64)) * (v2 &&& (4294967295 : Int64))).toUInt64 >>> ((32 : Int32) &&& 0x3f).toInt64.toUInt64).toInt64)) &&& (4294967295 : Int64)) + ((v1 &&& (4294967295 : Int64)) * (v2 >>> ((32 : Int32) &&& 0x3f).toInt64))) >>> ((32 : Int32) &&& 0x3f).toInt64)), rfl, N0, rfl⟩
theorem d4_0 : decode prog_39_method_1_code 0 = .ok (.aload_n 0, 1) := by decide +kernel
theorem d4_1 : decode prog_39_method_1_code 1 = .ok (.invokespecial 3, 3) := by decide +kernel
theorem d4_4 : decode prog_39_method_1_code 4 = .ok (.aload_n 0, 1) := by decide +kernel
theorem d4_5 : decode prog_39_method_1_code 5 = .ok (.new 9, 3) := by decide +kernel
theorem d4_8 : decode prog_39_method_1_code 8 = .ok (.dup, 1) := by decide +kernel
theorem d4_9 : decode prog_39_method_1_code 9 = .ok (.sipush 2098, 3) := by decide +kernel
theorem d4_12 : decode prog_39_method_1_code 12 = .ok (.invokespecial 11, 3) := by decide +kernel
theorem d4_15 : decode prog_39_method_1_code 15 = .ok (.putfield 14, 3) := by decide +kernel
theorem d4_18 : decode prog_39_method_1_code 18 = .ok (.aload_n 0, 1) := by decide +kernel
theorem d4_19 : decode prog_39_method_1_code 19 = .ok (.ldc2_w 20, 3) := by decide +kernel
theorem d4_22 : decode prog_39_method_1_code 22 = .ok (.putfield 22, 3) := by decide +kernel
theorem d4_25 : decode prog_39_method_1_code 25 = .ok (.aload_n 0, 1) := by decide +kernel
theorem d4_26 : decode prog_39_method_1_code 26 = .ok (.ldc2_w 26, 3) := by decide +kernel
theorem d4_29 : decode prog_39_method_1_code 29 = .ok (.putfield 28, 3) := by decide +kernel
theorem d4_32 : decode prog_39_method_1_code 32 = .ok (.aload_n 0, 1) := by decide +kernel
theorem d4_33 : decode prog_39_method_1_code 33 = .ok (.iload_n 1, 1) := by decide +kernel
theorem d4_34 : decode prog_39_method_1_code 34 = .ok (.ifCond .eq 16, 3) := by decide +kernel
theorem d4_37 : decode prog_39_method_1_code 37 = .ok (.new 9, 3) := by decide +kernel
theorem d4_40 : decode prog_39_method_1_code 40 = .ok (.dup, 1) := by decide +kernel
theorem d4_41 : decode prog_39_method_1_code 41 = .ok (.sipush 4196, 3) := by decide +kernel
theorem d4_44 : decode prog_39_method_1_code 44 = .ok (.invokespecial 11, 3) := by decide +kernel
theorem d4_47 : decode prog_39_method_1_code 47 = .ok (.goto 4, 3) := by decide +kernel
theorem d4_50 : decode prog_39_method_1_code 50 = .ok (.aconst_null, 1) := by decide +kernel
theorem d4_51 : decode prog_39_method_1_code 51 = .ok (.putfield 31, 3) := by decide +kernel
theorem d4_54 : decode prog_39_method_1_code 54 = .ok (.return_, 1) := by decide +kernel
theorem pn_1 : plainName "com/example/rill/rill/collectors/ExactMoments" = true := by first | (simp [plainName, overriddenIn]; done) | decide +kernel
theorem ef_emi0 (m : MethodId) (x0 : Addr) (x1 : Int32)  : entryFrame m #[(.ref x0), (.int x1)] 2 = mkF m 0 #[.val (.ref x0), .val (.int x1)] [] := by first | (simp [entryFrame, mkF, argsToLocals, Value.category]; done) | rfl
def Qemi0 (Z : State) (a1 : Addr) (h0 : Heap) (n0 : Nat) (v : Option Value) (h : Heap) (L : List Loc) : Prop := ∃ (s1 : Addr), ∃ (l1 : Addr), ∃ (k1 : ClassId), v = none ∧ Fr n0 L ∧ Keep h0 h [a1] ∧ n0 ≤ s1 ∧ h0.size ≤ s1 ∧ n0 ≤ l1 ∧ h0.size ≤ l1 ∧ Exa Z h a1 "com/example/rill/rill/collectors/ExactMoments" ∧ Fld Z h a1 "com/example/rill/rill/collectors/ExactMoments" "count" "J" (.long (0 : Int64)) ∧ Fld Z h a1 "com/example/rill/rill/collectors/ExactMoments" "least" "D" (.double (9218868437227405312 : UInt64)) ∧ Fld Z h a1 "com/example/rill/rill/collectors/ExactMoments" "greatest" "D" (.double (18442240474082181120 : UInt64)) ∧ Fld Z h a1 "com/example/rill/rill/collectors/ExactMoments" "sum" "Lcom/example/rill/rill/collectors/FixedPointSum;" (.ref s1) ∧ Fld Z h a1 "com/example/rill/rill/collectors/ExactMoments" "squares" "Lcom/example/rill/rill/collectors/FixedPointSum;" .null ∧ s1 ≠ l1 ∧ Exa Z h s1 "com/example/rill/rill/collectors/FixedPointSum" ∧ Fld Z h s1 "com/example/rill/rill/collectors/FixedPointSum" "limbs" "[J" (.ref l1) ∧ Fld Z h s1 "com/example/rill/rill/collectors/FixedPointSum" "additionsSinceCarry" "I" (.int (0 : Int32)) ∧ Arv Z h l1 k1 .long (69 : Int32) [] (.long (0 : Int64))
set_option maxRecDepth 65536 in
set_option maxHeartbeats 40000000 in
theorem rmemi0 (l : Launch) (Z : State) (a0 : Array Value) (hw : Hw Z a0) (ws : List Jvm.Cond) (a1 : Addr) (h0 : Heap) (n0 : Nat) (Z0 : n0 ≤ h0.size) (E_a1 : Exa Z h0 a1 "com/example/rill/rill/collectors/ExactMoments") (Fcount_a1 : Fld Z h0 a1 "com/example/rill/rill/collectors/ExactMoments" "count" "J" (.long (0 : Int64))) (Fleast_a1 : Fld Z h0 a1 "com/example/rill/rill/collectors/ExactMoments" "least" "D" (.double (0 : UInt64))) (Fgreatest_a1 : Fld Z h0 a1 "com/example/rill/rill/collectors/ExactMoments" "greatest" "D" (.double (0 : UInt64))) (Fsum_a1 : Fld Z h0 a1 "com/example/rill/rill/collectors/ExactMoments" "sum" "Lcom/example/rill/rill/collectors/FixedPointSum;" .null) (Fsquares_a1 : Fld Z h0 a1 "com/example/rill/rill/collectors/ExactMoments" "squares" "Lcom/example/rill/rill/collectors/FixedPointSum;" .null) (ge_a1 : n0 ≤ a1) :
    MF l Z Y4 prog_39_method_1_code 2 none ws ({ frames := 2, cells := 4, slots := 210, locals := 30 } : Room) #[(.ref a1), (.int (0 : Int32))] h0 (Qemi0 Z a1 h0 n0) := by
  refine MF.of (plainFor_of_name pn_1) (fun m => ef_emi0 m a1 (0 : Int32)) ?_
  intro p e s m below meth c s₁ G X0 e0 hx hby hml hown hnm hlk hrt hZ hnd hG
  have N0 := Fr.nil n0
  have K0 := Keep.refl h0 [a1]
  refine Owe.aloadN X0.here hx (hb hby d4_0) rfl rfl ?_
  refine Owe.objinit X0 hx hZ hown (wd hw 6) (wd hw 7) (wd hw 8) e0 (by rw [hml]; rfl) rfl (hb hby d4_1) (by decide) (W := 0) (nb rfl) (by decide) fun T92 X92 e92 => ?_
  refine Owe.aloadN X92.here hx (hb hby d4_4) rfl rfl ?_
  refine Owe.new X92 hx hZ hown (wd hw 9) (wd hw 10) (wd hw 11) e92 (hb hby d4_5) (by decide) (by decide) fun T93 h93 b93 g93 X93 e93 E93 A93 D93 => ?_
  have ne_a1_b93 : a1 ≠ b93 := Nat.ne_of_lt (Nat.lt_of_lt_of_le E_a1.lt (Nat.le_of_eq g93.symm))
  have sz_b93 := Nat.le_trans K0.1 (Nat.le_of_eq g93.symm)
  have ge_b93 := Nat.le_trans Z0 (Nat.le_of_eq g93.symm)
  have K_94 := K0.ext E93
  have E_a1_95 := E_a1.ext E93
  have Fcount_a1_96 := Fcount_a1.ext E93
  have Fleast_a1_97 := Fleast_a1.ext E93
  have Fgreatest_a1_98 := Fgreatest_a1.ext E93
  have Fsum_a1_99 := Fsum_a1.ext E93
  have Fsquares_a1_100 := Fsquares_a1.ext E93
  have Z_101 := Nat.le_trans Z0 E93.1
  have Flimbs_b93 : Fld Z h93 b93 "com/example/rill/rill/collectors/FixedPointSum" "limbs" "[J" .null := D93 (Or.inr (wd hw 18)) (ty := (.array .long)) (by decide)
  have FadditionsSinceCarry_b93 : Fld Z h93 b93 "com/example/rill/rill/collectors/FixedPointSum" "additionsSinceCarry" "I" (.int (0 : Int32)) := D93 (Or.inl (wd hw 61)) (ty := .int) (by decide)
  refine Owe.dup X93.here hx (hb hby d4_8) rfl rfl ?_
  refine Owe.sipush X93.here hx (hb hby d4_9) (w := (2098 : Int32)) rfl ?_
  refine Owe.special X93 hx (y := Y0) rfl hown (mvT hZ (wd hw 12)) (mvT hZ (wd hw 13)) (mvT hZ (wd hw 14)) (by decide) (backOf (W := 2) (rmfsi69 l Z a0 hw [] b93 h93 n0 Z_101 A93 Flimbs_b93 FadditionsSinceCarry_b93 ge_b93) hZ (wd hw 14) (wd hw 11) (by decide) (by decide)) (by rw [hml]; rfl) (a := b93) (argsL := [(.int (2098 : Int32))]) (rest := [(.ref b93), (.ref a1)]) (lenOf pd_1 rfl) rfl (nb rfl) (hb hby d4_12) rfl e93 (by decide) (by decide) fun T102 v102 L102 X102 hQ102 => ?_
  obtain ⟨l1_102, kl_102, rfl, Nq102, K102, ge_l1_102, fresh_l1_102, E_a1_102, Flimbs_a1_102, FadditionsSinceCarry_a1_102, V_l1_102⟩ := hQ102
  have N102 := Fr.app N0 Nq102
  have K_103 := K_94.trans K102 (allS (Or.inr sz_b93) all0)
  have E_a1_104 := E_a1_95.keep K102
  have Fcount_a1_105 := Fcount_a1_96.keep K102 (ninS ne_a1_b93 nin0)
  have Fleast_a1_106 := Fleast_a1_97.keep K102 (ninS ne_a1_b93 nin0)
  have Fgreatest_a1_107 := Fgreatest_a1_98.keep K102 (ninS ne_a1_b93 nin0)
  have Fsum_a1_108 := Fsum_a1_99.keep K102 (ninS ne_a1_b93 nin0)
  have Fsquares_a1_109 := Fsquares_a1_100.keep K102 (ninS ne_a1_b93 nin0)
  have A93_110 := A93.keep K102
  have Z_111 := Nat.le_trans Z_101 K102.1
  have ne_a1_l1_102 : a1 ≠ l1_102 := Nat.ne_of_lt (Nat.lt_of_lt_of_le E_a1_95.lt fresh_l1_102)
  have ne_b93_l1_102 : b93 ≠ l1_102 := Nat.ne_of_lt (Nat.lt_of_lt_of_le A93.lt fresh_l1_102)
  have sz_l1_102 := Nat.le_trans K_94.1 fresh_l1_102
  refine Owe.putf X102 hx hZ (host := "") hown (Or.inl (wd hw 19)) Via.refl rfl Fsum_a1_108 E_a1_104 (Or.inr ⟨(wd hw 20), rfl, hnm⟩) (wd hw 1) (ty := (.object "com/example/rill/rill/collectors/FixedPointSum")) (by decide) rfl rfl (hb hby d4_15) rfl fun T112 h112 X112 e112 W112 => ?_
  have K_113 := K_103.wr W112 (Or.inl (List.mem_of_getElem? (i := 0) rfl))
  have E_a1_114 := E_a1_104.wr W112
  have Fcount_a1_115 := Fcount_a1_105.other W112 (Or.inr (slot_ne (Or.inl (wd hw 35)) (Or.inr (wd hw 20)) (by decide) (t := .long) (t' := (.object "com/example/rill/rill/collectors/FixedPointSum")) (by decide) (by decide)))
  have Fleast_a1_116 := Fleast_a1_106.other W112 (Or.inr (slot_ne (Or.inl (wd hw 23)) (Or.inr (wd hw 20)) (by decide) (t := .double) (t' := (.object "com/example/rill/rill/collectors/FixedPointSum")) (by decide) (by decide)))
  have Fgreatest_a1_117 := Fgreatest_a1_107.other W112 (Or.inr (slot_ne (Or.inl (wd hw 26)) (Or.inr (wd hw 20)) (by decide) (t := .double) (t' := (.object "com/example/rill/rill/collectors/FixedPointSum")) (by decide) (by decide)))
  have Fsum_a1_118 := Fsum_a1_108.same W112
  have Fsquares_a1_119 := Fsquares_a1_109.other W112 (Or.inr (slot_ne (Or.inr (wd hw 28)) (Or.inr (wd hw 20)) (by decide) (t := (.object "com/example/rill/rill/collectors/FixedPointSum")) (t' := (.object "com/example/rill/rill/collectors/FixedPointSum")) (by decide) (by decide)))
  have E_a1_120 := E_a1_102.wr W112
  have Flimbs_a1_121 := Flimbs_a1_102.other W112 (Or.inl (Ne.symm ne_a1_b93))
  have FadditionsSinceCarry_a1_122 := FadditionsSinceCarry_a1_102.other W112 (Or.inl (Ne.symm ne_a1_b93))
  have V_l1_123 := V_l1_102.other W112 (Ne.symm ne_a1_l1_102)
  have Z_124 := Nat.le_trans Z_111 (Keep.of_wr W112).1
  have N112 := Fr.snoc X112 N102 ge_a1
  refine Owe.aloadN X112.here hx (hb hby d4_18) rfl rfl ?_
  refine Owe.ldc2D X112 hx (v := (9218868437227405312 : UInt64)) hown (mvT hZ (wd hw 21)) (hb hby d4_19) ?_
  refine Owe.putf X112 hx hZ (host := "") hown (Or.inl (wd hw 22)) Via.refl e112 Fleast_a1_116 E_a1_114 (Or.inl (wd hw 23)) (wd hw 1) (ty := .double) (by decide) rfl rfl (hb hby d4_22) rfl fun T125 h125 X125 e125 W125 => ?_
  have K_126 := K_113.wr W125 (Or.inl (List.mem_of_getElem? (i := 0) rfl))
  have E_a1_127 := E_a1_114.wr W125
  have Fcount_a1_128 := Fcount_a1_115.other W125 (Or.inr (slot_ne (Or.inl (wd hw 35)) (Or.inl (wd hw 23)) (by decide) (t := .long) (t' := .double) (by decide) (by decide)))
  have Fleast_a1_129 := Fleast_a1_116.same W125
  have Fgreatest_a1_130 := Fgreatest_a1_117.other W125 (Or.inr (slot_ne (Or.inl (wd hw 26)) (Or.inl (wd hw 23)) (by decide) (t := .double) (t' := .double) (by decide) (by decide)))
  have Fsum_a1_131 := Fsum_a1_118.other W125 (Or.inr (slot_ne (Or.inr (wd hw 20)) (Or.inl (wd hw 23)) (by decide) (t := (.object "com/example/rill/rill/collectors/FixedPointSum")) (t' := .double) (by decide) (by decide)))
  have Fsquares_a1_132 := Fsquares_a1_119.other W125 (Or.inr (slot_ne (Or.inr (wd hw 28)) (Or.inl (wd hw 23)) (by decide) (t := (.object "com/example/rill/rill/collectors/FixedPointSum")) (t' := .double) (by decide) (by decide)))
  have E_a1_133 := E_a1_120.wr W125
  have Flimbs_a1_134 := Flimbs_a1_121.other W125 (Or.inl (Ne.symm ne_a1_b93))
  have FadditionsSinceCarry_a1_135 := FadditionsSinceCarry_a1_122.other W125 (Or.inl (Ne.symm ne_a1_b93))
  have V_l1_136 := V_l1_123.other W125 (Ne.symm ne_a1_l1_102)
  have Z_137 := Nat.le_trans Z_124 (Keep.of_wr W125).1
  have N125 := Fr.snoc X125 N112 ge_a1
  refine Owe.aloadN X125.here hx (hb hby d4_25) rfl rfl ?_
  refine Owe.ldc2D X125 hx (v := (18442240474082181120 : UInt64)) hown (mvT hZ (wd hw 24)) (hb hby d4_26) ?_
  refine Owe.putf X125 hx hZ (host := "") hown (Or.inl (wd hw 25)) Via.refl e125 Fgreatest_a1_130 E_a1_127 (Or.inl (wd hw 26)) (wd hw 1) (ty := .double) (by decide) rfl rfl (hb hby d4_29) rfl fun T138 h138 X138 e138 W138 => ?_
  have K_139 := K_126.wr W138 (Or.inl (List.mem_of_getElem? (i := 0) rfl))
  have E_a1_140 := E_a1_127.wr W138
  have Fcount_a1_141 := Fcount_a1_128.other W138 (Or.inr (slot_ne (Or.inl (wd hw 35)) (Or.inl (wd hw 26)) (by decide) (t := .long) (t' := .double) (by decide) (by decide)))
  have Fleast_a1_142 := Fleast_a1_129.other W138 (Or.inr (slot_ne (Or.inl (wd hw 23)) (Or.inl (wd hw 26)) (by decide) (t := .double) (t' := .double) (by decide) (by decide)))
  have Fgreatest_a1_143 := Fgreatest_a1_130.same W138
  have Fsum_a1_144 := Fsum_a1_131.other W138 (Or.inr (slot_ne (Or.inr (wd hw 20)) (Or.inl (wd hw 26)) (by decide) (t := (.object "com/example/rill/rill/collectors/FixedPointSum")) (t' := .double) (by decide) (by decide)))
  have Fsquares_a1_145 := Fsquares_a1_132.other W138 (Or.inr (slot_ne (Or.inr (wd hw 28)) (Or.inl (wd hw 26)) (by decide) (t := (.object "com/example/rill/rill/collectors/FixedPointSum")) (t' := .double) (by decide) (by decide)))
  have E_a1_146 := E_a1_133.wr W138
  have Flimbs_a1_147 := Flimbs_a1_134.other W138 (Or.inl (Ne.symm ne_a1_b93))
  have FadditionsSinceCarry_a1_148 := FadditionsSinceCarry_a1_135.other W138 (Or.inl (Ne.symm ne_a1_b93))
  have V_l1_149 := V_l1_136.other W138 (Ne.symm ne_a1_l1_102)
  have Z_150 := Nat.le_trans Z_137 (Keep.of_wr W138).1
  have N138 := Fr.snoc X138 N125 ge_a1
  refine Owe.aloadN X138.here hx (hb hby d4_32) rfl rfl ?_
  refine Owe.iloadN X138.here hx (hb hby d4_33) rfl ?_
  refine Owe.ifYes X138.here hx (hb hby d4_34) rfl ((if0 _ _).trans (teq (by decide)).1) (pc' := 50) (by decide) (by decide) ?_
  refine Owe.aconstNull X138.here hx (hb hby d4_50)  ?_
  refine Owe.putf X138 hx hZ (host := "") hown (Or.inl (wd hw 27)) Via.refl e138 Fsquares_a1_145 E_a1_140 (Or.inr ⟨(wd hw 28), rfl, hnm⟩) (wd hw 1) (ty := (.object "com/example/rill/rill/collectors/FixedPointSum")) (by decide) rfl rfl (hb hby d4_51) rfl fun T151 h151 X151 e151 W151 => ?_
  have K_152 := K_139.wr W151 (Or.inl (List.mem_of_getElem? (i := 0) rfl))
  have E_a1_153 := E_a1_140.wr W151
  have Fcount_a1_154 := Fcount_a1_141.other W151 (Or.inr (slot_ne (Or.inl (wd hw 35)) (Or.inr (wd hw 28)) (by decide) (t := .long) (t' := (.object "com/example/rill/rill/collectors/FixedPointSum")) (by decide) (by decide)))
  have Fleast_a1_155 := Fleast_a1_142.other W151 (Or.inr (slot_ne (Or.inl (wd hw 23)) (Or.inr (wd hw 28)) (by decide) (t := .double) (t' := (.object "com/example/rill/rill/collectors/FixedPointSum")) (by decide) (by decide)))
  have Fgreatest_a1_156 := Fgreatest_a1_143.other W151 (Or.inr (slot_ne (Or.inl (wd hw 26)) (Or.inr (wd hw 28)) (by decide) (t := .double) (t' := (.object "com/example/rill/rill/collectors/FixedPointSum")) (by decide) (by decide)))
  have Fsum_a1_157 := Fsum_a1_144.other W151 (Or.inr (slot_ne (Or.inr (wd hw 20)) (Or.inr (wd hw 28)) (by decide) (t := (.object "com/example/rill/rill/collectors/FixedPointSum")) (t' := (.object "com/example/rill/rill/collectors/FixedPointSum")) (by decide) (by decide)))
  have Fsquares_a1_158 := Fsquares_a1_145.same W151
  have E_a1_159 := E_a1_146.wr W151
  have Flimbs_a1_160 := Flimbs_a1_147.other W151 (Or.inl (Ne.symm ne_a1_b93))
  have FadditionsSinceCarry_a1_161 := FadditionsSinceCarry_a1_148.other W151 (Or.inl (Ne.symm ne_a1_b93))
  have V_l1_162 := V_l1_149.other W151 (Ne.symm ne_a1_l1_102)
  have Z_163 := Nat.le_trans Z_150 (Keep.of_wr W151).1
  have N151 := Fr.snoc X151 N138 ge_a1
  refine Owe.ret0 X151 hx hlk hrt (hb hby d4_54) rfl fun fs hE => ?_
  refine hG _ _ ⟨_, _, rfl, ?_, frameMono hE (by decide) (by decide)⟩
  show Qemi0 Z a1 h0 n0 _ T151.heap _
  rw [e151]
  exact ⟨b93, l1_102, kl_102, rfl, N151, K_152, ge_b93, sz_b93, ge_l1_102, sz_l1_102, E_a1_153, Fcount_a1_154, Fleast_a1_155, Fgreatest_a1_156, Fsum_a1_157, Fsquares_a1_158, ne_b93_l1_102, E_a1_159, Flimbs_a1_160, FadditionsSinceCarry_a1_161, V_l1_162⟩
theorem d5_0 : decode prog_39_method_2_code 0 = .ok (.aload_n 0, 1) := by decide +kernel
theorem d5_1 : decode prog_39_method_2_code 1 = .ok (.dup, 1) := by decide +kernel
theorem d5_2 : decode prog_39_method_2_code 2 = .ok (.getfield 34, 3) := by decide +kernel
theorem d5_5 : decode prog_39_method_2_code 5 = .ok (.lconst 1, 1) := by decide +kernel
theorem d5_6 : decode prog_39_method_2_code 6 = .ok (.ladd, 1) := by decide +kernel
theorem d5_7 : decode prog_39_method_2_code 7 = .ok (.putfield 34, 3) := by decide +kernel
theorem d5_10 : decode prog_39_method_2_code 10 = .ok (.aload_n 0, 1) := by decide +kernel
theorem d5_11 : decode prog_39_method_2_code 11 = .ok (.aload_n 0, 1) := by decide +kernel
theorem d5_12 : decode prog_39_method_2_code 12 = .ok (.getfield 22, 3) := by decide +kernel
theorem d5_15 : decode prog_39_method_2_code 15 = .ok (.dload_n 1, 1) := by decide +kernel
theorem d5_16 : decode prog_39_method_2_code 16 = .ok (.invokestatic 38, 3) := by decide +kernel
theorem d5_19 : decode prog_39_method_2_code 19 = .ok (.putfield 22, 3) := by decide +kernel
theorem d5_22 : decode prog_39_method_2_code 22 = .ok (.aload_n 0, 1) := by decide +kernel
theorem d5_23 : decode prog_39_method_2_code 23 = .ok (.aload_n 0, 1) := by decide +kernel
theorem d5_24 : decode prog_39_method_2_code 24 = .ok (.getfield 28, 3) := by decide +kernel
theorem d5_27 : decode prog_39_method_2_code 27 = .ok (.dload_n 1, 1) := by decide +kernel
theorem d5_28 : decode prog_39_method_2_code 28 = .ok (.invokestatic 44, 3) := by decide +kernel
theorem d5_31 : decode prog_39_method_2_code 31 = .ok (.putfield 28, 3) := by decide +kernel
theorem d5_34 : decode prog_39_method_2_code 34 = .ok (.dload_n 1, 1) := by decide +kernel
theorem d5_35 : decode prog_39_method_2_code 35 = .ok (.invokestatic 47, 3) := by decide +kernel
theorem d5_38 : decode prog_39_method_2_code 38 = .ok (.lstore_n 3, 1) := by decide +kernel
theorem d5_39 : decode prog_39_method_2_code 39 = .ok (.lload_n 3, 1) := by decide +kernel
theorem d5_40 : decode prog_39_method_2_code 40 = .ok (.bipush 52, 2) := by decide +kernel
theorem d5_42 : decode prog_39_method_2_code 42 = .ok (.lushr, 1) := by decide +kernel
theorem d5_43 : decode prog_39_method_2_code 43 = .ok (.l2i, 1) := by decide +kernel
theorem d5_44 : decode prog_39_method_2_code 44 = .ok (.sipush 2047, 3) := by decide +kernel
theorem d5_47 : decode prog_39_method_2_code 47 = .ok (.iand, 1) := by decide +kernel
theorem d5_48 : decode prog_39_method_2_code 48 = .ok (.istore 5, 2) := by decide +kernel
theorem d5_50 : decode prog_39_method_2_code 50 = .ok (.iload 5, 2) := by decide +kernel
theorem d5_52 : decode prog_39_method_2_code 52 = .ok (.sipush 2047, 3) := by decide +kernel
theorem d5_55 : decode prog_39_method_2_code 55 = .ok (.if_icmp .ne 9, 3) := by decide +kernel
theorem d5_58 : decode prog_39_method_2_code 58 = .ok (.aload_n 0, 1) := by decide +kernel
theorem d5_59 : decode prog_39_method_2_code 59 = .ok (.dload_n 1, 1) := by decide +kernel
theorem d5_60 : decode prog_39_method_2_code 60 = .ok (.invokevirtual 51, 3) := by decide +kernel
theorem d5_63 : decode prog_39_method_2_code 63 = .ok (.return_, 1) := by decide +kernel
theorem d5_64 : decode prog_39_method_2_code 64 = .ok (.lload_n 3, 1) := by decide +kernel
theorem d5_65 : decode prog_39_method_2_code 65 = .ok (.ldc2_w 55, 3) := by decide +kernel
theorem d5_68 : decode prog_39_method_2_code 68 = .ok (.land, 1) := by decide +kernel
theorem d5_69 : decode prog_39_method_2_code 69 = .ok (.lstore 6, 2) := by decide +kernel
theorem d5_71 : decode prog_39_method_2_code 71 = .ok (.lload 6, 2) := by decide +kernel
theorem d5_73 : decode prog_39_method_2_code 73 = .ok (.lconst 0, 1) := by decide +kernel
theorem d5_74 : decode prog_39_method_2_code 74 = .ok (.lcmp, 1) := by decide +kernel
theorem d5_75 : decode prog_39_method_2_code 75 = .ok (.ifCond .ne 9, 3) := by decide +kernel
theorem d5_78 : decode prog_39_method_2_code 78 = .ok (.iload 5, 2) := by decide +kernel
theorem d5_80 : decode prog_39_method_2_code 80 = .ok (.ifCond .ne 4, 3) := by decide +kernel
theorem d5_83 : decode prog_39_method_2_code 83 = .ok (.return_, 1) := by decide +kernel
theorem d5_84 : decode prog_39_method_2_code 84 = .ok (.iload 5, 2) := by decide +kernel
theorem d5_86 : decode prog_39_method_2_code 86 = .ok (.ifCond .ne 9, 3) := by decide +kernel
theorem d5_89 : decode prog_39_method_2_code 89 = .ok (.sipush (-1074), 3) := by decide +kernel
theorem d5_92 : decode prog_39_method_2_code 92 = .ok (.goto 9, 3) := by decide +kernel
theorem d5_95 : decode prog_39_method_2_code 95 = .ok (.iload 5, 2) := by decide +kernel
theorem d5_97 : decode prog_39_method_2_code 97 = .ok (.sipush 1075, 3) := by decide +kernel
theorem d5_100 : decode prog_39_method_2_code 100 = .ok (.isub, 1) := by decide +kernel
theorem d5_101 : decode prog_39_method_2_code 101 = .ok (.istore 8, 2) := by decide +kernel
theorem d5_103 : decode prog_39_method_2_code 103 = .ok (.iload 5, 2) := by decide +kernel
theorem d5_105 : decode prog_39_method_2_code 105 = .ok (.ifCond .eq 11, 3) := by decide +kernel
theorem d5_108 : decode prog_39_method_2_code 108 = .ok (.lload 6, 2) := by decide +kernel
theorem d5_110 : decode prog_39_method_2_code 110 = .ok (.ldc2_w 57, 3) := by decide +kernel
theorem d5_113 : decode prog_39_method_2_code 113 = .ok (.lor, 1) := by decide +kernel
theorem d5_114 : decode prog_39_method_2_code 114 = .ok (.lstore 6, 2) := by decide +kernel
theorem d5_116 : decode prog_39_method_2_code 116 = .ok (.lload_n 3, 1) := by decide +kernel
theorem d5_117 : decode prog_39_method_2_code 117 = .ok (.lconst 0, 1) := by decide +kernel
theorem d5_118 : decode prog_39_method_2_code 118 = .ok (.lcmp, 1) := by decide +kernel
theorem d5_119 : decode prog_39_method_2_code 119 = .ok (.ifCond .ge 7, 3) := by decide +kernel
theorem d5_122 : decode prog_39_method_2_code 122 = .ok (.iconst 1, 1) := by decide +kernel
theorem d5_123 : decode prog_39_method_2_code 123 = .ok (.goto 4, 3) := by decide +kernel
theorem d5_126 : decode prog_39_method_2_code 126 = .ok (.iconst 0, 1) := by decide +kernel
theorem d5_127 : decode prog_39_method_2_code 127 = .ok (.istore 9, 2) := by decide +kernel
theorem d5_129 : decode prog_39_method_2_code 129 = .ok (.aload_n 0, 1) := by decide +kernel
theorem d5_130 : decode prog_39_method_2_code 130 = .ok (.getfield 14, 3) := by decide +kernel
theorem d5_133 : decode prog_39_method_2_code 133 = .ok (.iload 9, 2) := by decide +kernel
theorem d5_135 : decode prog_39_method_2_code 135 = .ok (.lconst 0, 1) := by decide +kernel
theorem d5_136 : decode prog_39_method_2_code 136 = .ok (.lload 6, 2) := by decide +kernel
theorem d5_138 : decode prog_39_method_2_code 138 = .ok (.iload 8, 2) := by decide +kernel
theorem d5_140 : decode prog_39_method_2_code 140 = .ok (.sipush (-1074), 3) := by decide +kernel
theorem d5_143 : decode prog_39_method_2_code 143 = .ok (.isub, 1) := by decide +kernel
theorem d5_144 : decode prog_39_method_2_code 144 = .ok (.invokevirtual 59, 3) := by decide +kernel
theorem d5_147 : decode prog_39_method_2_code 147 = .ok (.aload_n 0, 1) := by decide +kernel
theorem d5_148 : decode prog_39_method_2_code 148 = .ok (.getfield 31, 3) := by decide +kernel
theorem d5_151 : decode prog_39_method_2_code 151 = .ok (.ifnull 35, 3) := by decide +kernel
theorem d5_154 : decode prog_39_method_2_code 154 = .ok (.lload 6, 2) := by decide +kernel
theorem d5_156 : decode prog_39_method_2_code 156 = .ok (.lload 6, 2) := by decide +kernel
theorem d5_158 : decode prog_39_method_2_code 158 = .ok (.invokestatic 63, 3) := by decide +kernel
theorem d5_161 : decode prog_39_method_2_code 161 = .ok (.lstore 10, 2) := by decide +kernel
theorem d5_163 : decode prog_39_method_2_code 163 = .ok (.aload_n 0, 1) := by decide +kernel
theorem d5_164 : decode prog_39_method_2_code 164 = .ok (.getfield 31, 3) := by decide +kernel
theorem d5_167 : decode prog_39_method_2_code 167 = .ok (.iconst 0, 1) := by decide +kernel
theorem d5_168 : decode prog_39_method_2_code 168 = .ok (.lload 10, 2) := by decide +kernel
theorem d5_170 : decode prog_39_method_2_code 170 = .ok (.lload 6, 2) := by decide +kernel
theorem d5_172 : decode prog_39_method_2_code 172 = .ok (.lload 6, 2) := by decide +kernel
theorem d5_174 : decode prog_39_method_2_code 174 = .ok (.lmul, 1) := by decide +kernel
theorem d5_175 : decode prog_39_method_2_code 175 = .ok (.iconst 2, 1) := by decide +kernel
theorem d5_176 : decode prog_39_method_2_code 176 = .ok (.iload 8, 2) := by decide +kernel
theorem d5_178 : decode prog_39_method_2_code 178 = .ok (.imul, 1) := by decide +kernel
theorem d5_179 : decode prog_39_method_2_code 179 = .ok (.sipush (-2148), 3) := by decide +kernel
theorem d5_182 : decode prog_39_method_2_code 182 = .ok (.isub, 1) := by decide +kernel
theorem d5_183 : decode prog_39_method_2_code 183 = .ok (.invokevirtual 59, 3) := by decide +kernel
theorem d5_186 : decode prog_39_method_2_code 186 = .ok (.return_, 1) := by decide +kernel
theorem ef_ema0 (m : MethodId) (x0 : Addr) (x1 : UInt64)  : entryFrame m #[(.ref x0), (.double x1)] 12 = mkF m 0 #[.val (.ref x0), .val (.double x1), .second, .unset, .unset, .unset, .unset, .unset, .unset, .unset, .unset, .unset] [] := by first | (simp [entryFrame, mkF, argsToLocals, Value.category]; done) | rfl
def Qema0 (Z : State) (a1 : Addr) (s1 : Addr) (l1 : Addr) (k1 : ClassId) (vs1 : List Value) (dv1 : Value) (ac1 : Int32) (ct : Int64) (ls : UInt64) (gr : UInt64) (x1 : UInt64) (bd : Int) (h0 : Heap) (n0 : Nat) (v : Option Value) (h : Heap) (L : List Loc) : Prop := ∃ (ac1n : Int32), ∃ (ws1 : List Value), v = none ∧ Fr n0 L ∧ Keep h0 h [a1, s1, l1] ∧ Exa Z h a1 "com/example/rill/rill/collectors/ExactMoments" ∧ Fld Z h a1 "com/example/rill/rill/collectors/ExactMoments" "count" "J" (.long (ct + (1 : Int64))) ∧ Fld Z h a1 "com/example/rill/rill/collectors/ExactMoments" "least" "D" (.double (pick64 false ls x1)) ∧ Fld Z h a1 "com/example/rill/rill/collectors/ExactMoments" "greatest" "D" (.double (pick64 true gr x1)) ∧ Fld Z h a1 "com/example/rill/rill/collectors/ExactMoments" "sum" "Lcom/example/rill/rill/collectors/FixedPointSum;" (.ref s1) ∧ Fld Z h a1 "com/example/rill/rill/collectors/ExactMoments" "squares" "Lcom/example/rill/rill/collectors/FixedPointSum;" .null ∧ Exa Z h s1 "com/example/rill/rill/collectors/FixedPointSum" ∧ Fld Z h s1 "com/example/rill/rill/collectors/FixedPointSum" "limbs" "[J" (.ref l1) ∧ Fld Z h s1 "com/example/rill/rill/collectors/FixedPointSum" "additionsSinceCarry" "I" (.int ac1n) ∧ Arv Z h l1 k1 .long (69 : Int32) ws1 dv1 ∧ (0 ≤ ac1n.toInt ∧ ac1n.toInt ≤ (bd + 1))
set_option maxRecDepth 65536 in
set_option maxHeartbeats 40000000 in
theorem rmema0 (l : Launch) (Z : State) (a0 : Array Value) (hw : Hw Z a0) (ws : List Jvm.Cond) (a1 : Addr) (s1 : Addr) (l1 : Addr) (k1 : ClassId) (vs1 : List Value) (dv1 : Value) (ac1 : Int32) (ct : Int64) (ls : UInt64) (gr : UInt64) (x1 : UInt64) (bd : Int) (h0 : Heap) (n0 : Nat) (Z0 : n0 ≤ h0.size) (E_a1 : Exa Z h0 a1 "com/example/rill/rill/collectors/ExactMoments") (Fcount_a1 : Fld Z h0 a1 "com/example/rill/rill/collectors/ExactMoments" "count" "J" (.long ct)) (Fleast_a1 : Fld Z h0 a1 "com/example/rill/rill/collectors/ExactMoments" "least" "D" (.double ls)) (Fgreatest_a1 : Fld Z h0 a1 "com/example/rill/rill/collectors/ExactMoments" "greatest" "D" (.double gr)) (Fsum_a1 : Fld Z h0 a1 "com/example/rill/rill/collectors/ExactMoments" "sum" "Lcom/example/rill/rill/collectors/FixedPointSum;" (.ref s1)) (Fsquares_a1 : Fld Z h0 a1 "com/example/rill/rill/collectors/ExactMoments" "squares" "Lcom/example/rill/rill/collectors/FixedPointSum;" .null) (E_s1 : Exa Z h0 s1 "com/example/rill/rill/collectors/FixedPointSum") (Flimbs_s1 : Fld Z h0 s1 "com/example/rill/rill/collectors/FixedPointSum" "limbs" "[J" (.ref l1)) (FadditionsSinceCarry_s1 : Fld Z h0 s1 "com/example/rill/rill/collectors/FixedPointSum" "additionsSinceCarry" "I" (.int ac1)) (V_l1 : Arv Z h0 l1 k1 .long (69 : Int32) vs1 dv1) (ge_a1 : n0 ≤ a1) (ge_s1 : n0 ≤ s1) (ge_l1 : n0 ≤ l1) (ne_a1_s1 : a1 ≠ s1) (ne_a1_l1 : a1 ≠ l1) (ne_s1_l1 : s1 ≠ l1) (hls : FP.dIsNaN ls = false) (hgr : FP.dIsNaN gr = false) (hx1 : FP.dIsNaN x1 = false) (hmag : Jvm.Free.Fl.Mag64 1056 x1) (hbd : bd ≤ 100) (hb1 : 0 ≤ ac1.toInt ∧ ac1.toInt ≤ bd) :
    MF l Z Y5 prog_39_method_2_code 12 none ws ({ frames := 2, cells := 0, slots := 0, locals := 60 } : Room) #[(.ref a1), (.double x1)] h0 (Qema0 Z a1 s1 l1 k1 vs1 dv1 ac1 ct ls gr x1 bd h0 n0) := by
  refine MF.of (plainFor_of_name pn_1) (fun m => ef_ema0 m a1 x1) ?_
  intro p e s m below meth c s₁ G X0 e0 hx hby hml hown hnm hlk hrt hZ hnd hG
  have N0 := Fr.nil n0
  have K0 := Keep.refl h0 [a1, s1, l1]
  refine Owe.aloadN X0.here hx (hb hby d5_0) rfl rfl ?_
  refine Owe.dup X0.here hx (hb hby d5_1) rfl rfl ?_
  refine Owe.getf X0 hx hZ (host := "") hown (Or.inl (wd hw 34)) Via.refl e0 Fcount_a1 (hb hby d5_2) rfl fun T164 X164 e164 => ?_
  refine Owe.lconst X164.here hx (hb hby d5_5) (w := (1 : Int64)) rfl ?_
  refine Owe.ladd X164.here hx (hb hby d5_6) rfl ?_
  refine Owe.putf X164 hx hZ (host := "") hown (Or.inl (wd hw 34)) Via.refl e164 Fcount_a1 E_a1 (Or.inl (wd hw 35)) (wd hw 1) (ty := .long) (by decide) rfl rfl (hb hby d5_7) rfl fun T165 h165 X165 e165 W165 => ?_
  have K_166 := K0.wr W165 (Or.inl (List.mem_of_getElem? (i := 0) rfl))
  have E_a1_167 := E_a1.wr W165
  have Fcount_a1_168 := Fcount_a1.same W165
  have Fleast_a1_169 := Fleast_a1.other W165 (Or.inr (slot_ne (Or.inl (wd hw 23)) (Or.inl (wd hw 35)) (by decide) (t := .double) (t' := .long) (by decide) (by decide)))
  have Fgreatest_a1_170 := Fgreatest_a1.other W165 (Or.inr (slot_ne (Or.inl (wd hw 26)) (Or.inl (wd hw 35)) (by decide) (t := .double) (t' := .long) (by decide) (by decide)))
  have Fsum_a1_171 := Fsum_a1.other W165 (Or.inr (slot_ne (Or.inr (wd hw 20)) (Or.inl (wd hw 35)) (by decide) (t := (.object "com/example/rill/rill/collectors/FixedPointSum")) (t' := .long) (by decide) (by decide)))
  have Fsquares_a1_172 := Fsquares_a1.other W165 (Or.inr (slot_ne (Or.inr (wd hw 28)) (Or.inl (wd hw 35)) (by decide) (t := (.object "com/example/rill/rill/collectors/FixedPointSum")) (t' := .long) (by decide) (by decide)))
  have E_s1_173 := E_s1.wr W165
  have Flimbs_s1_174 := Flimbs_s1.other W165 (Or.inl (Ne.symm ne_a1_s1))
  have FadditionsSinceCarry_s1_175 := FadditionsSinceCarry_s1.other W165 (Or.inl (Ne.symm ne_a1_s1))
  have V_l1_176 := V_l1.other W165 (Ne.symm ne_a1_l1)
  have Z_177 := Nat.le_trans Z0 (Keep.of_wr W165).1
  have N165 := Fr.snoc X165 N0 ge_a1
  refine Owe.aloadN X165.here hx (hb hby d5_10) rfl rfl ?_
  refine Owe.aloadN X165.here hx (hb hby d5_11) rfl rfl ?_
  refine Owe.getf X165 hx hZ (host := "") hown (Or.inl (wd hw 22)) Via.refl e165 Fleast_a1_169 (hb hby d5_12) rfl fun T178 X178 e178 => ?_
  refine Owe.dloadN X178.here hx (hb hby d5_15) rfl ?_
  refine Owe.minD X178 hx hZ hown (wd hw 42) (wd hw 43) (wd hw 44) (wd hw 45) e178 hls hx1 (by rw [hml]; rfl) rfl (hb hby d5_16) (by decide) (W := 1) (nb rfl) (by decide) fun T179 X179 e179 => ?_
  refine Owe.putf X179 hx hZ (host := "") hown (Or.inl (wd hw 22)) Via.refl e179 Fleast_a1_169 E_a1_167 (Or.inl (wd hw 23)) (wd hw 1) (ty := .double) (by decide) rfl rfl (hb hby d5_19) rfl fun T180 h180 X180 e180 W180 => ?_
  have K_181 := K_166.wr W180 (Or.inl (List.mem_of_getElem? (i := 0) rfl))
  have E_a1_182 := E_a1_167.wr W180
  have Fcount_a1_183 := Fcount_a1_168.other W180 (Or.inr (slot_ne (Or.inl (wd hw 35)) (Or.inl (wd hw 23)) (by decide) (t := .long) (t' := .double) (by decide) (by decide)))
  have Fleast_a1_184 := Fleast_a1_169.same W180
  have Fgreatest_a1_185 := Fgreatest_a1_170.other W180 (Or.inr (slot_ne (Or.inl (wd hw 26)) (Or.inl (wd hw 23)) (by decide) (t := .double) (t' := .double) (by decide) (by decide)))
  have Fsum_a1_186 := Fsum_a1_171.other W180 (Or.inr (slot_ne (Or.inr (wd hw 20)) (Or.inl (wd hw 23)) (by decide) (t := (.object "com/example/rill/rill/collectors/FixedPointSum")) (t' := .double) (by decide) (by decide)))
  have Fsquares_a1_187 := Fsquares_a1_172.other W180 (Or.inr (slot_ne (Or.inr (wd hw 28)) (Or.inl (wd hw 23)) (by decide) (t := (.object "com/example/rill/rill/collectors/FixedPointSum")) (t' := .double) (by decide) (by decide)))
  have E_s1_188 := E_s1_173.wr W180
  have Flimbs_s1_189 := Flimbs_s1_174.other W180 (Or.inl (Ne.symm ne_a1_s1))
  have FadditionsSinceCarry_s1_190 := FadditionsSinceCarry_s1_175.other W180 (Or.inl (Ne.symm ne_a1_s1))
  have V_l1_191 := V_l1_176.other W180 (Ne.symm ne_a1_l1)
  have Z_192 := Nat.le_trans Z_177 (Keep.of_wr W180).1
  have N180 := Fr.snoc X180 N165 ge_a1
  refine Owe.aloadN X180.here hx (hb hby d5_22) rfl rfl ?_
  refine Owe.aloadN X180.here hx (hb hby d5_23) rfl rfl ?_
  refine Owe.getf X180 hx hZ (host := "") hown (Or.inl (wd hw 25)) Via.refl e180 Fgreatest_a1_185 (hb hby d5_24) rfl fun T193 X193 e193 => ?_
  refine Owe.dloadN X193.here hx (hb hby d5_27) rfl ?_
  refine Owe.maxD X193 hx hZ hown (wd hw 46) (wd hw 47) (wd hw 44) (wd hw 48) e193 hgr hx1 (by rw [hml]; rfl) rfl (hb hby d5_28) (by decide) (W := 1) (nb rfl) (by decide) fun T194 X194 e194 => ?_
  refine Owe.putf X194 hx hZ (host := "") hown (Or.inl (wd hw 25)) Via.refl e194 Fgreatest_a1_185 E_a1_182 (Or.inl (wd hw 26)) (wd hw 1) (ty := .double) (by decide) rfl rfl (hb hby d5_31) rfl fun T195 h195 X195 e195 W195 => ?_
  have K_196 := K_181.wr W195 (Or.inl (List.mem_of_getElem? (i := 0) rfl))
  have E_a1_197 := E_a1_182.wr W195
  have Fcount_a1_198 := Fcount_a1_183.other W195 (Or.inr (slot_ne (Or.inl (wd hw 35)) (Or.inl (wd hw 26)) (by decide) (t := .long) (t' := .double) (by decide) (by decide)))
  have Fleast_a1_199 := Fleast_a1_184.other W195 (Or.inr (slot_ne (Or.inl (wd hw 23)) (Or.inl (wd hw 26)) (by decide) (t := .double) (t' := .double) (by decide) (by decide)))
  have Fgreatest_a1_200 := Fgreatest_a1_185.same W195
  have Fsum_a1_201 := Fsum_a1_186.other W195 (Or.inr (slot_ne (Or.inr (wd hw 20)) (Or.inl (wd hw 26)) (by decide) (t := (.object "com/example/rill/rill/collectors/FixedPointSum")) (t' := .double) (by decide) (by decide)))
  have Fsquares_a1_202 := Fsquares_a1_187.other W195 (Or.inr (slot_ne (Or.inr (wd hw 28)) (Or.inl (wd hw 26)) (by decide) (t := (.object "com/example/rill/rill/collectors/FixedPointSum")) (t' := .double) (by decide) (by decide)))
  have E_s1_203 := E_s1_188.wr W195
  have Flimbs_s1_204 := Flimbs_s1_189.other W195 (Or.inl (Ne.symm ne_a1_s1))
  have FadditionsSinceCarry_s1_205 := FadditionsSinceCarry_s1_190.other W195 (Or.inl (Ne.symm ne_a1_s1))
  have V_l1_206 := V_l1_191.other W195 (Ne.symm ne_a1_l1)
  have Z_207 := Nat.le_trans Z_192 (Keep.of_wr W195).1
  have N195 := Fr.snoc X195 N180 ge_a1
  refine Owe.dloadN X195.here hx (hb hby d5_34) rfl ?_
  refine Owe.rawBits X195 hx hZ hown (wd hw 49) (wd hw 52) (wd hw 50) (wd hw 51) e195 (by rw [hml]; rfl) rfl (hb hby d5_35) (by decide) (W := 0) (nb rfl) (by decide +kernel) fun T208 X208 e208 => ?_
  refine Owe.lstoreN X208.here hx (hb hby d5_38) rfl (l' := #[.val (.ref a1), .val (.double x1), .second, .val (.long (x1.toInt64)), .second, .unset, .unset, .unset, .unset, .unset, .unset, .unset]) rfl ?_
  refine Owe.lloadN X208.here hx (hb hby d5_39) rfl ?_
  refine Owe.bipush X208.here hx (hb hby d5_40) (w := (52 : Int32)) rfl ?_
  refine Owe.lushr X208.here hx (hb hby d5_42) rfl ?_
  refine Owe.l2i X208.here hx (hb hby d5_43) rfl ?_
  refine Owe.sipush X208.here hx (hb hby d5_44) (w := (2047 : Int32)) rfl ?_
  refine Owe.iand X208.here hx (hb hby d5_47) rfl ?_
  have hE := own_exp hmag
  generalize (((((x1.toInt64).toUInt64 >>> ((52 : Int32) &&& 0x3f).toInt64.toUInt64).toInt64).toInt32) &&& (2047 : Int32)) = ee at hE ⊢
  refine Owe.istore X208.here hx (hb hby d5_48) rfl (l' := #[.val (.ref a1), .val (.double x1), .second, .val (.long (x1.toInt64)), .second, .val (.int ee), .unset, .unset, .unset, .unset, .unset, .unset]) rfl ?_
  refine Owe.iload X208.here hx (hb hby d5_50) rfl ?_
  refine Owe.sipush X208.here hx (hb hby d5_52) (w := (2047 : Int32)) rfl ?_
  refine Owe.icmpYes X208.here hx (hb hby d5_55) rfl (feq (own_n2047 hE)).2 (pc' := 64) (by decide) (by decide) ?_
  refine Owe.lloadN X208.here hx (hb hby d5_64) rfl ?_
  refine Owe.ldc2L X208 hx (v := (4503599627370495 : Int64)) hown (mvT hZ (wd hw 53)) (hb hby d5_65) ?_
  refine Owe.land X208.here hx (hb hby d5_68) rfl ?_
  generalize ((x1.toInt64) &&& (4503599627370495 : Int64)) = mm
  refine Owe.lstore X208.here hx (hb hby d5_69) rfl (l' := #[.val (.ref a1), .val (.double x1), .second, .val (.long (x1.toInt64)), .second, .val (.int ee), .val (.long mm), .second, .unset, .unset, .unset, .unset]) rfl ?_
  refine Owe.lload X208.here hx (hb hby d5_71) rfl ?_
  refine Owe.lconst X208.here hx (hb hby d5_73) (w := (0 : Int64)) rfl ?_
  refine Owe.lcmp X208.here hx (hb hby d5_74) rfl ?_
  by_cases hc75_209 : (lcmpW mm (0 : Int64)) = (0 : Int32)
  · skip
    refine Owe.ifNo X208.here hx (hb hby d5_75) rfl ((if0 _ _).trans (teq hc75_209).2) ?_
    refine Owe.iload X208.here hx (hb hby d5_78) rfl ?_
    by_cases hc80_210 : ee = (0 : Int32)
    · skip
      refine Owe.ifNo X208.here hx (hb hby d5_80) rfl ((if0 _ _).trans (teq hc80_210).2) ?_
      refine Owe.ret0 X208 hx hlk hrt (hb hby d5_83) rfl fun fs hE => ?_
      refine hG _ _ ⟨_, _, rfl, ?_, frameMono hE (by decide) (by decide)⟩
      show Qema0 Z a1 s1 l1 k1 vs1 dv1 ac1 ct ls gr x1 bd h0 n0 _ T208.heap _
      rw [e208]
      exact ⟨ac1, vs1, rfl, N195, K_196, E_a1_197, Fcount_a1_198, Fleast_a1_199, Fgreatest_a1_200, Fsum_a1_201, Fsquares_a1_202, E_s1_203, Flimbs_s1_204, FadditionsSinceCarry_s1_205, V_l1_206, own_as0 hb1⟩
    · skip
      refine Owe.ifYes X208.here hx (hb hby d5_80) rfl ((if0 _ _).trans (feq hc80_210).2) (pc' := 84) (by decide) (by decide) ?_
      refine Owe.iload X208.here hx (hb hby d5_84) rfl ?_
      refine Owe.ifYes X208.here hx (hb hby d5_86) rfl ((if0 _ _).trans (feq hc80_210).2) (pc' := 95) (by decide) (by decide) ?_
      refine Owe.iload X208.here hx (hb hby d5_95) rfl ?_
      refine Owe.sipush X208.here hx (hb hby d5_97) (w := (1075 : Int32)) rfl ?_
      refine Owe.isub X208.here hx (hb hby d5_100) rfl ?_
      refine Owe.istore X208.here hx (hb hby d5_101) rfl (l' := #[.val (.ref a1), .val (.double x1), .second, .val (.long (x1.toInt64)), .second, .val (.int ee), .val (.long mm), .second, .val (.int (ee - (1075 : Int32))), .unset, .unset, .unset]) rfl ?_
      refine Owe.iload X208.here hx (hb hby d5_103) rfl ?_
      refine Owe.ifNo X208.here hx (hb hby d5_105) rfl ((if0 _ _).trans (feq hc80_210).1) ?_
      refine Owe.lload X208.here hx (hb hby d5_108) rfl ?_
      refine Owe.ldc2L X208 hx (v := (4503599627370496 : Int64)) hown (mvT hZ (wd hw 54)) (hb hby d5_110) ?_
      refine Owe.lor X208.here hx (hb hby d5_113) rfl ?_
      refine Owe.lstore X208.here hx (hb hby d5_114) rfl (l' := #[.val (.ref a1), .val (.double x1), .second, .val (.long (x1.toInt64)), .second, .val (.int ee), .val (.long (mm ||| (4503599627370496 : Int64))), .second, .val (.int (ee - (1075 : Int32))), .unset, .unset, .unset]) rfl ?_
      refine Owe.lloadN X208.here hx (hb hby d5_116) rfl ?_
      refine Owe.lconst X208.here hx (hb hby d5_117) (w := (0 : Int64)) rfl ?_
      refine Owe.lcmp X208.here hx (hb hby d5_118) rfl ?_
      by_cases hc119_211 : (lcmpW (x1.toInt64) (0 : Int64)) < (0 : Int32)
      · skip
        refine Owe.ifNo X208.here hx (hb hby d5_119) rfl ((if0 _ _).trans (tlt hc119_211).2.1) ?_
        refine Owe.iconst X208.here hx (hb hby d5_122) (w := (1 : Int32)) rfl ?_
        refine Owe.goto X208.here hx (hb hby d5_123) (pc' := 127) (by decide) (by decide) ?_
        refine Owe.istore X208.here hx (hb hby d5_127) rfl (l' := #[.val (.ref a1), .val (.double x1), .second, .val (.long (x1.toInt64)), .second, .val (.int ee), .val (.long (mm ||| (4503599627370496 : Int64))), .second, .val (.int (ee - (1075 : Int32))), .val (.int (1 : Int32)), .unset, .unset]) rfl ?_
        refine Owe.aloadN X208.here hx (hb hby d5_129) rfl rfl ?_
        refine Owe.getf X208 hx hZ (host := "") hown (Or.inl (wd hw 19)) Via.refl e208 Fsum_a1_201 (hb hby d5_130) rfl fun T212 X212 e212 => ?_
        refine Owe.iload X212.here hx (hb hby d5_133) rfl ?_
        refine Owe.lconst X212.here hx (hb hby d5_135) (w := (0 : Int64)) rfl ?_
        refine Owe.lload X212.here hx (hb hby d5_136) rfl ?_
        refine Owe.iload X212.here hx (hb hby d5_138) rfl ?_
        refine Owe.sipush X212.here hx (hb hby d5_140) (w := (-1074 : Int32)) rfl ?_
        refine Owe.isub X212.here hx (hb hby d5_143) rfl ?_
        refine Owe.virt X212 hx hZ (y := Y2) (z := Y2) hown (mvT hZ (wd hw 55)) (mvT hZ (wd hw 56)) (mvT hZ (wd hw 58)) (mvT hZ (wd hw 57)) (notFace_of_selects (args := #[]) (mvT hZ (wd hw 58))) (by decide) (backOf (W := 0) (rmfpa l Z a0 hw [] s1 l1 k1 (69 : Int32) vs1 dv1 ac1 (1 : Int32) (0 : Int64) (mm ||| (4503599627370496 : Int64)) ((ee - (1075 : Int32)) - (-1074 : Int32)) h195 n0 Z_207 E_s1_203 Flimbs_s1_204 FadditionsSinceCarry_s1_205 V_l1_206 ge_s1 ge_l1 ne_s1_l1 (own_nac hb1 hbd) (own_q1 hE hc80_210)) hZ (wd hw 59) (wd hw 11) (by decide) (by decide)) (by rw [hml]; rfl) (a := s1) (argsL := [(.int (1 : Int32)), (.long (0 : Int64)), (.long (mm ||| (4503599627370496 : Int64))), (.int ((ee - (1075 : Int32)) - (-1074 : Int32)))]) (rest := []) E_s1_203 (lenOf pd_2 rfl) rfl (nb rfl) (hb hby d5_144) rfl e212 (by decide) (by decide) fun T213 v213 L213 X213 hQ213 => ?_
        obtain ⟨ws_213, rfl, Nq213, K213, E_a1_213, Flimbs_a1_213, FadditionsSinceCarry_a1_213, V_l1_213⟩ := hQ213
        have N213 := Fr.app N195 Nq213
        have K_214 := K_196.trans K213 (allS (Or.inl (List.mem_of_getElem? (i := 1) rfl)) (allS (Or.inl (List.mem_of_getElem? (i := 2) rfl)) all0))
        have E_a1_215 := E_a1_197.keep K213
        have Fcount_a1_216 := Fcount_a1_198.keep K213 (ninS ne_a1_s1 (ninS ne_a1_l1 nin0))
        have Fleast_a1_217 := Fleast_a1_199.keep K213 (ninS ne_a1_s1 (ninS ne_a1_l1 nin0))
        have Fgreatest_a1_218 := Fgreatest_a1_200.keep K213 (ninS ne_a1_s1 (ninS ne_a1_l1 nin0))
        have Fsum_a1_219 := Fsum_a1_201.keep K213 (ninS ne_a1_s1 (ninS ne_a1_l1 nin0))
        have Fsquares_a1_220 := Fsquares_a1_202.keep K213 (ninS ne_a1_s1 (ninS ne_a1_l1 nin0))
        have E_s1_221 := E_s1_203.keep K213
        have Z_222 := Nat.le_trans Z_207 K213.1
        refine Owe.aloadN X213.here hx (hb hby d5_147) rfl rfl ?_
        refine Owe.getf X213 hx hZ (host := "") hown (Or.inl (wd hw 27)) Via.refl rfl Fsquares_a1_220 (hb hby d5_148) rfl fun T223 X223 e223 => ?_
        refine Owe.ifnullYes X223.here hx (hb hby d5_151) rfl (pc' := 186) (by decide) (by decide) ?_
        refine Owe.ret0 X223 hx hlk hrt (hb hby d5_186) rfl fun fs hE => ?_
        refine hG _ _ ⟨_, _, rfl, ?_, frameMono hE (by decide) (by decide)⟩
        show Qema0 Z a1 s1 l1 k1 vs1 dv1 ac1 ct ls gr x1 bd h0 n0 _ T223.heap _
        rw [e223]
        exact ⟨(ac1 + (1 : Int32)), ws_213, rfl, N213, K_214, E_a1_215, Fcount_a1_216, Fleast_a1_217, Fgreatest_a1_218, Fsum_a1_219, Fsquares_a1_220, E_a1_213, Flimbs_a1_213, FadditionsSinceCarry_a1_213, V_l1_213, own_as1 hb1 hbd⟩
      · skip
        refine Owe.ifYes X208.here hx (hb hby d5_119) rfl ((if0 _ _).trans (flt hc119_211).2.1) (pc' := 126) (by decide) (by decide) ?_
        refine Owe.iconst X208.here hx (hb hby d5_126) (w := (0 : Int32)) rfl ?_
        refine Owe.istore X208.here hx (hb hby d5_127) rfl (l' := #[.val (.ref a1), .val (.double x1), .second, .val (.long (x1.toInt64)), .second, .val (.int ee), .val (.long (mm ||| (4503599627370496 : Int64))), .second, .val (.int (ee - (1075 : Int32))), .val (.int (0 : Int32)), .unset, .unset]) rfl ?_
        refine Owe.aloadN X208.here hx (hb hby d5_129) rfl rfl ?_
        refine Owe.getf X208 hx hZ (host := "") hown (Or.inl (wd hw 19)) Via.refl e208 Fsum_a1_201 (hb hby d5_130) rfl fun T224 X224 e224 => ?_
        refine Owe.iload X224.here hx (hb hby d5_133) rfl ?_
        refine Owe.lconst X224.here hx (hb hby d5_135) (w := (0 : Int64)) rfl ?_
        refine Owe.lload X224.here hx (hb hby d5_136) rfl ?_
        refine Owe.iload X224.here hx (hb hby d5_138) rfl ?_
        refine Owe.sipush X224.here hx (hb hby d5_140) (w := (-1074 : Int32)) rfl ?_
        refine Owe.isub X224.here hx (hb hby d5_143) rfl ?_
        refine Owe.virt X224 hx hZ (y := Y2) (z := Y2) hown (mvT hZ (wd hw 55)) (mvT hZ (wd hw 56)) (mvT hZ (wd hw 58)) (mvT hZ (wd hw 57)) (notFace_of_selects (args := #[]) (mvT hZ (wd hw 58))) (by decide) (backOf (W := 0) (rmfpa l Z a0 hw [] s1 l1 k1 (69 : Int32) vs1 dv1 ac1 (0 : Int32) (0 : Int64) (mm ||| (4503599627370496 : Int64)) ((ee - (1075 : Int32)) - (-1074 : Int32)) h195 n0 Z_207 E_s1_203 Flimbs_s1_204 FadditionsSinceCarry_s1_205 V_l1_206 ge_s1 ge_l1 ne_s1_l1 (own_nac hb1 hbd) (own_q1 hE hc80_210)) hZ (wd hw 59) (wd hw 11) (by decide) (by decide)) (by rw [hml]; rfl) (a := s1) (argsL := [(.int (0 : Int32)), (.long (0 : Int64)), (.long (mm ||| (4503599627370496 : Int64))), (.int ((ee - (1075 : Int32)) - (-1074 : Int32)))]) (rest := []) E_s1_203 (lenOf pd_2 rfl) rfl (nb rfl) (hb hby d5_144) rfl e224 (by decide) (by decide) fun T225 v225 L225 X225 hQ225 => ?_
        obtain ⟨ws_225, rfl, Nq225, K225, E_a1_225, Flimbs_a1_225, FadditionsSinceCarry_a1_225, V_l1_225⟩ := hQ225
        have N225 := Fr.app N195 Nq225
        have K_226 := K_196.trans K225 (allS (Or.inl (List.mem_of_getElem? (i := 1) rfl)) (allS (Or.inl (List.mem_of_getElem? (i := 2) rfl)) all0))
        have E_a1_227 := E_a1_197.keep K225
        have Fcount_a1_228 := Fcount_a1_198.keep K225 (ninS ne_a1_s1 (ninS ne_a1_l1 nin0))
        have Fleast_a1_229 := Fleast_a1_199.keep K225 (ninS ne_a1_s1 (ninS ne_a1_l1 nin0))
        have Fgreatest_a1_230 := Fgreatest_a1_200.keep K225 (ninS ne_a1_s1 (ninS ne_a1_l1 nin0))
        have Fsum_a1_231 := Fsum_a1_201.keep K225 (ninS ne_a1_s1 (ninS ne_a1_l1 nin0))
        have Fsquares_a1_232 := Fsquares_a1_202.keep K225 (ninS ne_a1_s1 (ninS ne_a1_l1 nin0))
        have E_s1_233 := E_s1_203.keep K225
        have Z_234 := Nat.le_trans Z_207 K225.1
        refine Owe.aloadN X225.here hx (hb hby d5_147) rfl rfl ?_
        refine Owe.getf X225 hx hZ (host := "") hown (Or.inl (wd hw 27)) Via.refl rfl Fsquares_a1_232 (hb hby d5_148) rfl fun T235 X235 e235 => ?_
        refine Owe.ifnullYes X235.here hx (hb hby d5_151) rfl (pc' := 186) (by decide) (by decide) ?_
        refine Owe.ret0 X235 hx hlk hrt (hb hby d5_186) rfl fun fs hE => ?_
        refine hG _ _ ⟨_, _, rfl, ?_, frameMono hE (by decide) (by decide)⟩
        show Qema0 Z a1 s1 l1 k1 vs1 dv1 ac1 ct ls gr x1 bd h0 n0 _ T235.heap _
        rw [e235]
        exact ⟨(ac1 + (1 : Int32)), ws_225, rfl, N225, K_226, E_a1_227, Fcount_a1_228, Fleast_a1_229, Fgreatest_a1_230, Fsum_a1_231, Fsquares_a1_232, E_a1_225, Flimbs_a1_225, FadditionsSinceCarry_a1_225, V_l1_225, own_as1 hb1 hbd⟩
  · skip
    refine Owe.ifYes X208.here hx (hb hby d5_75) rfl ((if0 _ _).trans (feq hc75_209).2) (pc' := 84) (by decide) (by decide) ?_
    refine Owe.iload X208.here hx (hb hby d5_84) rfl ?_
    by_cases hc86_236 : ee = (0 : Int32)
    · skip
      refine Owe.ifNo X208.here hx (hb hby d5_86) rfl ((if0 _ _).trans (teq hc86_236).2) ?_
      refine Owe.sipush X208.here hx (hb hby d5_89) (w := (-1074 : Int32)) rfl ?_
      refine Owe.goto X208.here hx (hb hby d5_92) (pc' := 101) (by decide) (by decide) ?_
      refine Owe.istore X208.here hx (hb hby d5_101) rfl (l' := #[.val (.ref a1), .val (.double x1), .second, .val (.long (x1.toInt64)), .second, .val (.int ee), .val (.long mm), .second, .val (.int (-1074 : Int32)), .unset, .unset, .unset]) rfl ?_
      refine Owe.iload X208.here hx (hb hby d5_103) rfl ?_
      refine Owe.ifYes X208.here hx (hb hby d5_105) rfl ((if0 _ _).trans (teq hc86_236).1) (pc' := 116) (by decide) (by decide) ?_
      refine Owe.lloadN X208.here hx (hb hby d5_116) rfl ?_
      refine Owe.lconst X208.here hx (hb hby d5_117) (w := (0 : Int64)) rfl ?_
      refine Owe.lcmp X208.here hx (hb hby d5_118) rfl ?_
      by_cases hc119_237 : (lcmpW (x1.toInt64) (0 : Int64)) < (0 : Int32)
      · skip
        refine Owe.ifNo X208.here hx (hb hby d5_119) rfl ((if0 _ _).trans (tlt hc119_237).2.1) ?_
        refine Owe.iconst X208.here hx (hb hby d5_122) (w := (1 : Int32)) rfl ?_
        refine Owe.goto X208.here hx (hb hby d5_123) (pc' := 127) (by decide) (by decide) ?_
        refine Owe.istore X208.here hx (hb hby d5_127) rfl (l' := #[.val (.ref a1), .val (.double x1), .second, .val (.long (x1.toInt64)), .second, .val (.int ee), .val (.long mm), .second, .val (.int (-1074 : Int32)), .val (.int (1 : Int32)), .unset, .unset]) rfl ?_
        refine Owe.aloadN X208.here hx (hb hby d5_129) rfl rfl ?_
        refine Owe.getf X208 hx hZ (host := "") hown (Or.inl (wd hw 19)) Via.refl e208 Fsum_a1_201 (hb hby d5_130) rfl fun T238 X238 e238 => ?_
        refine Owe.iload X238.here hx (hb hby d5_133) rfl ?_
        refine Owe.lconst X238.here hx (hb hby d5_135) (w := (0 : Int64)) rfl ?_
        refine Owe.lload X238.here hx (hb hby d5_136) rfl ?_
        refine Owe.iload X238.here hx (hb hby d5_138) rfl ?_
        refine Owe.sipush X238.here hx (hb hby d5_140) (w := (-1074 : Int32)) rfl ?_
        refine Owe.isub X238.here hx (hb hby d5_143) rfl ?_
        refine Owe.virt X238 hx hZ (y := Y2) (z := Y2) hown (mvT hZ (wd hw 55)) (mvT hZ (wd hw 56)) (mvT hZ (wd hw 58)) (mvT hZ (wd hw 57)) (notFace_of_selects (args := #[]) (mvT hZ (wd hw 58))) (by decide) (backOf (W := 0) (rmfpa l Z a0 hw [] s1 l1 k1 (69 : Int32) vs1 dv1 ac1 (1 : Int32) (0 : Int64) mm (0 : Int32) h195 n0 Z_207 E_s1_203 Flimbs_s1_204 FadditionsSinceCarry_s1_205 V_l1_206 ge_s1 ge_l1 ne_s1_l1 (own_nac hb1 hbd) (by decide)) hZ (wd hw 59) (wd hw 11) (by decide) (by decide)) (by rw [hml]; rfl) (a := s1) (argsL := [(.int (1 : Int32)), (.long (0 : Int64)), (.long mm), (.int (0 : Int32))]) (rest := []) E_s1_203 (lenOf pd_2 rfl) rfl (nb rfl) (hb hby d5_144) rfl e238 (by decide) (by decide) fun T239 v239 L239 X239 hQ239 => ?_
        obtain ⟨ws_239, rfl, Nq239, K239, E_a1_239, Flimbs_a1_239, FadditionsSinceCarry_a1_239, V_l1_239⟩ := hQ239
        have N239 := Fr.app N195 Nq239
        have K_240 := K_196.trans K239 (allS (Or.inl (List.mem_of_getElem? (i := 1) rfl)) (allS (Or.inl (List.mem_of_getElem? (i := 2) rfl)) all0))
        have E_a1_241 := E_a1_197.keep K239
        have Fcount_a1_242 := Fcount_a1_198.keep K239 (ninS ne_a1_s1 (ninS ne_a1_l1 nin0))
        have Fleast_a1_243 := Fleast_a1_199.keep K239 (ninS ne_a1_s1 (ninS ne_a1_l1 nin0))
        have Fgreatest_a1_244 := Fgreatest_a1_200.keep K239 (ninS ne_a1_s1 (ninS ne_a1_l1 nin0))
        have Fsum_a1_245 := Fsum_a1_201.keep K239 (ninS ne_a1_s1 (ninS ne_a1_l1 nin0))
        have Fsquares_a1_246 := Fsquares_a1_202.keep K239 (ninS ne_a1_s1 (ninS ne_a1_l1 nin0))
        have E_s1_247 := E_s1_203.keep K239
        have Z_248 := Nat.le_trans Z_207 K239.1
        refine Owe.aloadN X239.here hx (hb hby d5_147) rfl rfl ?_
        refine Owe.getf X239 hx hZ (host := "") hown (Or.inl (wd hw 27)) Via.refl rfl Fsquares_a1_246 (hb hby d5_148) rfl fun T249 X249 e249 => ?_
        refine Owe.ifnullYes X249.here hx (hb hby d5_151) rfl (pc' := 186) (by decide) (by decide) ?_
        refine Owe.ret0 X249 hx hlk hrt (hb hby d5_186) rfl fun fs hE => ?_
        refine hG _ _ ⟨_, _, rfl, ?_, frameMono hE (by decide) (by decide)⟩
        show Qema0 Z a1 s1 l1 k1 vs1 dv1 ac1 ct ls gr x1 bd h0 n0 _ T249.heap _
        rw [e249]
        exact ⟨(ac1 + (1 : Int32)), ws_239, rfl, N239, K_240, E_a1_241, Fcount_a1_242, Fleast_a1_243, Fgreatest_a1_244, Fsum_a1_245, Fsquares_a1_246, E_a1_239, Flimbs_a1_239, FadditionsSinceCarry_a1_239, V_l1_239, own_as1 hb1 hbd⟩
      · skip
        refine Owe.ifYes X208.here hx (hb hby d5_119) rfl ((if0 _ _).trans (flt hc119_237).2.1) (pc' := 126) (by decide) (by decide) ?_
        refine Owe.iconst X208.here hx (hb hby d5_126) (w := (0 : Int32)) rfl ?_
        refine Owe.istore X208.here hx (hb hby d5_127) rfl (l' := #[.val (.ref a1), .val (.double x1), .second, .val (.long (x1.toInt64)), .second, .val (.int ee), .val (.long mm), .second, .val (.int (-1074 : Int32)), .val (.int (0 : Int32)), .unset, .unset]) rfl ?_
        refine Owe.aloadN X208.here hx (hb hby d5_129) rfl rfl ?_
        refine Owe.getf X208 hx hZ (host := "") hown (Or.inl (wd hw 19)) Via.refl e208 Fsum_a1_201 (hb hby d5_130) rfl fun T250 X250 e250 => ?_
        refine Owe.iload X250.here hx (hb hby d5_133) rfl ?_
        refine Owe.lconst X250.here hx (hb hby d5_135) (w := (0 : Int64)) rfl ?_
        refine Owe.lload X250.here hx (hb hby d5_136) rfl ?_
        refine Owe.iload X250.here hx (hb hby d5_138) rfl ?_
        refine Owe.sipush X250.here hx (hb hby d5_140) (w := (-1074 : Int32)) rfl ?_
        refine Owe.isub X250.here hx (hb hby d5_143) rfl ?_
        refine Owe.virt X250 hx hZ (y := Y2) (z := Y2) hown (mvT hZ (wd hw 55)) (mvT hZ (wd hw 56)) (mvT hZ (wd hw 58)) (mvT hZ (wd hw 57)) (notFace_of_selects (args := #[]) (mvT hZ (wd hw 58))) (by decide) (backOf (W := 0) (rmfpa l Z a0 hw [] s1 l1 k1 (69 : Int32) vs1 dv1 ac1 (0 : Int32) (0 : Int64) mm (0 : Int32) h195 n0 Z_207 E_s1_203 Flimbs_s1_204 FadditionsSinceCarry_s1_205 V_l1_206 ge_s1 ge_l1 ne_s1_l1 (own_nac hb1 hbd) (by decide)) hZ (wd hw 59) (wd hw 11) (by decide) (by decide)) (by rw [hml]; rfl) (a := s1) (argsL := [(.int (0 : Int32)), (.long (0 : Int64)), (.long mm), (.int (0 : Int32))]) (rest := []) E_s1_203 (lenOf pd_2 rfl) rfl (nb rfl) (hb hby d5_144) rfl e250 (by decide) (by decide) fun T251 v251 L251 X251 hQ251 => ?_
        obtain ⟨ws_251, rfl, Nq251, K251, E_a1_251, Flimbs_a1_251, FadditionsSinceCarry_a1_251, V_l1_251⟩ := hQ251
        have N251 := Fr.app N195 Nq251
        have K_252 := K_196.trans K251 (allS (Or.inl (List.mem_of_getElem? (i := 1) rfl)) (allS (Or.inl (List.mem_of_getElem? (i := 2) rfl)) all0))
        have E_a1_253 := E_a1_197.keep K251
        have Fcount_a1_254 := Fcount_a1_198.keep K251 (ninS ne_a1_s1 (ninS ne_a1_l1 nin0))
        have Fleast_a1_255 := Fleast_a1_199.keep K251 (ninS ne_a1_s1 (ninS ne_a1_l1 nin0))
        have Fgreatest_a1_256 := Fgreatest_a1_200.keep K251 (ninS ne_a1_s1 (ninS ne_a1_l1 nin0))
        have Fsum_a1_257 := Fsum_a1_201.keep K251 (ninS ne_a1_s1 (ninS ne_a1_l1 nin0))
        have Fsquares_a1_258 := Fsquares_a1_202.keep K251 (ninS ne_a1_s1 (ninS ne_a1_l1 nin0))
        have E_s1_259 := E_s1_203.keep K251
        have Z_260 := Nat.le_trans Z_207 K251.1
        refine Owe.aloadN X251.here hx (hb hby d5_147) rfl rfl ?_
        refine Owe.getf X251 hx hZ (host := "") hown (Or.inl (wd hw 27)) Via.refl rfl Fsquares_a1_258 (hb hby d5_148) rfl fun T261 X261 e261 => ?_
        refine Owe.ifnullYes X261.here hx (hb hby d5_151) rfl (pc' := 186) (by decide) (by decide) ?_
        refine Owe.ret0 X261 hx hlk hrt (hb hby d5_186) rfl fun fs hE => ?_
        refine hG _ _ ⟨_, _, rfl, ?_, frameMono hE (by decide) (by decide)⟩
        show Qema0 Z a1 s1 l1 k1 vs1 dv1 ac1 ct ls gr x1 bd h0 n0 _ T261.heap _
        rw [e261]
        exact ⟨(ac1 + (1 : Int32)), ws_251, rfl, N251, K_252, E_a1_253, Fcount_a1_254, Fleast_a1_255, Fgreatest_a1_256, Fsum_a1_257, Fsquares_a1_258, E_a1_251, Flimbs_a1_251, FadditionsSinceCarry_a1_251, V_l1_251, own_as1 hb1 hbd⟩
    · skip
      refine Owe.ifYes X208.here hx (hb hby d5_86) rfl ((if0 _ _).trans (feq hc86_236).2) (pc' := 95) (by decide) (by decide) ?_
      refine Owe.iload X208.here hx (hb hby d5_95) rfl ?_
      refine Owe.sipush X208.here hx (hb hby d5_97) (w := (1075 : Int32)) rfl ?_
      refine Owe.isub X208.here hx (hb hby d5_100) rfl ?_
      refine Owe.istore X208.here hx (hb hby d5_101) rfl (l' := #[.val (.ref a1), .val (.double x1), .second, .val (.long (x1.toInt64)), .second, .val (.int ee), .val (.long mm), .second, .val (.int (ee - (1075 : Int32))), .unset, .unset, .unset]) rfl ?_
      refine Owe.iload X208.here hx (hb hby d5_103) rfl ?_
      refine Owe.ifNo X208.here hx (hb hby d5_105) rfl ((if0 _ _).trans (feq hc86_236).1) ?_
      refine Owe.lload X208.here hx (hb hby d5_108) rfl ?_
      refine Owe.ldc2L X208 hx (v := (4503599627370496 : Int64)) hown (mvT hZ (wd hw 54)) (hb hby d5_110) ?_
      refine Owe.lor X208.here hx (hb hby d5_113) rfl ?_
      refine Owe.lstore X208.here hx (hb hby d5_114) rfl (l' := #[.val (.ref a1), .val (.double x1), .second, .val (.long (x1.toInt64)), .second, .val (.int ee), .val (.long (mm ||| (4503599627370496 : Int64))), .second, .val (.int (ee - (1075 : Int32))), .unset, .unset, .unset]) rfl ?_
      refine Owe.lloadN X208.here hx (hb hby d5_116) rfl ?_
      refine Owe.lconst X208.here hx (hb hby d5_117) (w := (0 : Int64)) rfl ?_
      refine Owe.lcmp X208.here hx (hb hby d5_118) rfl ?_
      by_cases hc119_262 : (lcmpW (x1.toInt64) (0 : Int64)) < (0 : Int32)
      · skip
        refine Owe.ifNo X208.here hx (hb hby d5_119) rfl ((if0 _ _).trans (tlt hc119_262).2.1) ?_
        refine Owe.iconst X208.here hx (hb hby d5_122) (w := (1 : Int32)) rfl ?_
        refine Owe.goto X208.here hx (hb hby d5_123) (pc' := 127) (by decide) (by decide) ?_
        refine Owe.istore X208.here hx (hb hby d5_127) rfl (l' := #[.val (.ref a1), .val (.double x1), .second, .val (.long (x1.toInt64)), .second, .val (.int ee), .val (.long (mm ||| (4503599627370496 : Int64))), .second, .val (.int (ee - (1075 : Int32))), .val (.int (1 : Int32)), .unset, .unset]) rfl ?_
        refine Owe.aloadN X208.here hx (hb hby d5_129) rfl rfl ?_
        refine Owe.getf X208 hx hZ (host := "") hown (Or.inl (wd hw 19)) Via.refl e208 Fsum_a1_201 (hb hby d5_130) rfl fun T263 X263 e263 => ?_
        refine Owe.iload X263.here hx (hb hby d5_133) rfl ?_
        refine Owe.lconst X263.here hx (hb hby d5_135) (w := (0 : Int64)) rfl ?_
        refine Owe.lload X263.here hx (hb hby d5_136) rfl ?_
        refine Owe.iload X263.here hx (hb hby d5_138) rfl ?_
        refine Owe.sipush X263.here hx (hb hby d5_140) (w := (-1074 : Int32)) rfl ?_
        refine Owe.isub X263.here hx (hb hby d5_143) rfl ?_
        refine Owe.virt X263 hx hZ (y := Y2) (z := Y2) hown (mvT hZ (wd hw 55)) (mvT hZ (wd hw 56)) (mvT hZ (wd hw 58)) (mvT hZ (wd hw 57)) (notFace_of_selects (args := #[]) (mvT hZ (wd hw 58))) (by decide) (backOf (W := 0) (rmfpa l Z a0 hw [] s1 l1 k1 (69 : Int32) vs1 dv1 ac1 (1 : Int32) (0 : Int64) (mm ||| (4503599627370496 : Int64)) ((ee - (1075 : Int32)) - (-1074 : Int32)) h195 n0 Z_207 E_s1_203 Flimbs_s1_204 FadditionsSinceCarry_s1_205 V_l1_206 ge_s1 ge_l1 ne_s1_l1 (own_nac hb1 hbd) (own_q1 hE hc86_236)) hZ (wd hw 59) (wd hw 11) (by decide) (by decide)) (by rw [hml]; rfl) (a := s1) (argsL := [(.int (1 : Int32)), (.long (0 : Int64)), (.long (mm ||| (4503599627370496 : Int64))), (.int ((ee - (1075 : Int32)) - (-1074 : Int32)))]) (rest := []) E_s1_203 (lenOf pd_2 rfl) rfl (nb rfl) (hb hby d5_144) rfl e263 (by decide) (by decide) fun T264 v264 L264 X264 hQ264 => ?_
        obtain ⟨ws_264, rfl, Nq264, K264, E_a1_264, Flimbs_a1_264, FadditionsSinceCarry_a1_264, V_l1_264⟩ := hQ264
        have N264 := Fr.app N195 Nq264
        have K_265 := K_196.trans K264 (allS (Or.inl (List.mem_of_getElem? (i := 1) rfl)) (allS (Or.inl (List.mem_of_getElem? (i := 2) rfl)) all0))
        have E_a1_266 := E_a1_197.keep K264
        have Fcount_a1_267 := Fcount_a1_198.keep K264 (ninS ne_a1_s1 (ninS ne_a1_l1 nin0))
        have Fleast_a1_268 := Fleast_a1_199.keep K264 (ninS ne_a1_s1 (ninS ne_a1_l1 nin0))
        have Fgreatest_a1_269 := Fgreatest_a1_200.keep K264 (ninS ne_a1_s1 (ninS ne_a1_l1 nin0))
        have Fsum_a1_270 := Fsum_a1_201.keep K264 (ninS ne_a1_s1 (ninS ne_a1_l1 nin0))
        have Fsquares_a1_271 := Fsquares_a1_202.keep K264 (ninS ne_a1_s1 (ninS ne_a1_l1 nin0))
        have E_s1_272 := E_s1_203.keep K264
        have Z_273 := Nat.le_trans Z_207 K264.1
        refine Owe.aloadN X264.here hx (hb hby d5_147) rfl rfl ?_
        refine Owe.getf X264 hx hZ (host := "") hown (Or.inl (wd hw 27)) Via.refl rfl Fsquares_a1_271 (hb hby d5_148) rfl fun T274 X274 e274 => ?_
        refine Owe.ifnullYes X274.here hx (hb hby d5_151) rfl (pc' := 186) (by decide) (by decide) ?_
        refine Owe.ret0 X274 hx hlk hrt (hb hby d5_186) rfl fun fs hE => ?_
        refine hG _ _ ⟨_, _, rfl, ?_, frameMono hE (by decide) (by decide)⟩
        show Qema0 Z a1 s1 l1 k1 vs1 dv1 ac1 ct ls gr x1 bd h0 n0 _ T274.heap _
        rw [e274]
        exact ⟨(ac1 + (1 : Int32)), ws_264, rfl, N264, K_265, E_a1_266, Fcount_a1_267, Fleast_a1_268, Fgreatest_a1_269, Fsum_a1_270, Fsquares_a1_271, E_a1_264, Flimbs_a1_264, FadditionsSinceCarry_a1_264, V_l1_264, own_as1 hb1 hbd⟩
      · skip
        refine Owe.ifYes X208.here hx (hb hby d5_119) rfl ((if0 _ _).trans (flt hc119_262).2.1) (pc' := 126) (by decide) (by decide) ?_
        refine Owe.iconst X208.here hx (hb hby d5_126) (w := (0 : Int32)) rfl ?_
        refine Owe.istore X208.here hx (hb hby d5_127) rfl (l' := #[.val (.ref a1), .val (.double x1), .second, .val (.long (x1.toInt64)), .second, .val (.int ee), .val (.long (mm ||| (4503599627370496 : Int64))), .second, .val (.int (ee - (1075 : Int32))), .val (.int (0 : Int32)), .unset, .unset]) rfl ?_
        refine Owe.aloadN X208.here hx (hb hby d5_129) rfl rfl ?_
        refine Owe.getf X208 hx hZ (host := "") hown (Or.inl (wd hw 19)) Via.refl e208 Fsum_a1_201 (hb hby d5_130) rfl fun T275 X275 e275 => ?_
        refine Owe.iload X275.here hx (hb hby d5_133) rfl ?_
        refine Owe.lconst X275.here hx (hb hby d5_135) (w := (0 : Int64)) rfl ?_
        refine Owe.lload X275.here hx (hb hby d5_136) rfl ?_
        refine Owe.iload X275.here hx (hb hby d5_138) rfl ?_
        refine Owe.sipush X275.here hx (hb hby d5_140) (w := (-1074 : Int32)) rfl ?_
        refine Owe.isub X275.here hx (hb hby d5_143) rfl ?_
        refine Owe.virt X275 hx hZ (y := Y2) (z := Y2) hown (mvT hZ (wd hw 55)) (mvT hZ (wd hw 56)) (mvT hZ (wd hw 58)) (mvT hZ (wd hw 57)) (notFace_of_selects (args := #[]) (mvT hZ (wd hw 58))) (by decide) (backOf (W := 0) (rmfpa l Z a0 hw [] s1 l1 k1 (69 : Int32) vs1 dv1 ac1 (0 : Int32) (0 : Int64) (mm ||| (4503599627370496 : Int64)) ((ee - (1075 : Int32)) - (-1074 : Int32)) h195 n0 Z_207 E_s1_203 Flimbs_s1_204 FadditionsSinceCarry_s1_205 V_l1_206 ge_s1 ge_l1 ne_s1_l1 (own_nac hb1 hbd) (own_q1 hE hc86_236)) hZ (wd hw 59) (wd hw 11) (by decide) (by decide)) (by rw [hml]; rfl) (a := s1) (argsL := [(.int (0 : Int32)), (.long (0 : Int64)), (.long (mm ||| (4503599627370496 : Int64))), (.int ((ee - (1075 : Int32)) - (-1074 : Int32)))]) (rest := []) E_s1_203 (lenOf pd_2 rfl) rfl (nb rfl) (hb hby d5_144) rfl e275 (by decide) (by decide) fun T276 v276 L276 X276 hQ276 => ?_
        obtain ⟨ws_276, rfl, Nq276, K276, E_a1_276, Flimbs_a1_276, FadditionsSinceCarry_a1_276, V_l1_276⟩ := hQ276
        have N276 := Fr.app N195 Nq276
        have K_277 := K_196.trans K276 (allS (Or.inl (List.mem_of_getElem? (i := 1) rfl)) (allS (Or.inl (List.mem_of_getElem? (i := 2) rfl)) all0))
        have E_a1_278 := E_a1_197.keep K276
        have Fcount_a1_279 := Fcount_a1_198.keep K276 (ninS ne_a1_s1 (ninS ne_a1_l1 nin0))
        have Fleast_a1_280 := Fleast_a1_199.keep K276 (ninS ne_a1_s1 (ninS ne_a1_l1 nin0))
        have Fgreatest_a1_281 := Fgreatest_a1_200.keep K276 (ninS ne_a1_s1 (ninS ne_a1_l1 nin0))
        have Fsum_a1_282 := Fsum_a1_201.keep K276 (ninS ne_a1_s1 (ninS ne_a1_l1 nin0))
        have Fsquares_a1_283 := Fsquares_a1_202.keep K276 (ninS ne_a1_s1 (ninS ne_a1_l1 nin0))
        have E_s1_284 := E_s1_203.keep K276
        have Z_285 := Nat.le_trans Z_207 K276.1
        refine Owe.aloadN X276.here hx (hb hby d5_147) rfl rfl ?_
        refine Owe.getf X276 hx hZ (host := "") hown (Or.inl (wd hw 27)) Via.refl rfl Fsquares_a1_283 (hb hby d5_148) rfl fun T286 X286 e286 => ?_
        refine Owe.ifnullYes X286.here hx (hb hby d5_151) rfl (pc' := 186) (by decide) (by decide) ?_
        refine Owe.ret0 X286 hx hlk hrt (hb hby d5_186) rfl fun fs hE => ?_
        refine hG _ _ ⟨_, _, rfl, ?_, frameMono hE (by decide) (by decide)⟩
        show Qema0 Z a1 s1 l1 k1 vs1 dv1 ac1 ct ls gr x1 bd h0 n0 _ T286.heap _
        rw [e286]
        exact ⟨(ac1 + (1 : Int32)), ws_276, rfl, N276, K_277, E_a1_278, Fcount_a1_279, Fleast_a1_280, Fgreatest_a1_281, Fsum_a1_282, Fsquares_a1_283, E_a1_276, Flimbs_a1_276, FadditionsSinceCarry_a1_276, V_l1_276, own_as1 hb1 hbd⟩
theorem ef_emi1 (m : MethodId) (x0 : Addr) (x1 : Int32)  : entryFrame m #[(.ref x0), (.int x1)] 2 = mkF m 0 #[.val (.ref x0), .val (.int x1)] [] := by first | (simp [entryFrame, mkF, argsToLocals, Value.category]; done) | rfl
def Qemi1 (Z : State) (a1 : Addr) (h0 : Heap) (n0 : Nat) (v : Option Value) (h : Heap) (L : List Loc) : Prop := ∃ (s1 : Addr), ∃ (l1 : Addr), ∃ (k1 : ClassId), ∃ (q1 : Addr), ∃ (l2 : Addr), ∃ (k2 : ClassId), v = none ∧ Fr n0 L ∧ Keep h0 h [a1] ∧ n0 ≤ s1 ∧ h0.size ≤ s1 ∧ n0 ≤ l1 ∧ h0.size ≤ l1 ∧ n0 ≤ q1 ∧ h0.size ≤ q1 ∧ n0 ≤ l2 ∧ h0.size ≤ l2 ∧ Exa Z h a1 "com/example/rill/rill/collectors/ExactMoments" ∧ Fld Z h a1 "com/example/rill/rill/collectors/ExactMoments" "count" "J" (.long (0 : Int64)) ∧ Fld Z h a1 "com/example/rill/rill/collectors/ExactMoments" "least" "D" (.double (9218868437227405312 : UInt64)) ∧ Fld Z h a1 "com/example/rill/rill/collectors/ExactMoments" "greatest" "D" (.double (18442240474082181120 : UInt64)) ∧ Fld Z h a1 "com/example/rill/rill/collectors/ExactMoments" "sum" "Lcom/example/rill/rill/collectors/FixedPointSum;" (.ref s1) ∧ Fld Z h a1 "com/example/rill/rill/collectors/ExactMoments" "squares" "Lcom/example/rill/rill/collectors/FixedPointSum;" (.ref q1) ∧ s1 ≠ l1 ∧ s1 ≠ q1 ∧ s1 ≠ l2 ∧ l1 ≠ q1 ∧ l1 ≠ l2 ∧ q1 ≠ l2 ∧ Exa Z h s1 "com/example/rill/rill/collectors/FixedPointSum" ∧ Fld Z h s1 "com/example/rill/rill/collectors/FixedPointSum" "limbs" "[J" (.ref l1) ∧ Fld Z h s1 "com/example/rill/rill/collectors/FixedPointSum" "additionsSinceCarry" "I" (.int (0 : Int32)) ∧ Arv Z h l1 k1 .long (69 : Int32) [] (.long (0 : Int64)) ∧ Exa Z h q1 "com/example/rill/rill/collectors/FixedPointSum" ∧ Fld Z h q1 "com/example/rill/rill/collectors/FixedPointSum" "limbs" "[J" (.ref l2) ∧ Fld Z h q1 "com/example/rill/rill/collectors/FixedPointSum" "additionsSinceCarry" "I" (.int (0 : Int32)) ∧ Arv Z h l2 k2 .long (135 : Int32) [] (.long (0 : Int64))
set_option maxRecDepth 65536 in
set_option maxHeartbeats 40000000 in
theorem rmemi1 (l : Launch) (Z : State) (a0 : Array Value) (hw : Hw Z a0) (ws : List Jvm.Cond) (a1 : Addr) (h0 : Heap) (n0 : Nat) (Z0 : n0 ≤ h0.size) (E_a1 : Exa Z h0 a1 "com/example/rill/rill/collectors/ExactMoments") (Fcount_a1 : Fld Z h0 a1 "com/example/rill/rill/collectors/ExactMoments" "count" "J" (.long (0 : Int64))) (Fleast_a1 : Fld Z h0 a1 "com/example/rill/rill/collectors/ExactMoments" "least" "D" (.double (0 : UInt64))) (Fgreatest_a1 : Fld Z h0 a1 "com/example/rill/rill/collectors/ExactMoments" "greatest" "D" (.double (0 : UInt64))) (Fsum_a1 : Fld Z h0 a1 "com/example/rill/rill/collectors/ExactMoments" "sum" "Lcom/example/rill/rill/collectors/FixedPointSum;" .null) (Fsquares_a1 : Fld Z h0 a1 "com/example/rill/rill/collectors/ExactMoments" "squares" "Lcom/example/rill/rill/collectors/FixedPointSum;" .null) (ge_a1 : n0 ≤ a1) :
    MF l Z Y4 prog_39_method_1_code 2 none ws ({ frames := 2, cells := 4, slots := 210, locals := 30 } : Room) #[(.ref a1), (.int (1 : Int32))] h0 (Qemi1 Z a1 h0 n0) := by
  refine MF.of (plainFor_of_name pn_1) (fun m => ef_emi1 m a1 (1 : Int32)) ?_
  intro p e s m below meth c s₁ G X0 e0 hx hby hml hown hnm hlk hrt hZ hnd hG
  have N0 := Fr.nil n0
  have K0 := Keep.refl h0 [a1]
  refine Owe.aloadN X0.here hx (hb hby d4_0) rfl rfl ?_
  refine Owe.objinit X0 hx hZ hown (wd hw 6) (wd hw 7) (wd hw 8) e0 (by rw [hml]; rfl) rfl (hb hby d4_1) (by decide) (W := 0) (nb rfl) (by decide) fun T287 X287 e287 => ?_
  refine Owe.aloadN X287.here hx (hb hby d4_4) rfl rfl ?_
  refine Owe.new X287 hx hZ hown (wd hw 9) (wd hw 10) (wd hw 11) e287 (hb hby d4_5) (by decide) (by decide) fun T288 h288 b288 g288 X288 e288 E288 A288 D288 => ?_
  have ne_a1_b288 : a1 ≠ b288 := Nat.ne_of_lt (Nat.lt_of_lt_of_le E_a1.lt (Nat.le_of_eq g288.symm))
  have sz_b288 := Nat.le_trans K0.1 (Nat.le_of_eq g288.symm)
  have ge_b288 := Nat.le_trans Z0 (Nat.le_of_eq g288.symm)
  have K_289 := K0.ext E288
  have E_a1_290 := E_a1.ext E288
  have Fcount_a1_291 := Fcount_a1.ext E288
  have Fleast_a1_292 := Fleast_a1.ext E288
  have Fgreatest_a1_293 := Fgreatest_a1.ext E288
  have Fsum_a1_294 := Fsum_a1.ext E288
  have Fsquares_a1_295 := Fsquares_a1.ext E288
  have Z_296 := Nat.le_trans Z0 E288.1
  have Flimbs_b288 : Fld Z h288 b288 "com/example/rill/rill/collectors/FixedPointSum" "limbs" "[J" .null := D288 (Or.inr (wd hw 18)) (ty := (.array .long)) (by decide)
  have FadditionsSinceCarry_b288 : Fld Z h288 b288 "com/example/rill/rill/collectors/FixedPointSum" "additionsSinceCarry" "I" (.int (0 : Int32)) := D288 (Or.inl (wd hw 61)) (ty := .int) (by decide)
  refine Owe.dup X288.here hx (hb hby d4_8) rfl rfl ?_
  refine Owe.sipush X288.here hx (hb hby d4_9) (w := (2098 : Int32)) rfl ?_
  refine Owe.special X288 hx (y := Y0) rfl hown (mvT hZ (wd hw 12)) (mvT hZ (wd hw 13)) (mvT hZ (wd hw 14)) (by decide) (backOf (W := 2) (rmfsi69 l Z a0 hw [] b288 h288 n0 Z_296 A288 Flimbs_b288 FadditionsSinceCarry_b288 ge_b288) hZ (wd hw 14) (wd hw 11) (by decide) (by decide)) (by rw [hml]; rfl) (a := b288) (argsL := [(.int (2098 : Int32))]) (rest := [(.ref b288), (.ref a1)]) (lenOf pd_1 rfl) rfl (nb rfl) (hb hby d4_12) rfl e288 (by decide) (by decide) fun T297 v297 L297 X297 hQ297 => ?_
  obtain ⟨l1_297, kl_297, rfl, Nq297, K297, ge_l1_297, fresh_l1_297, E_a1_297, Flimbs_a1_297, FadditionsSinceCarry_a1_297, V_l1_297⟩ := hQ297
  have N297 := Fr.app N0 Nq297
  have K_298 := K_289.trans K297 (allS (Or.inr sz_b288) all0)
  have E_a1_299 := E_a1_290.keep K297
  have Fcount_a1_300 := Fcount_a1_291.keep K297 (ninS ne_a1_b288 nin0)
  have Fleast_a1_301 := Fleast_a1_292.keep K297 (ninS ne_a1_b288 nin0)
  have Fgreatest_a1_302 := Fgreatest_a1_293.keep K297 (ninS ne_a1_b288 nin0)
  have Fsum_a1_303 := Fsum_a1_294.keep K297 (ninS ne_a1_b288 nin0)
  have Fsquares_a1_304 := Fsquares_a1_295.keep K297 (ninS ne_a1_b288 nin0)
  have A288_305 := A288.keep K297
  have Z_306 := Nat.le_trans Z_296 K297.1
  have ne_a1_l1_297 : a1 ≠ l1_297 := Nat.ne_of_lt (Nat.lt_of_lt_of_le E_a1_290.lt fresh_l1_297)
  have ne_b288_l1_297 : b288 ≠ l1_297 := Nat.ne_of_lt (Nat.lt_of_lt_of_le A288.lt fresh_l1_297)
  have sz_l1_297 := Nat.le_trans K_289.1 fresh_l1_297
  refine Owe.putf X297 hx hZ (host := "") hown (Or.inl (wd hw 19)) Via.refl rfl Fsum_a1_303 E_a1_299 (Or.inr ⟨(wd hw 20), rfl, hnm⟩) (wd hw 1) (ty := (.object "com/example/rill/rill/collectors/FixedPointSum")) (by decide) rfl rfl (hb hby d4_15) rfl fun T307 h307 X307 e307 W307 => ?_
  have K_308 := K_298.wr W307 (Or.inl (List.mem_of_getElem? (i := 0) rfl))
  have E_a1_309 := E_a1_299.wr W307
  have Fcount_a1_310 := Fcount_a1_300.other W307 (Or.inr (slot_ne (Or.inl (wd hw 35)) (Or.inr (wd hw 20)) (by decide) (t := .long) (t' := (.object "com/example/rill/rill/collectors/FixedPointSum")) (by decide) (by decide)))
  have Fleast_a1_311 := Fleast_a1_301.other W307 (Or.inr (slot_ne (Or.inl (wd hw 23)) (Or.inr (wd hw 20)) (by decide) (t := .double) (t' := (.object "com/example/rill/rill/collectors/FixedPointSum")) (by decide) (by decide)))
  have Fgreatest_a1_312 := Fgreatest_a1_302.other W307 (Or.inr (slot_ne (Or.inl (wd hw 26)) (Or.inr (wd hw 20)) (by decide) (t := .double) (t' := (.object "com/example/rill/rill/collectors/FixedPointSum")) (by decide) (by decide)))
  have Fsum_a1_313 := Fsum_a1_303.same W307
  have Fsquares_a1_314 := Fsquares_a1_304.other W307 (Or.inr (slot_ne (Or.inr (wd hw 28)) (Or.inr (wd hw 20)) (by decide) (t := (.object "com/example/rill/rill/collectors/FixedPointSum")) (t' := (.object "com/example/rill/rill/collectors/FixedPointSum")) (by decide) (by decide)))
  have E_a1_315 := E_a1_297.wr W307
  have Flimbs_a1_316 := Flimbs_a1_297.other W307 (Or.inl (Ne.symm ne_a1_b288))
  have FadditionsSinceCarry_a1_317 := FadditionsSinceCarry_a1_297.other W307 (Or.inl (Ne.symm ne_a1_b288))
  have V_l1_318 := V_l1_297.other W307 (Ne.symm ne_a1_l1_297)
  have Z_319 := Nat.le_trans Z_306 (Keep.of_wr W307).1
  have N307 := Fr.snoc X307 N297 ge_a1
  refine Owe.aloadN X307.here hx (hb hby d4_18) rfl rfl ?_
  refine Owe.ldc2D X307 hx (v := (9218868437227405312 : UInt64)) hown (mvT hZ (wd hw 21)) (hb hby d4_19) ?_
  refine Owe.putf X307 hx hZ (host := "") hown (Or.inl (wd hw 22)) Via.refl e307 Fleast_a1_311 E_a1_309 (Or.inl (wd hw 23)) (wd hw 1) (ty := .double) (by decide) rfl rfl (hb hby d4_22) rfl fun T320 h320 X320 e320 W320 => ?_
  have K_321 := K_308.wr W320 (Or.inl (List.mem_of_getElem? (i := 0) rfl))
  have E_a1_322 := E_a1_309.wr W320
  have Fcount_a1_323 := Fcount_a1_310.other W320 (Or.inr (slot_ne (Or.inl (wd hw 35)) (Or.inl (wd hw 23)) (by decide) (t := .long) (t' := .double) (by decide) (by decide)))
  have Fleast_a1_324 := Fleast_a1_311.same W320
  have Fgreatest_a1_325 := Fgreatest_a1_312.other W320 (Or.inr (slot_ne (Or.inl (wd hw 26)) (Or.inl (wd hw 23)) (by decide) (t := .double) (t' := .double) (by decide) (by decide)))
  have Fsum_a1_326 := Fsum_a1_313.other W320 (Or.inr (slot_ne (Or.inr (wd hw 20)) (Or.inl (wd hw 23)) (by decide) (t := (.object "com/example/rill/rill/collectors/FixedPointSum")) (t' := .double) (by decide) (by decide)))
  have Fsquares_a1_327 := Fsquares_a1_314.other W320 (Or.inr (slot_ne (Or.inr (wd hw 28)) (Or.inl (wd hw 23)) (by decide) (t := (.object "com/example/rill/rill/collectors/FixedPointSum")) (t' := .double) (by decide) (by decide)))
  have E_a1_328 := E_a1_315.wr W320
  have Flimbs_a1_329 := Flimbs_a1_316.other W320 (Or.inl (Ne.symm ne_a1_b288))
  have FadditionsSinceCarry_a1_330 := FadditionsSinceCarry_a1_317.other W320 (Or.inl (Ne.symm ne_a1_b288))
  have V_l1_331 := V_l1_318.other W320 (Ne.symm ne_a1_l1_297)
  have Z_332 := Nat.le_trans Z_319 (Keep.of_wr W320).1
  have N320 := Fr.snoc X320 N307 ge_a1
  refine Owe.aloadN X320.here hx (hb hby d4_25) rfl rfl ?_
  refine Owe.ldc2D X320 hx (v := (18442240474082181120 : UInt64)) hown (mvT hZ (wd hw 24)) (hb hby d4_26) ?_
  refine Owe.putf X320 hx hZ (host := "") hown (Or.inl (wd hw 25)) Via.refl e320 Fgreatest_a1_325 E_a1_322 (Or.inl (wd hw 26)) (wd hw 1) (ty := .double) (by decide) rfl rfl (hb hby d4_29) rfl fun T333 h333 X333 e333 W333 => ?_
  have K_334 := K_321.wr W333 (Or.inl (List.mem_of_getElem? (i := 0) rfl))
  have E_a1_335 := E_a1_322.wr W333
  have Fcount_a1_336 := Fcount_a1_323.other W333 (Or.inr (slot_ne (Or.inl (wd hw 35)) (Or.inl (wd hw 26)) (by decide) (t := .long) (t' := .double) (by decide) (by decide)))
  have Fleast_a1_337 := Fleast_a1_324.other W333 (Or.inr (slot_ne (Or.inl (wd hw 23)) (Or.inl (wd hw 26)) (by decide) (t := .double) (t' := .double) (by decide) (by decide)))
  have Fgreatest_a1_338 := Fgreatest_a1_325.same W333
  have Fsum_a1_339 := Fsum_a1_326.other W333 (Or.inr (slot_ne (Or.inr (wd hw 20)) (Or.inl (wd hw 26)) (by decide) (t := (.object "com/example/rill/rill/collectors/FixedPointSum")) (t' := .double) (by decide) (by decide)))
  have Fsquares_a1_340 := Fsquares_a1_327.other W333 (Or.inr (slot_ne (Or.inr (wd hw 28)) (Or.inl (wd hw 26)) (by decide) (t := (.object "com/example/rill/rill/collectors/FixedPointSum")) (t' := .double) (by decide) (by decide)))
  have E_a1_341 := E_a1_328.wr W333
  have Flimbs_a1_342 := Flimbs_a1_329.other W333 (Or.inl (Ne.symm ne_a1_b288))
  have FadditionsSinceCarry_a1_343 := FadditionsSinceCarry_a1_330.other W333 (Or.inl (Ne.symm ne_a1_b288))
  have V_l1_344 := V_l1_331.other W333 (Ne.symm ne_a1_l1_297)
  have Z_345 := Nat.le_trans Z_332 (Keep.of_wr W333).1
  have N333 := Fr.snoc X333 N320 ge_a1
  refine Owe.aloadN X333.here hx (hb hby d4_32) rfl rfl ?_
  refine Owe.iloadN X333.here hx (hb hby d4_33) rfl ?_
  refine Owe.ifNo X333.here hx (hb hby d4_34) rfl ((if0 _ _).trans (feq (by decide)).1) ?_
  refine Owe.new X333 hx hZ hown (wd hw 9) (wd hw 10) (wd hw 11) e333 (hb hby d4_37) (by decide) (by decide) fun T346 h346 b346 g346 X346 e346 E346 A346 D346 => ?_
  have ne_a1_b346 : a1 ≠ b346 := Nat.ne_of_lt (Nat.lt_of_lt_of_le E_a1_335.lt (Nat.le_of_eq g346.symm))
  have ne_b288_b346 : b288 ≠ b346 := Nat.ne_of_lt (Nat.lt_of_lt_of_le E_a1_341.lt (Nat.le_of_eq g346.symm))
  have ne_l1_297_b346 : l1_297 ≠ b346 := Nat.ne_of_lt (Nat.lt_of_lt_of_le V_l1_344.lt (Nat.le_of_eq g346.symm))
  have sz_b346 := Nat.le_trans K_334.1 (Nat.le_of_eq g346.symm)
  have ge_b346 := Nat.le_trans Z_345 (Nat.le_of_eq g346.symm)
  have K_347 := K_334.ext E346
  have E_a1_348 := E_a1_335.ext E346
  have Fcount_a1_349 := Fcount_a1_336.ext E346
  have Fleast_a1_350 := Fleast_a1_337.ext E346
  have Fgreatest_a1_351 := Fgreatest_a1_338.ext E346
  have Fsum_a1_352 := Fsum_a1_339.ext E346
  have Fsquares_a1_353 := Fsquares_a1_340.ext E346
  have E_a1_354 := E_a1_341.ext E346
  have Flimbs_a1_355 := Flimbs_a1_342.ext E346
  have FadditionsSinceCarry_a1_356 := FadditionsSinceCarry_a1_343.ext E346
  have V_l1_357 := V_l1_344.ext E346
  have Z_358 := Nat.le_trans Z_345 E346.1
  have Flimbs_b346 : Fld Z h346 b346 "com/example/rill/rill/collectors/FixedPointSum" "limbs" "[J" .null := D346 (Or.inr (wd hw 18)) (ty := (.array .long)) (by decide)
  have FadditionsSinceCarry_b346 : Fld Z h346 b346 "com/example/rill/rill/collectors/FixedPointSum" "additionsSinceCarry" "I" (.int (0 : Int32)) := D346 (Or.inl (wd hw 61)) (ty := .int) (by decide)
  refine Owe.dup X346.here hx (hb hby d4_40) rfl rfl ?_
  refine Owe.sipush X346.here hx (hb hby d4_41) (w := (4196 : Int32)) rfl ?_
  refine Owe.special X346 hx (y := Y0) rfl hown (mvT hZ (wd hw 12)) (mvT hZ (wd hw 13)) (mvT hZ (wd hw 14)) (by decide) (backOf (W := 2) (rmfsi135 l Z a0 hw [] b346 h346 n0 Z_358 A346 Flimbs_b346 FadditionsSinceCarry_b346 ge_b346) hZ (wd hw 14) (wd hw 11) (by decide) (by decide)) (by rw [hml]; rfl) (a := b346) (argsL := [(.int (4196 : Int32))]) (rest := [(.ref b346), (.ref a1)]) (lenOf pd_1 rfl) rfl (nb rfl) (hb hby d4_44) rfl e346 (by decide) (by decide) fun T359 v359 L359 X359 hQ359 => ?_
  obtain ⟨l1_359, kl_359, rfl, Nq359, K359, ge_l1_359, fresh_l1_359, E_a1_359, Flimbs_a1_359, FadditionsSinceCarry_a1_359, V_l1_359⟩ := hQ359
  have N359 := Fr.app N333 Nq359
  have K_360 := K_347.trans K359 (allS (Or.inr sz_b346) all0)
  have E_a1_361 := E_a1_348.keep K359
  have Fcount_a1_362 := Fcount_a1_349.keep K359 (ninS ne_a1_b346 nin0)
  have Fleast_a1_363 := Fleast_a1_350.keep K359 (ninS ne_a1_b346 nin0)
  have Fgreatest_a1_364 := Fgreatest_a1_351.keep K359 (ninS ne_a1_b346 nin0)
  have Fsum_a1_365 := Fsum_a1_352.keep K359 (ninS ne_a1_b346 nin0)
  have Fsquares_a1_366 := Fsquares_a1_353.keep K359 (ninS ne_a1_b346 nin0)
  have E_a1_367 := E_a1_354.keep K359
  have Flimbs_a1_368 := Flimbs_a1_355.keep K359 (ninS ne_b288_b346 nin0)
  have FadditionsSinceCarry_a1_369 := FadditionsSinceCarry_a1_356.keep K359 (ninS ne_b288_b346 nin0)
  have V_l1_370 := V_l1_357.keep K359 (ninS ne_l1_297_b346 nin0)
  have A346_371 := A346.keep K359
  have Z_372 := Nat.le_trans Z_358 K359.1
  have ne_a1_l1_359 : a1 ≠ l1_359 := Nat.ne_of_lt (Nat.lt_of_lt_of_le E_a1_348.lt fresh_l1_359)
  have ne_b288_l1_359 : b288 ≠ l1_359 := Nat.ne_of_lt (Nat.lt_of_lt_of_le E_a1_354.lt fresh_l1_359)
  have ne_l1_297_l1_359 : l1_297 ≠ l1_359 := Nat.ne_of_lt (Nat.lt_of_lt_of_le V_l1_357.lt fresh_l1_359)
  have ne_b346_l1_359 : b346 ≠ l1_359 := Nat.ne_of_lt (Nat.lt_of_lt_of_le A346.lt fresh_l1_359)
  have sz_l1_359 := Nat.le_trans K_347.1 fresh_l1_359
  refine Owe.goto X359.here hx (hb hby d4_47) (pc' := 51) (by decide) (by decide) ?_
  refine Owe.putf X359 hx hZ (host := "") hown (Or.inl (wd hw 27)) Via.refl rfl Fsquares_a1_366 E_a1_361 (Or.inr ⟨(wd hw 28), rfl, hnm⟩) (wd hw 1) (ty := (.object "com/example/rill/rill/collectors/FixedPointSum")) (by decide) rfl rfl (hb hby d4_51) rfl fun T373 h373 X373 e373 W373 => ?_
  have K_374 := K_360.wr W373 (Or.inl (List.mem_of_getElem? (i := 0) rfl))
  have E_a1_375 := E_a1_361.wr W373
  have Fcount_a1_376 := Fcount_a1_362.other W373 (Or.inr (slot_ne (Or.inl (wd hw 35)) (Or.inr (wd hw 28)) (by decide) (t := .long) (t' := (.object "com/example/rill/rill/collectors/FixedPointSum")) (by decide) (by decide)))
  have Fleast_a1_377 := Fleast_a1_363.other W373 (Or.inr (slot_ne (Or.inl (wd hw 23)) (Or.inr (wd hw 28)) (by decide) (t := .double) (t' := (.object "com/example/rill/rill/collectors/FixedPointSum")) (by decide) (by decide)))
  have Fgreatest_a1_378 := Fgreatest_a1_364.other W373 (Or.inr (slot_ne (Or.inl (wd hw 26)) (Or.inr (wd hw 28)) (by decide) (t := .double) (t' := (.object "com/example/rill/rill/collectors/FixedPointSum")) (by decide) (by decide)))
  have Fsum_a1_379 := Fsum_a1_365.other W373 (Or.inr (slot_ne (Or.inr (wd hw 20)) (Or.inr (wd hw 28)) (by decide) (t := (.object "com/example/rill/rill/collectors/FixedPointSum")) (t' := (.object "com/example/rill/rill/collectors/FixedPointSum")) (by decide) (by decide)))
  have Fsquares_a1_380 := Fsquares_a1_366.same W373
  have E_a1_381 := E_a1_367.wr W373
  have Flimbs_a1_382 := Flimbs_a1_368.other W373 (Or.inl (Ne.symm ne_a1_b288))
  have FadditionsSinceCarry_a1_383 := FadditionsSinceCarry_a1_369.other W373 (Or.inl (Ne.symm ne_a1_b288))
  have V_l1_384 := V_l1_370.other W373 (Ne.symm ne_a1_l1_297)
  have E_a1_385 := E_a1_359.wr W373
  have Flimbs_a1_386 := Flimbs_a1_359.other W373 (Or.inl (Ne.symm ne_a1_b346))
  have FadditionsSinceCarry_a1_387 := FadditionsSinceCarry_a1_359.other W373 (Or.inl (Ne.symm ne_a1_b346))
  have V_l1_388 := V_l1_359.other W373 (Ne.symm ne_a1_l1_359)
  have Z_389 := Nat.le_trans Z_372 (Keep.of_wr W373).1
  have N373 := Fr.snoc X373 N359 ge_a1
  refine Owe.ret0 X373 hx hlk hrt (hb hby d4_54) rfl fun fs hE => ?_
  refine hG _ _ ⟨_, _, rfl, ?_, frameMono hE (by decide) (by decide)⟩
  show Qemi1 Z a1 h0 n0 _ T373.heap _
  rw [e373]
  exact ⟨b288, l1_297, kl_297, b346, l1_359, kl_359, rfl, N373, K_374, ge_b288, sz_b288, ge_l1_297, sz_l1_297, ge_b346, sz_b346, ge_l1_359, sz_l1_359, E_a1_375, Fcount_a1_376, Fleast_a1_377, Fgreatest_a1_378, Fsum_a1_379, Fsquares_a1_380, ne_b288_l1_297, ne_b288_b346, ne_b288_l1_359, ne_l1_297_b346, ne_l1_297_l1_359, ne_b346_l1_359, E_a1_381, Flimbs_a1_382, FadditionsSinceCarry_a1_383, V_l1_384, E_a1_385, Flimbs_a1_386, FadditionsSinceCarry_a1_387, V_l1_388⟩
theorem ef_ema1 (m : MethodId) (x0 : Addr) (x1 : UInt64)  : entryFrame m #[(.ref x0), (.double x1)] 12 = mkF m 0 #[.val (.ref x0), .val (.double x1), .second, .unset, .unset, .unset, .unset, .unset, .unset, .unset, .unset, .unset] [] := by first | (simp [entryFrame, mkF, argsToLocals, Value.category]; done) | rfl
def Qema1 (Z : State) (a1 : Addr) (s1 : Addr) (l1 : Addr) (k1 : ClassId) (vs1 : List Value) (dv1 : Value) (ac1 : Int32) (q1 : Addr) (l2 : Addr) (k2 : ClassId) (vs2 : List Value) (dv2 : Value) (ac2 : Int32) (ct : Int64) (ls : UInt64) (gr : UInt64) (x1 : UInt64) (bd : Int) (h0 : Heap) (n0 : Nat) (v : Option Value) (h : Heap) (L : List Loc) : Prop := ∃ (ac1n : Int32), ∃ (ws1 : List Value), ∃ (ac2n : Int32), ∃ (ws2 : List Value), v = none ∧ Fr n0 L ∧ Keep h0 h [a1, s1, l1, q1, l2] ∧ Exa Z h a1 "com/example/rill/rill/collectors/ExactMoments" ∧ Fld Z h a1 "com/example/rill/rill/collectors/ExactMoments" "count" "J" (.long (ct + (1 : Int64))) ∧ Fld Z h a1 "com/example/rill/rill/collectors/ExactMoments" "least" "D" (.double (pick64 false ls x1)) ∧ Fld Z h a1 "com/example/rill/rill/collectors/ExactMoments" "greatest" "D" (.double (pick64 true gr x1)) ∧ Fld Z h a1 "com/example/rill/rill/collectors/ExactMoments" "sum" "Lcom/example/rill/rill/collectors/FixedPointSum;" (.ref s1) ∧ Fld Z h a1 "com/example/rill/rill/collectors/ExactMoments" "squares" "Lcom/example/rill/rill/collectors/FixedPointSum;" (.ref q1) ∧ Exa Z h s1 "com/example/rill/rill/collectors/FixedPointSum" ∧ Fld Z h s1 "com/example/rill/rill/collectors/FixedPointSum" "limbs" "[J" (.ref l1) ∧ Fld Z h s1 "com/example/rill/rill/collectors/FixedPointSum" "additionsSinceCarry" "I" (.int ac1n) ∧ Arv Z h l1 k1 .long (69 : Int32) ws1 dv1 ∧ Exa Z h q1 "com/example/rill/rill/collectors/FixedPointSum" ∧ Fld Z h q1 "com/example/rill/rill/collectors/FixedPointSum" "limbs" "[J" (.ref l2) ∧ Fld Z h q1 "com/example/rill/rill/collectors/FixedPointSum" "additionsSinceCarry" "I" (.int ac2n) ∧ Arv Z h l2 k2 .long (135 : Int32) ws2 dv2 ∧ (0 ≤ ac1n.toInt ∧ ac1n.toInt ≤ (bd + 1)) ∧ (0 ≤ ac2n.toInt ∧ ac2n.toInt ≤ (bd + 1))
set_option maxRecDepth 65536 in
set_option maxHeartbeats 40000000 in
theorem rmema1 (l : Launch) (Z : State) (a0 : Array Value) (hw : Hw Z a0) (ws : List Jvm.Cond) (a1 : Addr) (s1 : Addr) (l1 : Addr) (k1 : ClassId) (vs1 : List Value) (dv1 : Value) (ac1 : Int32) (q1 : Addr) (l2 : Addr) (k2 : ClassId) (vs2 : List Value) (dv2 : Value) (ac2 : Int32) (ct : Int64) (ls : UInt64) (gr : UInt64) (x1 : UInt64) (bd : Int) (h0 : Heap) (n0 : Nat) (Z0 : n0 ≤ h0.size) (E_a1 : Exa Z h0 a1 "com/example/rill/rill/collectors/ExactMoments") (Fcount_a1 : Fld Z h0 a1 "com/example/rill/rill/collectors/ExactMoments" "count" "J" (.long ct)) (Fleast_a1 : Fld Z h0 a1 "com/example/rill/rill/collectors/ExactMoments" "least" "D" (.double ls)) (Fgreatest_a1 : Fld Z h0 a1 "com/example/rill/rill/collectors/ExactMoments" "greatest" "D" (.double gr)) (Fsum_a1 : Fld Z h0 a1 "com/example/rill/rill/collectors/ExactMoments" "sum" "Lcom/example/rill/rill/collectors/FixedPointSum;" (.ref s1)) (Fsquares_a1 : Fld Z h0 a1 "com/example/rill/rill/collectors/ExactMoments" "squares" "Lcom/example/rill/rill/collectors/FixedPointSum;" (.ref q1)) (E_s1 : Exa Z h0 s1 "com/example/rill/rill/collectors/FixedPointSum") (Flimbs_s1 : Fld Z h0 s1 "com/example/rill/rill/collectors/FixedPointSum" "limbs" "[J" (.ref l1)) (FadditionsSinceCarry_s1 : Fld Z h0 s1 "com/example/rill/rill/collectors/FixedPointSum" "additionsSinceCarry" "I" (.int ac1)) (V_l1 : Arv Z h0 l1 k1 .long (69 : Int32) vs1 dv1) (E_q1 : Exa Z h0 q1 "com/example/rill/rill/collectors/FixedPointSum") (Flimbs_q1 : Fld Z h0 q1 "com/example/rill/rill/collectors/FixedPointSum" "limbs" "[J" (.ref l2)) (FadditionsSinceCarry_q1 : Fld Z h0 q1 "com/example/rill/rill/collectors/FixedPointSum" "additionsSinceCarry" "I" (.int ac2)) (V_l2 : Arv Z h0 l2 k2 .long (135 : Int32) vs2 dv2) (ge_a1 : n0 ≤ a1) (ge_s1 : n0 ≤ s1) (ge_l1 : n0 ≤ l1) (ge_q1 : n0 ≤ q1) (ge_l2 : n0 ≤ l2) (ne_a1_s1 : a1 ≠ s1) (ne_a1_l1 : a1 ≠ l1) (ne_a1_q1 : a1 ≠ q1) (ne_a1_l2 : a1 ≠ l2) (ne_s1_l1 : s1 ≠ l1) (ne_s1_q1 : s1 ≠ q1) (ne_s1_l2 : s1 ≠ l2) (ne_l1_q1 : l1 ≠ q1) (ne_l1_l2 : l1 ≠ l2) (ne_q1_l2 : q1 ≠ l2) (hls : FP.dIsNaN ls = false) (hgr : FP.dIsNaN gr = false) (hx1 : FP.dIsNaN x1 = false) (hmag : Jvm.Free.Fl.Mag64 1056 x1) (hbd : bd ≤ 100) (hb1 : 0 ≤ ac1.toInt ∧ ac1.toInt ≤ bd) (hb2 : 0 ≤ ac2.toInt ∧ ac2.toInt ≤ bd) :
    MF l Z Y5 prog_39_method_2_code 12 none ws ({ frames := 2, cells := 0, slots := 0, locals := 60 } : Room) #[(.ref a1), (.double x1)] h0 (Qema1 Z a1 s1 l1 k1 vs1 dv1 ac1 q1 l2 k2 vs2 dv2 ac2 ct ls gr x1 bd h0 n0) := by
  refine MF.of (plainFor_of_name pn_1) (fun m => ef_ema1 m a1 x1) ?_
  intro p e s m below meth c s₁ G X0 e0 hx hby hml hown hnm hlk hrt hZ hnd hG
  have N0 := Fr.nil n0
  have K0 := Keep.refl h0 [a1, s1, l1, q1, l2]
  refine Owe.aloadN X0.here hx (hb hby d5_0) rfl rfl ?_
  refine Owe.dup X0.here hx (hb hby d5_1) rfl rfl ?_
  refine Owe.getf X0 hx hZ (host := "") hown (Or.inl (wd hw 34)) Via.refl e0 Fcount_a1 (hb hby d5_2) rfl fun T390 X390 e390 => ?_
  refine Owe.lconst X390.here hx (hb hby d5_5) (w := (1 : Int64)) rfl ?_
  refine Owe.ladd X390.here hx (hb hby d5_6) rfl ?_
  refine Owe.putf X390 hx hZ (host := "") hown (Or.inl (wd hw 34)) Via.refl e390 Fcount_a1 E_a1 (Or.inl (wd hw 35)) (wd hw 1) (ty := .long) (by decide) rfl rfl (hb hby d5_7) rfl fun T391 h391 X391 e391 W391 => ?_
  have K_392 := K0.wr W391 (Or.inl (List.mem_of_getElem? (i := 0) rfl))
  have E_a1_393 := E_a1.wr W391
  have Fcount_a1_394 := Fcount_a1.same W391
  have Fleast_a1_395 := Fleast_a1.other W391 (Or.inr (slot_ne (Or.inl (wd hw 23)) (Or.inl (wd hw 35)) (by decide) (t := .double) (t' := .long) (by decide) (by decide)))
  have Fgreatest_a1_396 := Fgreatest_a1.other W391 (Or.inr (slot_ne (Or.inl (wd hw 26)) (Or.inl (wd hw 35)) (by decide) (t := .double) (t' := .long) (by decide) (by decide)))
  have Fsum_a1_397 := Fsum_a1.other W391 (Or.inr (slot_ne (Or.inr (wd hw 20)) (Or.inl (wd hw 35)) (by decide) (t := (.object "com/example/rill/rill/collectors/FixedPointSum")) (t' := .long) (by decide) (by decide)))
  have Fsquares_a1_398 := Fsquares_a1.other W391 (Or.inr (slot_ne (Or.inr (wd hw 28)) (Or.inl (wd hw 35)) (by decide) (t := (.object "com/example/rill/rill/collectors/FixedPointSum")) (t' := .long) (by decide) (by decide)))
  have E_s1_399 := E_s1.wr W391
  have Flimbs_s1_400 := Flimbs_s1.other W391 (Or.inl (Ne.symm ne_a1_s1))
  have FadditionsSinceCarry_s1_401 := FadditionsSinceCarry_s1.other W391 (Or.inl (Ne.symm ne_a1_s1))
  have V_l1_402 := V_l1.other W391 (Ne.symm ne_a1_l1)
  have E_q1_403 := E_q1.wr W391
  have Flimbs_q1_404 := Flimbs_q1.other W391 (Or.inl (Ne.symm ne_a1_q1))
  have FadditionsSinceCarry_q1_405 := FadditionsSinceCarry_q1.other W391 (Or.inl (Ne.symm ne_a1_q1))
  have V_l2_406 := V_l2.other W391 (Ne.symm ne_a1_l2)
  have Z_407 := Nat.le_trans Z0 (Keep.of_wr W391).1
  have N391 := Fr.snoc X391 N0 ge_a1
  refine Owe.aloadN X391.here hx (hb hby d5_10) rfl rfl ?_
  refine Owe.aloadN X391.here hx (hb hby d5_11) rfl rfl ?_
  refine Owe.getf X391 hx hZ (host := "") hown (Or.inl (wd hw 22)) Via.refl e391 Fleast_a1_395 (hb hby d5_12) rfl fun T408 X408 e408 => ?_
  refine Owe.dloadN X408.here hx (hb hby d5_15) rfl ?_
  refine Owe.minD X408 hx hZ hown (wd hw 42) (wd hw 43) (wd hw 44) (wd hw 45) e408 hls hx1 (by rw [hml]; rfl) rfl (hb hby d5_16) (by decide) (W := 1) (nb rfl) (by decide) fun T409 X409 e409 => ?_
  refine Owe.putf X409 hx hZ (host := "") hown (Or.inl (wd hw 22)) Via.refl e409 Fleast_a1_395 E_a1_393 (Or.inl (wd hw 23)) (wd hw 1) (ty := .double) (by decide) rfl rfl (hb hby d5_19) rfl fun T410 h410 X410 e410 W410 => ?_
  have K_411 := K_392.wr W410 (Or.inl (List.mem_of_getElem? (i := 0) rfl))
  have E_a1_412 := E_a1_393.wr W410
  have Fcount_a1_413 := Fcount_a1_394.other W410 (Or.inr (slot_ne (Or.inl (wd hw 35)) (Or.inl (wd hw 23)) (by decide) (t := .long) (t' := .double) (by decide) (by decide)))
  have Fleast_a1_414 := Fleast_a1_395.same W410
  have Fgreatest_a1_415 := Fgreatest_a1_396.other W410 (Or.inr (slot_ne (Or.inl (wd hw 26)) (Or.inl (wd hw 23)) (by decide) (t := .double) (t' := .double) (by decide) (by decide)))
  have Fsum_a1_416 := Fsum_a1_397.other W410 (Or.inr (slot_ne (Or.inr (wd hw 20)) (Or.inl (wd hw 23)) (by decide) (t := (.object "com/example/rill/rill/collectors/FixedPointSum")) (t' := .double) (by decide) (by decide)))
  have Fsquares_a1_417 := Fsquares_a1_398.other W410 (Or.inr (slot_ne (Or.inr (wd hw 28)) (Or.inl (wd hw 23)) (by decide) (t := (.object "com/example/rill/rill/collectors/FixedPointSum")) (t' := .double) (by decide) (by decide)))
  have E_s1_418 := E_s1_399.wr W410
  have Flimbs_s1_419 := Flimbs_s1_400.other W410 (Or.inl (Ne.symm ne_a1_s1))
  have FadditionsSinceCarry_s1_420 := FadditionsSinceCarry_s1_401.other W410 (Or.inl (Ne.symm ne_a1_s1))
  have V_l1_421 := V_l1_402.other W410 (Ne.symm ne_a1_l1)
  have E_q1_422 := E_q1_403.wr W410
  have Flimbs_q1_423 := Flimbs_q1_404.other W410 (Or.inl (Ne.symm ne_a1_q1))
  have FadditionsSinceCarry_q1_424 := FadditionsSinceCarry_q1_405.other W410 (Or.inl (Ne.symm ne_a1_q1))
  have V_l2_425 := V_l2_406.other W410 (Ne.symm ne_a1_l2)
  have Z_426 := Nat.le_trans Z_407 (Keep.of_wr W410).1
  have N410 := Fr.snoc X410 N391 ge_a1
  refine Owe.aloadN X410.here hx (hb hby d5_22) rfl rfl ?_
  refine Owe.aloadN X410.here hx (hb hby d5_23) rfl rfl ?_
  refine Owe.getf X410 hx hZ (host := "") hown (Or.inl (wd hw 25)) Via.refl e410 Fgreatest_a1_415 (hb hby d5_24) rfl fun T427 X427 e427 => ?_
  refine Owe.dloadN X427.here hx (hb hby d5_27) rfl ?_
  refine Owe.maxD X427 hx hZ hown (wd hw 46) (wd hw 47) (wd hw 44) (wd hw 48) e427 hgr hx1 (by rw [hml]; rfl) rfl (hb hby d5_28) (by decide) (W := 1) (nb rfl) (by decide) fun T428 X428 e428 => ?_
  refine Owe.putf X428 hx hZ (host := "") hown (Or.inl (wd hw 25)) Via.refl e428 Fgreatest_a1_415 E_a1_412 (Or.inl (wd hw 26)) (wd hw 1) (ty := .double) (by decide) rfl rfl (hb hby d5_31) rfl fun T429 h429 X429 e429 W429 => ?_
  have K_430 := K_411.wr W429 (Or.inl (List.mem_of_getElem? (i := 0) rfl))
  have E_a1_431 := E_a1_412.wr W429
  have Fcount_a1_432 := Fcount_a1_413.other W429 (Or.inr (slot_ne (Or.inl (wd hw 35)) (Or.inl (wd hw 26)) (by decide) (t := .long) (t' := .double) (by decide) (by decide)))
  have Fleast_a1_433 := Fleast_a1_414.other W429 (Or.inr (slot_ne (Or.inl (wd hw 23)) (Or.inl (wd hw 26)) (by decide) (t := .double) (t' := .double) (by decide) (by decide)))
  have Fgreatest_a1_434 := Fgreatest_a1_415.same W429
  have Fsum_a1_435 := Fsum_a1_416.other W429 (Or.inr (slot_ne (Or.inr (wd hw 20)) (Or.inl (wd hw 26)) (by decide) (t := (.object "com/example/rill/rill/collectors/FixedPointSum")) (t' := .double) (by decide) (by decide)))
  have Fsquares_a1_436 := Fsquares_a1_417.other W429 (Or.inr (slot_ne (Or.inr (wd hw 28)) (Or.inl (wd hw 26)) (by decide) (t := (.object "com/example/rill/rill/collectors/FixedPointSum")) (t' := .double) (by decide) (by decide)))
  have E_s1_437 := E_s1_418.wr W429
  have Flimbs_s1_438 := Flimbs_s1_419.other W429 (Or.inl (Ne.symm ne_a1_s1))
  have FadditionsSinceCarry_s1_439 := FadditionsSinceCarry_s1_420.other W429 (Or.inl (Ne.symm ne_a1_s1))
  have V_l1_440 := V_l1_421.other W429 (Ne.symm ne_a1_l1)
  have E_q1_441 := E_q1_422.wr W429
  have Flimbs_q1_442 := Flimbs_q1_423.other W429 (Or.inl (Ne.symm ne_a1_q1))
  have FadditionsSinceCarry_q1_443 := FadditionsSinceCarry_q1_424.other W429 (Or.inl (Ne.symm ne_a1_q1))
  have V_l2_444 := V_l2_425.other W429 (Ne.symm ne_a1_l2)
  have Z_445 := Nat.le_trans Z_426 (Keep.of_wr W429).1
  have N429 := Fr.snoc X429 N410 ge_a1
  refine Owe.dloadN X429.here hx (hb hby d5_34) rfl ?_
  refine Owe.rawBits X429 hx hZ hown (wd hw 49) (wd hw 52) (wd hw 50) (wd hw 51) e429 (by rw [hml]; rfl) rfl (hb hby d5_35) (by decide) (W := 0) (nb rfl) (by decide +kernel) fun T446 X446 e446 => ?_
  refine Owe.lstoreN X446.here hx (hb hby d5_38) rfl (l' := #[.val (.ref a1), .val (.double x1), .second, .val (.long (x1.toInt64)), .second, .unset, .unset, .unset, .unset, .unset, .unset, .unset]) rfl ?_
  refine Owe.lloadN X446.here hx (hb hby d5_39) rfl ?_
  refine Owe.bipush X446.here hx (hb hby d5_40) (w := (52 : Int32)) rfl ?_
  refine Owe.lushr X446.here hx (hb hby d5_42) rfl ?_
  refine Owe.l2i X446.here hx (hb hby d5_43) rfl ?_
  refine Owe.sipush X446.here hx (hb hby d5_44) (w := (2047 : Int32)) rfl ?_
  refine Owe.iand X446.here hx (hb hby d5_47) rfl ?_
  have hE := own_exp hmag
  generalize (((((x1.toInt64).toUInt64 >>> ((52 : Int32) &&& 0x3f).toInt64.toUInt64).toInt64).toInt32) &&& (2047 : Int32)) = ee at hE ⊢
  refine Owe.istore X446.here hx (hb hby d5_48) rfl (l' := #[.val (.ref a1), .val (.double x1), .second, .val (.long (x1.toInt64)), .second, .val (.int ee), .unset, .unset, .unset, .unset, .unset, .unset]) rfl ?_
  refine Owe.iload X446.here hx (hb hby d5_50) rfl ?_
  refine Owe.sipush X446.here hx (hb hby d5_52) (w := (2047 : Int32)) rfl ?_
  refine Owe.icmpYes X446.here hx (hb hby d5_55) rfl (feq (own_n2047 hE)).2 (pc' := 64) (by decide) (by decide) ?_
  refine Owe.lloadN X446.here hx (hb hby d5_64) rfl ?_
  refine Owe.ldc2L X446 hx (v := (4503599627370495 : Int64)) hown (mvT hZ (wd hw 53)) (hb hby d5_65) ?_
  refine Owe.land X446.here hx (hb hby d5_68) rfl ?_
  generalize ((x1.toInt64) &&& (4503599627370495 : Int64)) = mm
  refine Owe.lstore X446.here hx (hb hby d5_69) rfl (l' := #[.val (.ref a1), .val (.double x1), .second, .val (.long (x1.toInt64)), .second, .val (.int ee), .val (.long mm), .second, .unset, .unset, .unset, .unset]) rfl ?_
  refine Owe.lload X446.here hx (hb hby d5_71) rfl ?_
  refine Owe.lconst X446.here hx (hb hby d5_73) (w := (0 : Int64)) rfl ?_
  refine Owe.lcmp X446.here hx (hb hby d5_74) rfl ?_
  by_cases hc75_447 : (lcmpW mm (0 : Int64)) = (0 : Int32)
  · skip
    refine Owe.ifNo X446.here hx (hb hby d5_75) rfl ((if0 _ _).trans (teq hc75_447).2) ?_
    refine Owe.iload X446.here hx (hb hby d5_78) rfl ?_
    by_cases hc80_448 : ee = (0 : Int32)
    · skip
      refine Owe.ifNo X446.here hx (hb hby d5_80) rfl ((if0 _ _).trans (teq hc80_448).2) ?_
      refine Owe.ret0 X446 hx hlk hrt (hb hby d5_83) rfl fun fs hE => ?_
      refine hG _ _ ⟨_, _, rfl, ?_, frameMono hE (by decide) (by decide)⟩
      show Qema1 Z a1 s1 l1 k1 vs1 dv1 ac1 q1 l2 k2 vs2 dv2 ac2 ct ls gr x1 bd h0 n0 _ T446.heap _
      rw [e446]
      exact ⟨ac1, vs1, ac2, vs2, rfl, N429, K_430, E_a1_431, Fcount_a1_432, Fleast_a1_433, Fgreatest_a1_434, Fsum_a1_435, Fsquares_a1_436, E_s1_437, Flimbs_s1_438, FadditionsSinceCarry_s1_439, V_l1_440, E_q1_441, Flimbs_q1_442, FadditionsSinceCarry_q1_443, V_l2_444, own_as0 hb1, own_as0 hb2⟩
    · skip
      refine Owe.ifYes X446.here hx (hb hby d5_80) rfl ((if0 _ _).trans (feq hc80_448).2) (pc' := 84) (by decide) (by decide) ?_
      refine Owe.iload X446.here hx (hb hby d5_84) rfl ?_
      refine Owe.ifYes X446.here hx (hb hby d5_86) rfl ((if0 _ _).trans (feq hc80_448).2) (pc' := 95) (by decide) (by decide) ?_
      refine Owe.iload X446.here hx (hb hby d5_95) rfl ?_
      refine Owe.sipush X446.here hx (hb hby d5_97) (w := (1075 : Int32)) rfl ?_
      refine Owe.isub X446.here hx (hb hby d5_100) rfl ?_
      refine Owe.istore X446.here hx (hb hby d5_101) rfl (l' := #[.val (.ref a1), .val (.double x1), .second, .val (.long (x1.toInt64)), .second, .val (.int ee), .val (.long mm), .second, .val (.int (ee - (1075 : Int32))), .unset, .unset, .unset]) rfl ?_
      refine Owe.iload X446.here hx (hb hby d5_103) rfl ?_
      refine Owe.ifNo X446.here hx (hb hby d5_105) rfl ((if0 _ _).trans (feq hc80_448).1) ?_
      refine Owe.lload X446.here hx (hb hby d5_108) rfl ?_
      refine Owe.ldc2L X446 hx (v := (4503599627370496 : Int64)) hown (mvT hZ (wd hw 54)) (hb hby d5_110) ?_
      refine Owe.lor X446.here hx (hb hby d5_113) rfl ?_
      refine Owe.lstore X446.here hx (hb hby d5_114) rfl (l' := #[.val (.ref a1), .val (.double x1), .second, .val (.long (x1.toInt64)), .second, .val (.int ee), .val (.long (mm ||| (4503599627370496 : Int64))), .second, .val (.int (ee - (1075 : Int32))), .unset, .unset, .unset]) rfl ?_
      refine Owe.lloadN X446.here hx (hb hby d5_116) rfl ?_
      refine Owe.lconst X446.here hx (hb hby d5_117) (w := (0 : Int64)) rfl ?_
      refine Owe.lcmp X446.here hx (hb hby d5_118) rfl ?_
      by_cases hc119_449 : (lcmpW (x1.toInt64) (0 : Int64)) < (0 : Int32)
      · skip
        refine Owe.ifNo X446.here hx (hb hby d5_119) rfl ((if0 _ _).trans (tlt hc119_449).2.1) ?_
        refine Owe.iconst X446.here hx (hb hby d5_122) (w := (1 : Int32)) rfl ?_
        refine Owe.goto X446.here hx (hb hby d5_123) (pc' := 127) (by decide) (by decide) ?_
        refine Owe.istore X446.here hx (hb hby d5_127) rfl (l' := #[.val (.ref a1), .val (.double x1), .second, .val (.long (x1.toInt64)), .second, .val (.int ee), .val (.long (mm ||| (4503599627370496 : Int64))), .second, .val (.int (ee - (1075 : Int32))), .val (.int (1 : Int32)), .unset, .unset]) rfl ?_
        refine Owe.aloadN X446.here hx (hb hby d5_129) rfl rfl ?_
        refine Owe.getf X446 hx hZ (host := "") hown (Or.inl (wd hw 19)) Via.refl e446 Fsum_a1_435 (hb hby d5_130) rfl fun T450 X450 e450 => ?_
        refine Owe.iload X450.here hx (hb hby d5_133) rfl ?_
        refine Owe.lconst X450.here hx (hb hby d5_135) (w := (0 : Int64)) rfl ?_
        refine Owe.lload X450.here hx (hb hby d5_136) rfl ?_
        refine Owe.iload X450.here hx (hb hby d5_138) rfl ?_
        refine Owe.sipush X450.here hx (hb hby d5_140) (w := (-1074 : Int32)) rfl ?_
        refine Owe.isub X450.here hx (hb hby d5_143) rfl ?_
        refine Owe.virt X450 hx hZ (y := Y2) (z := Y2) hown (mvT hZ (wd hw 55)) (mvT hZ (wd hw 56)) (mvT hZ (wd hw 58)) (mvT hZ (wd hw 57)) (notFace_of_selects (args := #[]) (mvT hZ (wd hw 58))) (by decide) (backOf (W := 0) (rmfpa l Z a0 hw [] s1 l1 k1 (69 : Int32) vs1 dv1 ac1 (1 : Int32) (0 : Int64) (mm ||| (4503599627370496 : Int64)) ((ee - (1075 : Int32)) - (-1074 : Int32)) h429 n0 Z_445 E_s1_437 Flimbs_s1_438 FadditionsSinceCarry_s1_439 V_l1_440 ge_s1 ge_l1 ne_s1_l1 (own_nac hb1 hbd) (own_q1 hE hc80_448)) hZ (wd hw 59) (wd hw 11) (by decide) (by decide)) (by rw [hml]; rfl) (a := s1) (argsL := [(.int (1 : Int32)), (.long (0 : Int64)), (.long (mm ||| (4503599627370496 : Int64))), (.int ((ee - (1075 : Int32)) - (-1074 : Int32)))]) (rest := []) E_s1_437 (lenOf pd_2 rfl) rfl (nb rfl) (hb hby d5_144) rfl e450 (by decide) (by decide) fun T451 v451 L451 X451 hQ451 => ?_
        obtain ⟨ws_451, rfl, Nq451, K451, E_a1_451, Flimbs_a1_451, FadditionsSinceCarry_a1_451, V_l1_451⟩ := hQ451
        have N451 := Fr.app N429 Nq451
        have K_452 := K_430.trans K451 (allS (Or.inl (List.mem_of_getElem? (i := 1) rfl)) (allS (Or.inl (List.mem_of_getElem? (i := 2) rfl)) all0))
        have E_a1_453 := E_a1_431.keep K451
        have Fcount_a1_454 := Fcount_a1_432.keep K451 (ninS ne_a1_s1 (ninS ne_a1_l1 nin0))
        have Fleast_a1_455 := Fleast_a1_433.keep K451 (ninS ne_a1_s1 (ninS ne_a1_l1 nin0))
        have Fgreatest_a1_456 := Fgreatest_a1_434.keep K451 (ninS ne_a1_s1 (ninS ne_a1_l1 nin0))
        have Fsum_a1_457 := Fsum_a1_435.keep K451 (ninS ne_a1_s1 (ninS ne_a1_l1 nin0))
        have Fsquares_a1_458 := Fsquares_a1_436.keep K451 (ninS ne_a1_s1 (ninS ne_a1_l1 nin0))
        have E_s1_459 := E_s1_437.keep K451
        have E_q1_460 := E_q1_441.keep K451
        have Flimbs_q1_461 := Flimbs_q1_442.keep K451 (ninS (Ne.symm ne_s1_q1) (ninS (Ne.symm ne_l1_q1) nin0))
        have FadditionsSinceCarry_q1_462 := FadditionsSinceCarry_q1_443.keep K451 (ninS (Ne.symm ne_s1_q1) (ninS (Ne.symm ne_l1_q1) nin0))
        have V_l2_463 := V_l2_444.keep K451 (ninS (Ne.symm ne_s1_l2) (ninS (Ne.symm ne_l1_l2) nin0))
        have Z_464 := Nat.le_trans Z_445 K451.1
        refine Owe.aloadN X451.here hx (hb hby d5_147) rfl rfl ?_
        refine Owe.getf X451 hx hZ (host := "") hown (Or.inl (wd hw 27)) Via.refl rfl Fsquares_a1_458 (hb hby d5_148) rfl fun T465 X465 e465 => ?_
        refine Owe.ifnullNo X465.here hx (hb hby d5_151) rfl ?_
        refine Owe.lload X465.here hx (hb hby d5_154) rfl ?_
        refine Owe.lload X465.here hx (hb hby d5_156) rfl ?_
        refine Owe.stat X465 hx (y := Y3) hown (mvT hZ (wd hw 68)) (mvT hZ (wd hw 69)) (mvT hZ (wd hw 44)) (mvT hZ (wd hw 70)) (by decide) (backOf (W := 0) (rmmh l Z a0 hw [] (mm ||| (4503599627370496 : Int64)) (mm ||| (4503599627370496 : Int64)) T451.heap n0 Z_464 ) hZ (wd hw 70) (wd hw 44) (by decide) (by decide)) (by rw [hml]; rfl) (argsL := [(.long (mm ||| (4503599627370496 : Int64))), (.long (mm ||| (4503599627370496 : Int64)))]) (rest := []) (lenOf pd_3 rfl) rfl (nb rfl) (hb hby d5_158) rfl e465 (by decide) (by decide) fun T466 v466 L466 X466 hQ466 => ?_
        obtain ⟨mv_466, rfl, Nq466, e466⟩ := hQ466
        have N466 := Fr.app N451 Nq466
        refine Owe.lstore X466.here hx (hb hby d5_161) rfl (l' := #[.val (.ref a1), .val (.double x1), .second, .val (.long (x1.toInt64)), .second, .val (.int ee), .val (.long (mm ||| (4503599627370496 : Int64))), .second, .val (.int (ee - (1075 : Int32))), .val (.int (1 : Int32)), .val (.long mv_466), .second]) rfl ?_
        refine Owe.aloadN X466.here hx (hb hby d5_163) rfl rfl ?_
        refine Owe.getf X466 hx hZ (host := "") hown (Or.inl (wd hw 27)) Via.refl e466 Fsquares_a1_458 (hb hby d5_164) rfl fun T467 X467 e467 => ?_
        refine Owe.iconst X467.here hx (hb hby d5_167) (w := (0 : Int32)) rfl ?_
        refine Owe.lload X467.here hx (hb hby d5_168) rfl ?_
        refine Owe.lload X467.here hx (hb hby d5_170) rfl ?_
        refine Owe.lload X467.here hx (hb hby d5_172) rfl ?_
        refine Owe.lmul X467.here hx (hb hby d5_174) rfl ?_
        refine Owe.iconst X467.here hx (hb hby d5_175) (w := (2 : Int32)) rfl ?_
        refine Owe.iload X467.here hx (hb hby d5_176) rfl ?_
        refine Owe.imul X467.here hx (hb hby d5_178) rfl ?_
        refine Owe.sipush X467.here hx (hb hby d5_179) (w := (-2148 : Int32)) rfl ?_
        refine Owe.isub X467.here hx (hb hby d5_182) rfl ?_
        refine Owe.virt X467 hx hZ (y := Y2) (z := Y2) hown (mvT hZ (wd hw 55)) (mvT hZ (wd hw 56)) (mvT hZ (wd hw 58)) (mvT hZ (wd hw 57)) (notFace_of_selects (args := #[]) (mvT hZ (wd hw 58))) (by decide) (backOf (W := 0) (rmfpa l Z a0 hw [] q1 l2 k2 (135 : Int32) vs2 dv2 ac2 (0 : Int32) mv_466 ((mm ||| (4503599627370496 : Int64)) * (mm ||| (4503599627370496 : Int64))) (((2 : Int32) * (ee - (1075 : Int32))) - (-2148 : Int32)) T451.heap n0 Z_464 E_q1_460 Flimbs_q1_461 FadditionsSinceCarry_q1_462 V_l2_463 ge_q1 ge_l2 ne_q1_l2 (own_nac hb2 hbd) (own_q2 hE hc80_448)) hZ (wd hw 59) (wd hw 11) (by decide) (by decide)) (by rw [hml]; rfl) (a := q1) (argsL := [(.int (0 : Int32)), (.long mv_466), (.long ((mm ||| (4503599627370496 : Int64)) * (mm ||| (4503599627370496 : Int64)))), (.int (((2 : Int32) * (ee - (1075 : Int32))) - (-2148 : Int32)))]) (rest := []) E_q1_460 (lenOf pd_2 rfl) rfl (nb rfl) (hb hby d5_183) rfl e467 (by decide) (by decide) fun T468 v468 L468 X468 hQ468 => ?_
        obtain ⟨ws_468, rfl, Nq468, K468, E_a1_468, Flimbs_a1_468, FadditionsSinceCarry_a1_468, V_l1_468⟩ := hQ468
        have N468 := Fr.app N466 Nq468
        have K_469 := K_452.trans K468 (allS (Or.inl (List.mem_of_getElem? (i := 3) rfl)) (allS (Or.inl (List.mem_of_getElem? (i := 4) rfl)) all0))
        have E_a1_470 := E_a1_453.keep K468
        have Fcount_a1_471 := Fcount_a1_454.keep K468 (ninS ne_a1_q1 (ninS ne_a1_l2 nin0))
        have Fleast_a1_472 := Fleast_a1_455.keep K468 (ninS ne_a1_q1 (ninS ne_a1_l2 nin0))
        have Fgreatest_a1_473 := Fgreatest_a1_456.keep K468 (ninS ne_a1_q1 (ninS ne_a1_l2 nin0))
        have Fsum_a1_474 := Fsum_a1_457.keep K468 (ninS ne_a1_q1 (ninS ne_a1_l2 nin0))
        have Fsquares_a1_475 := Fsquares_a1_458.keep K468 (ninS ne_a1_q1 (ninS ne_a1_l2 nin0))
        have E_a1_476 := E_a1_451.keep K468
        have E_q1_477 := E_q1_460.keep K468
        have Flimbs_a1_478 := Flimbs_a1_451.keep K468 (ninS ne_s1_q1 (ninS ne_s1_l2 nin0))
        have FadditionsSinceCarry_a1_479 := FadditionsSinceCarry_a1_451.keep K468 (ninS ne_s1_q1 (ninS ne_s1_l2 nin0))
        have V_l1_480 := V_l1_451.keep K468 (ninS ne_l1_q1 (ninS ne_l1_l2 nin0))
        have Z_481 := Nat.le_trans Z_464 K468.1
        refine Owe.ret0 X468 hx hlk hrt (hb hby d5_186) rfl fun fs hE => ?_
        refine hG _ _ ⟨_, _, rfl, ?_, frameMono hE (by decide) (by decide)⟩
        show Qema1 Z a1 s1 l1 k1 vs1 dv1 ac1 q1 l2 k2 vs2 dv2 ac2 ct ls gr x1 bd h0 n0 _ T468.heap _
        exact ⟨(ac1 + (1 : Int32)), ws_451, (ac2 + (1 : Int32)), ws_468, rfl, N468, K_469, E_a1_470, Fcount_a1_471, Fleast_a1_472, Fgreatest_a1_473, Fsum_a1_474, Fsquares_a1_475, E_a1_476, Flimbs_a1_478, FadditionsSinceCarry_a1_479, V_l1_480, E_a1_468, Flimbs_a1_468, FadditionsSinceCarry_a1_468, V_l1_468, own_as1 hb1 hbd, own_as1 hb2 hbd⟩
      · skip
        refine Owe.ifYes X446.here hx (hb hby d5_119) rfl ((if0 _ _).trans (flt hc119_449).2.1) (pc' := 126) (by decide) (by decide) ?_
        refine Owe.iconst X446.here hx (hb hby d5_126) (w := (0 : Int32)) rfl ?_
        refine Owe.istore X446.here hx (hb hby d5_127) rfl (l' := #[.val (.ref a1), .val (.double x1), .second, .val (.long (x1.toInt64)), .second, .val (.int ee), .val (.long (mm ||| (4503599627370496 : Int64))), .second, .val (.int (ee - (1075 : Int32))), .val (.int (0 : Int32)), .unset, .unset]) rfl ?_
        refine Owe.aloadN X446.here hx (hb hby d5_129) rfl rfl ?_
        refine Owe.getf X446 hx hZ (host := "") hown (Or.inl (wd hw 19)) Via.refl e446 Fsum_a1_435 (hb hby d5_130) rfl fun T482 X482 e482 => ?_
        refine Owe.iload X482.here hx (hb hby d5_133) rfl ?_
        refine Owe.lconst X482.here hx (hb hby d5_135) (w := (0 : Int64)) rfl ?_
        refine Owe.lload X482.here hx (hb hby d5_136) rfl ?_
        refine Owe.iload X482.here hx (hb hby d5_138) rfl ?_
        refine Owe.sipush X482.here hx (hb hby d5_140) (w := (-1074 : Int32)) rfl ?_
        refine Owe.isub X482.here hx (hb hby d5_143) rfl ?_
        refine Owe.virt X482 hx hZ (y := Y2) (z := Y2) hown (mvT hZ (wd hw 55)) (mvT hZ (wd hw 56)) (mvT hZ (wd hw 58)) (mvT hZ (wd hw 57)) (notFace_of_selects (args := #[]) (mvT hZ (wd hw 58))) (by decide) (backOf (W := 0) (rmfpa l Z a0 hw [] s1 l1 k1 (69 : Int32) vs1 dv1 ac1 (0 : Int32) (0 : Int64) (mm ||| (4503599627370496 : Int64)) ((ee - (1075 : Int32)) - (-1074 : Int32)) h429 n0 Z_445 E_s1_437 Flimbs_s1_438 FadditionsSinceCarry_s1_439 V_l1_440 ge_s1 ge_l1 ne_s1_l1 (own_nac hb1 hbd) (own_q1 hE hc80_448)) hZ (wd hw 59) (wd hw 11) (by decide) (by decide)) (by rw [hml]; rfl) (a := s1) (argsL := [(.int (0 : Int32)), (.long (0 : Int64)), (.long (mm ||| (4503599627370496 : Int64))), (.int ((ee - (1075 : Int32)) - (-1074 : Int32)))]) (rest := []) E_s1_437 (lenOf pd_2 rfl) rfl (nb rfl) (hb hby d5_144) rfl e482 (by decide) (by decide) fun T483 v483 L483 X483 hQ483 => ?_
        obtain ⟨ws_483, rfl, Nq483, K483, E_a1_483, Flimbs_a1_483, FadditionsSinceCarry_a1_483, V_l1_483⟩ := hQ483
        have N483 := Fr.app N429 Nq483
        have K_484 := K_430.trans K483 (allS (Or.inl (List.mem_of_getElem? (i := 1) rfl)) (allS (Or.inl (List.mem_of_getElem? (i := 2) rfl)) all0))
        have E_a1_485 := E_a1_431.keep K483
        have Fcount_a1_486 := Fcount_a1_432.keep K483 (ninS ne_a1_s1 (ninS ne_a1_l1 nin0))
        have Fleast_a1_487 := Fleast_a1_433.keep K483 (ninS ne_a1_s1 (ninS ne_a1_l1 nin0))
        have Fgreatest_a1_488 := Fgreatest_a1_434.keep K483 (ninS ne_a1_s1 (ninS ne_a1_l1 nin0))
        have Fsum_a1_489 := Fsum_a1_435.keep K483 (ninS ne_a1_s1 (ninS ne_a1_l1 nin0))
        have Fsquares_a1_490 := Fsquares_a1_436.keep K483 (ninS ne_a1_s1 (ninS ne_a1_l1 nin0))
        have E_s1_491 := E_s1_437.keep K483
        have E_q1_492 := E_q1_441.keep K483
        have Flimbs_q1_493 := Flimbs_q1_442.keep K483 (ninS (Ne.symm ne_s1_q1) (ninS (Ne.symm ne_l1_q1) nin0))
        have FadditionsSinceCarry_q1_494 := FadditionsSinceCarry_q1_443.keep K483 (ninS (Ne.symm ne_s1_q1) (ninS (Ne.symm ne_l1_q1) nin0))
        have V_l2_495 := V_l2_444.keep K483 (ninS (Ne.symm ne_s1_l2) (ninS (Ne.symm ne_l1_l2) nin0))
        have Z_496 := Nat.le_trans Z_445 K483.1
        refine Owe.aloadN X483.here hx (hb hby d5_147) rfl rfl ?_
        refine Owe.getf X483 hx hZ (host := "") hown (Or.inl (wd hw 27)) Via.refl rfl Fsquares_a1_490 (hb hby d5_148) rfl fun T497 X497 e497 => ?_
        refine Owe.ifnullNo X497.here hx (hb hby d5_151) rfl ?_
        refine Owe.lload X497.here hx (hb hby d5_154) rfl ?_
        refine Owe.lload X497.here hx (hb hby d5_156) rfl ?_
        refine Owe.stat X497 hx (y := Y3) hown (mvT hZ (wd hw 68)) (mvT hZ (wd hw 69)) (mvT hZ (wd hw 44)) (mvT hZ (wd hw 70)) (by decide) (backOf (W := 0) (rmmh l Z a0 hw [] (mm ||| (4503599627370496 : Int64)) (mm ||| (4503599627370496 : Int64)) T483.heap n0 Z_496 ) hZ (wd hw 70) (wd hw 44) (by decide) (by decide)) (by rw [hml]; rfl) (argsL := [(.long (mm ||| (4503599627370496 : Int64))), (.long (mm ||| (4503599627370496 : Int64)))]) (rest := []) (lenOf pd_3 rfl) rfl (nb rfl) (hb hby d5_158) rfl e497 (by decide) (by decide) fun T498 v498 L498 X498 hQ498 => ?_
        obtain ⟨mv_498, rfl, Nq498, e498⟩ := hQ498
        have N498 := Fr.app N483 Nq498
        refine Owe.lstore X498.here hx (hb hby d5_161) rfl (l' := #[.val (.ref a1), .val (.double x1), .second, .val (.long (x1.toInt64)), .second, .val (.int ee), .val (.long (mm ||| (4503599627370496 : Int64))), .second, .val (.int (ee - (1075 : Int32))), .val (.int (0 : Int32)), .val (.long mv_498), .second]) rfl ?_
        refine Owe.aloadN X498.here hx (hb hby d5_163) rfl rfl ?_
        refine Owe.getf X498 hx hZ (host := "") hown (Or.inl (wd hw 27)) Via.refl e498 Fsquares_a1_490 (hb hby d5_164) rfl fun T499 X499 e499 => ?_
        refine Owe.iconst X499.here hx (hb hby d5_167) (w := (0 : Int32)) rfl ?_
        refine Owe.lload X499.here hx (hb hby d5_168) rfl ?_
        refine Owe.lload X499.here hx (hb hby d5_170) rfl ?_
        refine Owe.lload X499.here hx (hb hby d5_172) rfl ?_
        refine Owe.lmul X499.here hx (hb hby d5_174) rfl ?_
        refine Owe.iconst X499.here hx (hb hby d5_175) (w := (2 : Int32)) rfl ?_
        refine Owe.iload X499.here hx (hb hby d5_176) rfl ?_
        refine Owe.imul X499.here hx (hb hby d5_178) rfl ?_
        refine Owe.sipush X499.here hx (hb hby d5_179) (w := (-2148 : Int32)) rfl ?_
        refine Owe.isub X499.here hx (hb hby d5_182) rfl ?_
        refine Owe.virt X499 hx hZ (y := Y2) (z := Y2) hown (mvT hZ (wd hw 55)) (mvT hZ (wd hw 56)) (mvT hZ (wd hw 58)) (mvT hZ (wd hw 57)) (notFace_of_selects (args := #[]) (mvT hZ (wd hw 58))) (by decide) (backOf (W := 0) (rmfpa l Z a0 hw [] q1 l2 k2 (135 : Int32) vs2 dv2 ac2 (0 : Int32) mv_498 ((mm ||| (4503599627370496 : Int64)) * (mm ||| (4503599627370496 : Int64))) (((2 : Int32) * (ee - (1075 : Int32))) - (-2148 : Int32)) T483.heap n0 Z_496 E_q1_492 Flimbs_q1_493 FadditionsSinceCarry_q1_494 V_l2_495 ge_q1 ge_l2 ne_q1_l2 (own_nac hb2 hbd) (own_q2 hE hc80_448)) hZ (wd hw 59) (wd hw 11) (by decide) (by decide)) (by rw [hml]; rfl) (a := q1) (argsL := [(.int (0 : Int32)), (.long mv_498), (.long ((mm ||| (4503599627370496 : Int64)) * (mm ||| (4503599627370496 : Int64)))), (.int (((2 : Int32) * (ee - (1075 : Int32))) - (-2148 : Int32)))]) (rest := []) E_q1_492 (lenOf pd_2 rfl) rfl (nb rfl) (hb hby d5_183) rfl e499 (by decide) (by decide) fun T500 v500 L500 X500 hQ500 => ?_
        obtain ⟨ws_500, rfl, Nq500, K500, E_a1_500, Flimbs_a1_500, FadditionsSinceCarry_a1_500, V_l1_500⟩ := hQ500
        have N500 := Fr.app N498 Nq500
        have K_501 := K_484.trans K500 (allS (Or.inl (List.mem_of_getElem? (i := 3) rfl)) (allS (Or.inl (List.mem_of_getElem? (i := 4) rfl)) all0))
        have E_a1_502 := E_a1_485.keep K500
        have Fcount_a1_503 := Fcount_a1_486.keep K500 (ninS ne_a1_q1 (ninS ne_a1_l2 nin0))
        have Fleast_a1_504 := Fleast_a1_487.keep K500 (ninS ne_a1_q1 (ninS ne_a1_l2 nin0))
        have Fgreatest_a1_505 := Fgreatest_a1_488.keep K500 (ninS ne_a1_q1 (ninS ne_a1_l2 nin0))
        have Fsum_a1_506 := Fsum_a1_489.keep K500 (ninS ne_a1_q1 (ninS ne_a1_l2 nin0))
        have Fsquares_a1_507 := Fsquares_a1_490.keep K500 (ninS ne_a1_q1 (ninS ne_a1_l2 nin0))
        have E_a1_508 := E_a1_483.keep K500
        have E_q1_509 := E_q1_492.keep K500
        have Flimbs_a1_510 := Flimbs_a1_483.keep K500 (ninS ne_s1_q1 (ninS ne_s1_l2 nin0))
        have FadditionsSinceCarry_a1_511 := FadditionsSinceCarry_a1_483.keep K500 (ninS ne_s1_q1 (ninS ne_s1_l2 nin0))
        have V_l1_512 := V_l1_483.keep K500 (ninS ne_l1_q1 (ninS ne_l1_l2 nin0))
        have Z_513 := Nat.le_trans Z_496 K500.1
        refine Owe.ret0 X500 hx hlk hrt (hb hby d5_186) rfl fun fs hE => ?_
        refine hG _ _ ⟨_, _, rfl, ?_, frameMono hE (by decide) (by decide)⟩
        show Qema1 Z a1 s1 l1 k1 vs1 dv1 ac1 q1 l2 k2 vs2 dv2 ac2 ct ls gr x1 bd h0 n0 _ T500.heap _
        exact ⟨(ac1 + (1 : Int32)), ws_483, (ac2 + (1 : Int32)), ws_500, rfl, N500, K_501, E_a1_502, Fcount_a1_503, Fleast_a1_504, Fgreatest_a1_505, Fsum_a1_506, Fsquares_a1_507, E_a1_508, Flimbs_a1_510, FadditionsSinceCarry_a1_511, V_l1_512, E_a1_500, Flimbs_a1_500, FadditionsSinceCarry_a1_500, V_l1_500, own_as1 hb1 hbd, own_as1 hb2 hbd⟩
  · skip
    refine Owe.ifYes X446.here hx (hb hby d5_75) rfl ((if0 _ _).trans (feq hc75_447).2) (pc' := 84) (by decide) (by decide) ?_
    refine Owe.iload X446.here hx (hb hby d5_84) rfl ?_
    by_cases hc86_514 : ee = (0 : Int32)
    · skip
      refine Owe.ifNo X446.here hx (hb hby d5_86) rfl ((if0 _ _).trans (teq hc86_514).2) ?_
      refine Owe.sipush X446.here hx (hb hby d5_89) (w := (-1074 : Int32)) rfl ?_
      refine Owe.goto X446.here hx (hb hby d5_92) (pc' := 101) (by decide) (by decide) ?_
      refine Owe.istore X446.here hx (hb hby d5_101) rfl (l' := #[.val (.ref a1), .val (.double x1), .second, .val (.long (x1.toInt64)), .second, .val (.int ee), .val (.long mm), .second, .val (.int (-1074 : Int32)), .unset, .unset, .unset]) rfl ?_
      refine Owe.iload X446.here hx (hb hby d5_103) rfl ?_
      refine Owe.ifYes X446.here hx (hb hby d5_105) rfl ((if0 _ _).trans (teq hc86_514).1) (pc' := 116) (by decide) (by decide) ?_
      refine Owe.lloadN X446.here hx (hb hby d5_116) rfl ?_
      refine Owe.lconst X446.here hx (hb hby d5_117) (w := (0 : Int64)) rfl ?_
      refine Owe.lcmp X446.here hx (hb hby d5_118) rfl ?_
      by_cases hc119_515 : (lcmpW (x1.toInt64) (0 : Int64)) < (0 : Int32)
      · skip
        refine Owe.ifNo X446.here hx (hb hby d5_119) rfl ((if0 _ _).trans (tlt hc119_515).2.1) ?_
        refine Owe.iconst X446.here hx (hb hby d5_122) (w := (1 : Int32)) rfl ?_
        refine Owe.goto X446.here hx (hb hby d5_123) (pc' := 127) (by decide) (by decide) ?_
        refine Owe.istore X446.here hx (hb hby d5_127) rfl (l' := #[.val (.ref a1), .val (.double x1), .second, .val (.long (x1.toInt64)), .second, .val (.int ee), .val (.long mm), .second, .val (.int (-1074 : Int32)), .val (.int (1 : Int32)), .unset, .unset]) rfl ?_
        refine Owe.aloadN X446.here hx (hb hby d5_129) rfl rfl ?_
        refine Owe.getf X446 hx hZ (host := "") hown (Or.inl (wd hw 19)) Via.refl e446 Fsum_a1_435 (hb hby d5_130) rfl fun T516 X516 e516 => ?_
        refine Owe.iload X516.here hx (hb hby d5_133) rfl ?_
        refine Owe.lconst X516.here hx (hb hby d5_135) (w := (0 : Int64)) rfl ?_
        refine Owe.lload X516.here hx (hb hby d5_136) rfl ?_
        refine Owe.iload X516.here hx (hb hby d5_138) rfl ?_
        refine Owe.sipush X516.here hx (hb hby d5_140) (w := (-1074 : Int32)) rfl ?_
        refine Owe.isub X516.here hx (hb hby d5_143) rfl ?_
        refine Owe.virt X516 hx hZ (y := Y2) (z := Y2) hown (mvT hZ (wd hw 55)) (mvT hZ (wd hw 56)) (mvT hZ (wd hw 58)) (mvT hZ (wd hw 57)) (notFace_of_selects (args := #[]) (mvT hZ (wd hw 58))) (by decide) (backOf (W := 0) (rmfpa l Z a0 hw [] s1 l1 k1 (69 : Int32) vs1 dv1 ac1 (1 : Int32) (0 : Int64) mm (0 : Int32) h429 n0 Z_445 E_s1_437 Flimbs_s1_438 FadditionsSinceCarry_s1_439 V_l1_440 ge_s1 ge_l1 ne_s1_l1 (own_nac hb1 hbd) (by decide)) hZ (wd hw 59) (wd hw 11) (by decide) (by decide)) (by rw [hml]; rfl) (a := s1) (argsL := [(.int (1 : Int32)), (.long (0 : Int64)), (.long mm), (.int (0 : Int32))]) (rest := []) E_s1_437 (lenOf pd_2 rfl) rfl (nb rfl) (hb hby d5_144) rfl e516 (by decide) (by decide) fun T517 v517 L517 X517 hQ517 => ?_
        obtain ⟨ws_517, rfl, Nq517, K517, E_a1_517, Flimbs_a1_517, FadditionsSinceCarry_a1_517, V_l1_517⟩ := hQ517
        have N517 := Fr.app N429 Nq517
        have K_518 := K_430.trans K517 (allS (Or.inl (List.mem_of_getElem? (i := 1) rfl)) (allS (Or.inl (List.mem_of_getElem? (i := 2) rfl)) all0))
        have E_a1_519 := E_a1_431.keep K517
        have Fcount_a1_520 := Fcount_a1_432.keep K517 (ninS ne_a1_s1 (ninS ne_a1_l1 nin0))
        have Fleast_a1_521 := Fleast_a1_433.keep K517 (ninS ne_a1_s1 (ninS ne_a1_l1 nin0))
        have Fgreatest_a1_522 := Fgreatest_a1_434.keep K517 (ninS ne_a1_s1 (ninS ne_a1_l1 nin0))
        have Fsum_a1_523 := Fsum_a1_435.keep K517 (ninS ne_a1_s1 (ninS ne_a1_l1 nin0))
        have Fsquares_a1_524 := Fsquares_a1_436.keep K517 (ninS ne_a1_s1 (ninS ne_a1_l1 nin0))
        have E_s1_525 := E_s1_437.keep K517
        have E_q1_526 := E_q1_441.keep K517
        have Flimbs_q1_527 := Flimbs_q1_442.keep K517 (ninS (Ne.symm ne_s1_q1) (ninS (Ne.symm ne_l1_q1) nin0))
        have FadditionsSinceCarry_q1_528 := FadditionsSinceCarry_q1_443.keep K517 (ninS (Ne.symm ne_s1_q1) (ninS (Ne.symm ne_l1_q1) nin0))
        have V_l2_529 := V_l2_444.keep K517 (ninS (Ne.symm ne_s1_l2) (ninS (Ne.symm ne_l1_l2) nin0))
        have Z_530 := Nat.le_trans Z_445 K517.1
        refine Owe.aloadN X517.here hx (hb hby d5_147) rfl rfl ?_
        refine Owe.getf X517 hx hZ (host := "") hown (Or.inl (wd hw 27)) Via.refl rfl Fsquares_a1_524 (hb hby d5_148) rfl fun T531 X531 e531 => ?_
        refine Owe.ifnullNo X531.here hx (hb hby d5_151) rfl ?_
        refine Owe.lload X531.here hx (hb hby d5_154) rfl ?_
        refine Owe.lload X531.here hx (hb hby d5_156) rfl ?_
        refine Owe.stat X531 hx (y := Y3) hown (mvT hZ (wd hw 68)) (mvT hZ (wd hw 69)) (mvT hZ (wd hw 44)) (mvT hZ (wd hw 70)) (by decide) (backOf (W := 0) (rmmh l Z a0 hw [] mm mm T517.heap n0 Z_530 ) hZ (wd hw 70) (wd hw 44) (by decide) (by decide)) (by rw [hml]; rfl) (argsL := [(.long mm), (.long mm)]) (rest := []) (lenOf pd_3 rfl) rfl (nb rfl) (hb hby d5_158) rfl e531 (by decide) (by decide) fun T532 v532 L532 X532 hQ532 => ?_
        obtain ⟨mv_532, rfl, Nq532, e532⟩ := hQ532
        have N532 := Fr.app N517 Nq532
        refine Owe.lstore X532.here hx (hb hby d5_161) rfl (l' := #[.val (.ref a1), .val (.double x1), .second, .val (.long (x1.toInt64)), .second, .val (.int ee), .val (.long mm), .second, .val (.int (-1074 : Int32)), .val (.int (1 : Int32)), .val (.long mv_532), .second]) rfl ?_
        refine Owe.aloadN X532.here hx (hb hby d5_163) rfl rfl ?_
        refine Owe.getf X532 hx hZ (host := "") hown (Or.inl (wd hw 27)) Via.refl e532 Fsquares_a1_524 (hb hby d5_164) rfl fun T533 X533 e533 => ?_
        refine Owe.iconst X533.here hx (hb hby d5_167) (w := (0 : Int32)) rfl ?_
        refine Owe.lload X533.here hx (hb hby d5_168) rfl ?_
        refine Owe.lload X533.here hx (hb hby d5_170) rfl ?_
        refine Owe.lload X533.here hx (hb hby d5_172) rfl ?_
        refine Owe.lmul X533.here hx (hb hby d5_174) rfl ?_
        refine Owe.iconst X533.here hx (hb hby d5_175) (w := (2 : Int32)) rfl ?_
        refine Owe.iload X533.here hx (hb hby d5_176) rfl ?_
        refine Owe.imul X533.here hx (hb hby d5_178) rfl ?_
        refine Owe.sipush X533.here hx (hb hby d5_179) (w := (-2148 : Int32)) rfl ?_
        refine Owe.isub X533.here hx (hb hby d5_182) rfl ?_
        refine Owe.virt X533 hx hZ (y := Y2) (z := Y2) hown (mvT hZ (wd hw 55)) (mvT hZ (wd hw 56)) (mvT hZ (wd hw 58)) (mvT hZ (wd hw 57)) (notFace_of_selects (args := #[]) (mvT hZ (wd hw 58))) (by decide) (backOf (W := 0) (rmfpa l Z a0 hw [] q1 l2 k2 (135 : Int32) vs2 dv2 ac2 (0 : Int32) mv_532 (mm * mm) (0 : Int32) T517.heap n0 Z_530 E_q1_526 Flimbs_q1_527 FadditionsSinceCarry_q1_528 V_l2_529 ge_q1 ge_l2 ne_q1_l2 (own_nac hb2 hbd) (by decide)) hZ (wd hw 59) (wd hw 11) (by decide) (by decide)) (by rw [hml]; rfl) (a := q1) (argsL := [(.int (0 : Int32)), (.long mv_532), (.long (mm * mm)), (.int (0 : Int32))]) (rest := []) E_q1_526 (lenOf pd_2 rfl) rfl (nb rfl) (hb hby d5_183) rfl e533 (by decide) (by decide) fun T534 v534 L534 X534 hQ534 => ?_
        obtain ⟨ws_534, rfl, Nq534, K534, E_a1_534, Flimbs_a1_534, FadditionsSinceCarry_a1_534, V_l1_534⟩ := hQ534
        have N534 := Fr.app N532 Nq534
        have K_535 := K_518.trans K534 (allS (Or.inl (List.mem_of_getElem? (i := 3) rfl)) (allS (Or.inl (List.mem_of_getElem? (i := 4) rfl)) all0))
        have E_a1_536 := E_a1_519.keep K534
        have Fcount_a1_537 := Fcount_a1_520.keep K534 (ninS ne_a1_q1 (ninS ne_a1_l2 nin0))
        have Fleast_a1_538 := Fleast_a1_521.keep K534 (ninS ne_a1_q1 (ninS ne_a1_l2 nin0))
        have Fgreatest_a1_539 := Fgreatest_a1_522.keep K534 (ninS ne_a1_q1 (ninS ne_a1_l2 nin0))
        have Fsum_a1_540 := Fsum_a1_523.keep K534 (ninS ne_a1_q1 (ninS ne_a1_l2 nin0))
        have Fsquares_a1_541 := Fsquares_a1_524.keep K534 (ninS ne_a1_q1 (ninS ne_a1_l2 nin0))
        have E_a1_542 := E_a1_517.keep K534
        have E_q1_543 := E_q1_526.keep K534
        have Flimbs_a1_544 := Flimbs_a1_517.keep K534 (ninS ne_s1_q1 (ninS ne_s1_l2 nin0))
        have FadditionsSinceCarry_a1_545 := FadditionsSinceCarry_a1_517.keep K534 (ninS ne_s1_q1 (ninS ne_s1_l2 nin0))
        have V_l1_546 := V_l1_517.keep K534 (ninS ne_l1_q1 (ninS ne_l1_l2 nin0))
        have Z_547 := Nat.le_trans Z_530 K534.1
        refine Owe.ret0 X534 hx hlk hrt (hb hby d5_186) rfl fun fs hE => ?_
        refine hG _ _ ⟨_, _, rfl, ?_, frameMono hE (by decide) (by decide)⟩
        show Qema1 Z a1 s1 l1 k1 vs1 dv1 ac1 q1 l2 k2 vs2 dv2 ac2 ct ls gr x1 bd h0 n0 _ T534.heap _
        exact ⟨(ac1 + (1 : Int32)), ws_517, (ac2 + (1 : Int32)), ws_534, rfl, N534, K_535, E_a1_536, Fcount_a1_537, Fleast_a1_538, Fgreatest_a1_539, Fsum_a1_540, Fsquares_a1_541, E_a1_542, Flimbs_a1_544, FadditionsSinceCarry_a1_545, V_l1_546, E_a1_534, Flimbs_a1_534, FadditionsSinceCarry_a1_534, V_l1_534, own_as1 hb1 hbd, own_as1 hb2 hbd⟩
      · skip
        refine Owe.ifYes X446.here hx (hb hby d5_119) rfl ((if0 _ _).trans (flt hc119_515).2.1) (pc' := 126) (by decide) (by decide) ?_
        refine Owe.iconst X446.here hx (hb hby d5_126) (w := (0 : Int32)) rfl ?_
        refine Owe.istore X446.here hx (hb hby d5_127) rfl (l' := #[.val (.ref a1), .val (.double x1), .second, .val (.long (x1.toInt64)), .second, .val (.int ee), .val (.long mm), .second, .val (.int (-1074 : Int32)), .val (.int (0 : Int32)), .unset, .unset]) rfl ?_
        refine Owe.aloadN X446.here hx (hb hby d5_129) rfl rfl ?_
        refine Owe.getf X446 hx hZ (host := "") hown (Or.inl (wd hw 19)) Via.refl e446 Fsum_a1_435 (hb hby d5_130) rfl fun T548 X548 e548 => ?_
        refine Owe.iload X548.here hx (hb hby d5_133) rfl ?_
        refine Owe.lconst X548.here hx (hb hby d5_135) (w := (0 : Int64)) rfl ?_
        refine Owe.lload X548.here hx (hb hby d5_136) rfl ?_
        refine Owe.iload X548.here hx (hb hby d5_138) rfl ?_
        refine Owe.sipush X548.here hx (hb hby d5_140) (w := (-1074 : Int32)) rfl ?_
        refine Owe.isub X548.here hx (hb hby d5_143) rfl ?_
        refine Owe.virt X548 hx hZ (y := Y2) (z := Y2) hown (mvT hZ (wd hw 55)) (mvT hZ (wd hw 56)) (mvT hZ (wd hw 58)) (mvT hZ (wd hw 57)) (notFace_of_selects (args := #[]) (mvT hZ (wd hw 58))) (by decide) (backOf (W := 0) (rmfpa l Z a0 hw [] s1 l1 k1 (69 : Int32) vs1 dv1 ac1 (0 : Int32) (0 : Int64) mm (0 : Int32) h429 n0 Z_445 E_s1_437 Flimbs_s1_438 FadditionsSinceCarry_s1_439 V_l1_440 ge_s1 ge_l1 ne_s1_l1 (own_nac hb1 hbd) (by decide)) hZ (wd hw 59) (wd hw 11) (by decide) (by decide)) (by rw [hml]; rfl) (a := s1) (argsL := [(.int (0 : Int32)), (.long (0 : Int64)), (.long mm), (.int (0 : Int32))]) (rest := []) E_s1_437 (lenOf pd_2 rfl) rfl (nb rfl) (hb hby d5_144) rfl e548 (by decide) (by decide) fun T549 v549 L549 X549 hQ549 => ?_
        obtain ⟨ws_549, rfl, Nq549, K549, E_a1_549, Flimbs_a1_549, FadditionsSinceCarry_a1_549, V_l1_549⟩ := hQ549
        have N549 := Fr.app N429 Nq549
        have K_550 := K_430.trans K549 (allS (Or.inl (List.mem_of_getElem? (i := 1) rfl)) (allS (Or.inl (List.mem_of_getElem? (i := 2) rfl)) all0))
        have E_a1_551 := E_a1_431.keep K549
        have Fcount_a1_552 := Fcount_a1_432.keep K549 (ninS ne_a1_s1 (ninS ne_a1_l1 nin0))
        have Fleast_a1_553 := Fleast_a1_433.keep K549 (ninS ne_a1_s1 (ninS ne_a1_l1 nin0))
        have Fgreatest_a1_554 := Fgreatest_a1_434.keep K549 (ninS ne_a1_s1 (ninS ne_a1_l1 nin0))
        have Fsum_a1_555 := Fsum_a1_435.keep K549 (ninS ne_a1_s1 (ninS ne_a1_l1 nin0))
        have Fsquares_a1_556 := Fsquares_a1_436.keep K549 (ninS ne_a1_s1 (ninS ne_a1_l1 nin0))
        have E_s1_557 := E_s1_437.keep K549
        have E_q1_558 := E_q1_441.keep K549
        have Flimbs_q1_559 := Flimbs_q1_442.keep K549 (ninS (Ne.symm ne_s1_q1) (ninS (Ne.symm ne_l1_q1) nin0))
        have FadditionsSinceCarry_q1_560 := FadditionsSinceCarry_q1_443.keep K549 (ninS (Ne.symm ne_s1_q1) (ninS (Ne.symm ne_l1_q1) nin0))
        have V_l2_561 := V_l2_444.keep K549 (ninS (Ne.symm ne_s1_l2) (ninS (Ne.symm ne_l1_l2) nin0))
        have Z_562 := Nat.le_trans Z_445 K549.1
        refine Owe.aloadN X549.here hx (hb hby d5_147) rfl rfl ?_
        refine Owe.getf X549 hx hZ (host := "") hown (Or.inl (wd hw 27)) Via.refl rfl Fsquares_a1_556 (hb hby d5_148) rfl fun T563 X563 e563 => ?_
        refine Owe.ifnullNo X563.here hx (hb hby d5_151) rfl ?_
        refine Owe.lload X563.here hx (hb hby d5_154) rfl ?_
        refine Owe.lload X563.here hx (hb hby d5_156) rfl ?_
        refine Owe.stat X563 hx (y := Y3) hown (mvT hZ (wd hw 68)) (mvT hZ (wd hw 69)) (mvT hZ (wd hw 44)) (mvT hZ (wd hw 70)) (by decide) (backOf (W := 0) (rmmh l Z a0 hw [] mm mm T549.heap n0 Z_562 ) hZ (wd hw 70) (wd hw 44) (by decide) (by decide)) (by rw [hml]; rfl) (argsL := [(.long mm), (.long mm)]) (rest := []) (lenOf pd_3 rfl) rfl (nb rfl) (hb hby d5_158) rfl e563 (by decide) (by decide) fun T564 v564 L564 X564 hQ564 => ?_
        obtain ⟨mv_564, rfl, Nq564, e564⟩ := hQ564
        have N564 := Fr.app N549 Nq564
        refine Owe.lstore X564.here hx (hb hby d5_161) rfl (l' := #[.val (.ref a1), .val (.double x1), .second, .val (.long (x1.toInt64)), .second, .val (.int ee), .val (.long mm), .second, .val (.int (-1074 : Int32)), .val (.int (0 : Int32)), .val (.long mv_564), .second]) rfl ?_
        refine Owe.aloadN X564.here hx (hb hby d5_163) rfl rfl ?_
        refine Owe.getf X564 hx hZ (host := "") hown (Or.inl (wd hw 27)) Via.refl e564 Fsquares_a1_556 (hb hby d5_164) rfl fun T565 X565 e565 => ?_
        refine Owe.iconst X565.here hx (hb hby d5_167) (w := (0 : Int32)) rfl ?_
        refine Owe.lload X565.here hx (hb hby d5_168) rfl ?_
        refine Owe.lload X565.here hx (hb hby d5_170) rfl ?_
        refine Owe.lload X565.here hx (hb hby d5_172) rfl ?_
        refine Owe.lmul X565.here hx (hb hby d5_174) rfl ?_
        refine Owe.iconst X565.here hx (hb hby d5_175) (w := (2 : Int32)) rfl ?_
        refine Owe.iload X565.here hx (hb hby d5_176) rfl ?_
        refine Owe.imul X565.here hx (hb hby d5_178) rfl ?_
        refine Owe.sipush X565.here hx (hb hby d5_179) (w := (-2148 : Int32)) rfl ?_
        refine Owe.isub X565.here hx (hb hby d5_182) rfl ?_
        refine Owe.virt X565 hx hZ (y := Y2) (z := Y2) hown (mvT hZ (wd hw 55)) (mvT hZ (wd hw 56)) (mvT hZ (wd hw 58)) (mvT hZ (wd hw 57)) (notFace_of_selects (args := #[]) (mvT hZ (wd hw 58))) (by decide) (backOf (W := 0) (rmfpa l Z a0 hw [] q1 l2 k2 (135 : Int32) vs2 dv2 ac2 (0 : Int32) mv_564 (mm * mm) (0 : Int32) T549.heap n0 Z_562 E_q1_558 Flimbs_q1_559 FadditionsSinceCarry_q1_560 V_l2_561 ge_q1 ge_l2 ne_q1_l2 (own_nac hb2 hbd) (by decide)) hZ (wd hw 59) (wd hw 11) (by decide) (by decide)) (by rw [hml]; rfl) (a := q1) (argsL := [(.int (0 : Int32)), (.long mv_564), (.long (mm * mm)), (.int (0 : Int32))]) (rest := []) E_q1_558 (lenOf pd_2 rfl) rfl (nb rfl) (hb hby d5_183) rfl e565 (by decide) (by decide) fun T566 v566 L566 X566 hQ566 => ?_
        obtain ⟨ws_566, rfl, Nq566, K566, E_a1_566, Flimbs_a1_566, FadditionsSinceCarry_a1_566, V_l1_566⟩ := hQ566
        have N566 := Fr.app N564 Nq566
        have K_567 := K_550.trans K566 (allS (Or.inl (List.mem_of_getElem? (i := 3) rfl)) (allS (Or.inl (List.mem_of_getElem? (i := 4) rfl)) all0))
        have E_a1_568 := E_a1_551.keep K566
        have Fcount_a1_569 := Fcount_a1_552.keep K566 (ninS ne_a1_q1 (ninS ne_a1_l2 nin0))
        have Fleast_a1_570 := Fleast_a1_553.keep K566 (ninS ne_a1_q1 (ninS ne_a1_l2 nin0))
        have Fgreatest_a1_571 := Fgreatest_a1_554.keep K566 (ninS ne_a1_q1 (ninS ne_a1_l2 nin0))
        have Fsum_a1_572 := Fsum_a1_555.keep K566 (ninS ne_a1_q1 (ninS ne_a1_l2 nin0))
        have Fsquares_a1_573 := Fsquares_a1_556.keep K566 (ninS ne_a1_q1 (ninS ne_a1_l2 nin0))
        have E_a1_574 := E_a1_549.keep K566
        have E_q1_575 := E_q1_558.keep K566
        have Flimbs_a1_576 := Flimbs_a1_549.keep K566 (ninS ne_s1_q1 (ninS ne_s1_l2 nin0))
        have FadditionsSinceCarry_a1_577 := FadditionsSinceCarry_a1_549.keep K566 (ninS ne_s1_q1 (ninS ne_s1_l2 nin0))
        have V_l1_578 := V_l1_549.keep K566 (ninS ne_l1_q1 (ninS ne_l1_l2 nin0))
        have Z_579 := Nat.le_trans Z_562 K566.1
        refine Owe.ret0 X566 hx hlk hrt (hb hby d5_186) rfl fun fs hE => ?_
        refine hG _ _ ⟨_, _, rfl, ?_, frameMono hE (by decide) (by decide)⟩
        show Qema1 Z a1 s1 l1 k1 vs1 dv1 ac1 q1 l2 k2 vs2 dv2 ac2 ct ls gr x1 bd h0 n0 _ T566.heap _
        exact ⟨(ac1 + (1 : Int32)), ws_549, (ac2 + (1 : Int32)), ws_566, rfl, N566, K_567, E_a1_568, Fcount_a1_569, Fleast_a1_570, Fgreatest_a1_571, Fsum_a1_572, Fsquares_a1_573, E_a1_574, Flimbs_a1_576, FadditionsSinceCarry_a1_577, V_l1_578, E_a1_566, Flimbs_a1_566, FadditionsSinceCarry_a1_566, V_l1_566, own_as1 hb1 hbd, own_as1 hb2 hbd⟩
    · skip
      refine Owe.ifYes X446.here hx (hb hby d5_86) rfl ((if0 _ _).trans (feq hc86_514).2) (pc' := 95) (by decide) (by decide) ?_
      refine Owe.iload X446.here hx (hb hby d5_95) rfl ?_
      refine Owe.sipush X446.here hx (hb hby d5_97) (w := (1075 : Int32)) rfl ?_
      refine Owe.isub X446.here hx (hb hby d5_100) rfl ?_
      refine Owe.istore X446.here hx (hb hby d5_101) rfl (l' := #[.val (.ref a1), .val (.double x1), .second, .val (.long (x1.toInt64)), .second, .val (.int ee), .val (.long mm), .second, .val (.int (ee - (1075 : Int32))), .unset, .unset, .unset]) rfl ?_
      refine Owe.iload X446.here hx (hb hby d5_103) rfl ?_
      refine Owe.ifNo X446.here hx (hb hby d5_105) rfl ((if0 _ _).trans (feq hc86_514).1) ?_
      refine Owe.lload X446.here hx (hb hby d5_108) rfl ?_
      refine Owe.ldc2L X446 hx (v := (4503599627370496 : Int64)) hown (mvT hZ (wd hw 54)) (hb hby d5_110) ?_
      refine Owe.lor X446.here hx (hb hby d5_113) rfl ?_
      refine Owe.lstore X446.here hx (hb hby d5_114) rfl (l' := #[.val (.ref a1), .val (.double x1), .second, .val (.long (x1.toInt64)), .second, .val (.int ee), .val (.long (mm ||| (4503599627370496 : Int64))), .second, .val (.int (ee - (1075 : Int32))), .unset, .unset, .unset]) rfl ?_
      refine Owe.lloadN X446.here hx (hb hby d5_116) rfl ?_
      refine Owe.lconst X446.here hx (hb hby d5_117) (w := (0 : Int64)) rfl ?_
      refine Owe.lcmp X446.here hx (hb hby d5_118) rfl ?_
      by_cases hc119_580 : (lcmpW (x1.toInt64) (0 : Int64)) < (0 : Int32)
      · skip
        refine Owe.ifNo X446.here hx (hb hby d5_119) rfl ((if0 _ _).trans (tlt hc119_580).2.1) ?_
        refine Owe.iconst X446.here hx (hb hby d5_122) (w := (1 : Int32)) rfl ?_
        refine Owe.goto X446.here hx (hb hby d5_123) (pc' := 127) (by decide) (by decide) ?_
        refine Owe.istore X446.here hx (hb hby d5_127) rfl (l' := #[.val (.ref a1), .val (.double x1), .second, .val (.long (x1.toInt64)), .second, .val (.int ee), .val (.long (mm ||| (4503599627370496 : Int64))), .second, .val (.int (ee - (1075 : Int32))), .val (.int (1 : Int32)), .unset, .unset]) rfl ?_
        refine Owe.aloadN X446.here hx (hb hby d5_129) rfl rfl ?_
        refine Owe.getf X446 hx hZ (host := "") hown (Or.inl (wd hw 19)) Via.refl e446 Fsum_a1_435 (hb hby d5_130) rfl fun T581 X581 e581 => ?_
        refine Owe.iload X581.here hx (hb hby d5_133) rfl ?_
        refine Owe.lconst X581.here hx (hb hby d5_135) (w := (0 : Int64)) rfl ?_
        refine Owe.lload X581.here hx (hb hby d5_136) rfl ?_
        refine Owe.iload X581.here hx (hb hby d5_138) rfl ?_
        refine Owe.sipush X581.here hx (hb hby d5_140) (w := (-1074 : Int32)) rfl ?_
        refine Owe.isub X581.here hx (hb hby d5_143) rfl ?_
        refine Owe.virt X581 hx hZ (y := Y2) (z := Y2) hown (mvT hZ (wd hw 55)) (mvT hZ (wd hw 56)) (mvT hZ (wd hw 58)) (mvT hZ (wd hw 57)) (notFace_of_selects (args := #[]) (mvT hZ (wd hw 58))) (by decide) (backOf (W := 0) (rmfpa l Z a0 hw [] s1 l1 k1 (69 : Int32) vs1 dv1 ac1 (1 : Int32) (0 : Int64) (mm ||| (4503599627370496 : Int64)) ((ee - (1075 : Int32)) - (-1074 : Int32)) h429 n0 Z_445 E_s1_437 Flimbs_s1_438 FadditionsSinceCarry_s1_439 V_l1_440 ge_s1 ge_l1 ne_s1_l1 (own_nac hb1 hbd) (own_q1 hE hc86_514)) hZ (wd hw 59) (wd hw 11) (by decide) (by decide)) (by rw [hml]; rfl) (a := s1) (argsL := [(.int (1 : Int32)), (.long (0 : Int64)), (.long (mm ||| (4503599627370496 : Int64))), (.int ((ee - (1075 : Int32)) - (-1074 : Int32)))]) (rest := []) E_s1_437 (lenOf pd_2 rfl) rfl (nb rfl) (hb hby d5_144) rfl e581 (by decide) (by decide) fun T582 v582 L582 X582 hQ582 => ?_
        obtain ⟨ws_582, rfl, Nq582, K582, E_a1_582, Flimbs_a1_582, FadditionsSinceCarry_a1_582, V_l1_582⟩ := hQ582
        have N582 := Fr.app N429 Nq582
        have K_583 := K_430.trans K582 (allS (Or.inl (List.mem_of_getElem? (i := 1) rfl)) (allS (Or.inl (List.mem_of_getElem? (i := 2) rfl)) all0))
        have E_a1_584 := E_a1_431.keep K582
        have Fcount_a1_585 := Fcount_a1_432.keep K582 (ninS ne_a1_s1 (ninS ne_a1_l1 nin0))
        have Fleast_a1_586 := Fleast_a1_433.keep K582 (ninS ne_a1_s1 (ninS ne_a1_l1 nin0))
        have Fgreatest_a1_587 := Fgreatest_a1_434.keep K582 (ninS ne_a1_s1 (ninS ne_a1_l1 nin0))
        have Fsum_a1_588 := Fsum_a1_435.keep K582 (ninS ne_a1_s1 (ninS ne_a1_l1 nin0))
        have Fsquares_a1_589 := Fsquares_a1_436.keep K582 (ninS ne_a1_s1 (ninS ne_a1_l1 nin0))
        have E_s1_590 := E_s1_437.keep K582
        have E_q1_591 := E_q1_441.keep K582
        have Flimbs_q1_592 := Flimbs_q1_442.keep K582 (ninS (Ne.symm ne_s1_q1) (ninS (Ne.symm ne_l1_q1) nin0))
        have FadditionsSinceCarry_q1_593 := FadditionsSinceCarry_q1_443.keep K582 (ninS (Ne.symm ne_s1_q1) (ninS (Ne.symm ne_l1_q1) nin0))
        have V_l2_594 := V_l2_444.keep K582 (ninS (Ne.symm ne_s1_l2) (ninS (Ne.symm ne_l1_l2) nin0))
        have Z_595 := Nat.le_trans Z_445 K582.1
        refine Owe.aloadN X582.here hx (hb hby d5_147) rfl rfl ?_
        refine Owe.getf X582 hx hZ (host := "") hown (Or.inl (wd hw 27)) Via.refl rfl Fsquares_a1_589 (hb hby d5_148) rfl fun T596 X596 e596 => ?_
        refine Owe.ifnullNo X596.here hx (hb hby d5_151) rfl ?_
        refine Owe.lload X596.here hx (hb hby d5_154) rfl ?_
        refine Owe.lload X596.here hx (hb hby d5_156) rfl ?_
        refine Owe.stat X596 hx (y := Y3) hown (mvT hZ (wd hw 68)) (mvT hZ (wd hw 69)) (mvT hZ (wd hw 44)) (mvT hZ (wd hw 70)) (by decide) (backOf (W := 0) (rmmh l Z a0 hw [] (mm ||| (4503599627370496 : Int64)) (mm ||| (4503599627370496 : Int64)) T582.heap n0 Z_595 ) hZ (wd hw 70) (wd hw 44) (by decide) (by decide)) (by rw [hml]; rfl) (argsL := [(.long (mm ||| (4503599627370496 : Int64))), (.long (mm ||| (4503599627370496 : Int64)))]) (rest := []) (lenOf pd_3 rfl) rfl (nb rfl) (hb hby d5_158) rfl e596 (by decide) (by decide) fun T597 v597 L597 X597 hQ597 => ?_
        obtain ⟨mv_597, rfl, Nq597, e597⟩ := hQ597
        have N597 := Fr.app N582 Nq597
        refine Owe.lstore X597.here hx (hb hby d5_161) rfl (l' := #[.val (.ref a1), .val (.double x1), .second, .val (.long (x1.toInt64)), .second, .val (.int ee), .val (.long (mm ||| (4503599627370496 : Int64))), .second, .val (.int (ee - (1075 : Int32))), .val (.int (1 : Int32)), .val (.long mv_597), .second]) rfl ?_
        refine Owe.aloadN X597.here hx (hb hby d5_163) rfl rfl ?_
        refine Owe.getf X597 hx hZ (host := "") hown (Or.inl (wd hw 27)) Via.refl e597 Fsquares_a1_589 (hb hby d5_164) rfl fun T598 X598 e598 => ?_
        refine Owe.iconst X598.here hx (hb hby d5_167) (w := (0 : Int32)) rfl ?_
        refine Owe.lload X598.here hx (hb hby d5_168) rfl ?_
        refine Owe.lload X598.here hx (hb hby d5_170) rfl ?_
        refine Owe.lload X598.here hx (hb hby d5_172) rfl ?_
        refine Owe.lmul X598.here hx (hb hby d5_174) rfl ?_
        refine Owe.iconst X598.here hx (hb hby d5_175) (w := (2 : Int32)) rfl ?_
        refine Owe.iload X598.here hx (hb hby d5_176) rfl ?_
        refine Owe.imul X598.here hx (hb hby d5_178) rfl ?_
        refine Owe.sipush X598.here hx (hb hby d5_179) (w := (-2148 : Int32)) rfl ?_
        refine Owe.isub X598.here hx (hb hby d5_182) rfl ?_
        refine Owe.virt X598 hx hZ (y := Y2) (z := Y2) hown (mvT hZ (wd hw 55)) (mvT hZ (wd hw 56)) (mvT hZ (wd hw 58)) (mvT hZ (wd hw 57)) (notFace_of_selects (args := #[]) (mvT hZ (wd hw 58))) (by decide) (backOf (W := 0) (rmfpa l Z a0 hw [] q1 l2 k2 (135 : Int32) vs2 dv2 ac2 (0 : Int32) mv_597 ((mm ||| (4503599627370496 : Int64)) * (mm ||| (4503599627370496 : Int64))) (((2 : Int32) * (ee - (1075 : Int32))) - (-2148 : Int32)) T582.heap n0 Z_595 E_q1_591 Flimbs_q1_592 FadditionsSinceCarry_q1_593 V_l2_594 ge_q1 ge_l2 ne_q1_l2 (own_nac hb2 hbd) (own_q2 hE hc86_514)) hZ (wd hw 59) (wd hw 11) (by decide) (by decide)) (by rw [hml]; rfl) (a := q1) (argsL := [(.int (0 : Int32)), (.long mv_597), (.long ((mm ||| (4503599627370496 : Int64)) * (mm ||| (4503599627370496 : Int64)))), (.int (((2 : Int32) * (ee - (1075 : Int32))) - (-2148 : Int32)))]) (rest := []) E_q1_591 (lenOf pd_2 rfl) rfl (nb rfl) (hb hby d5_183) rfl e598 (by decide) (by decide) fun T599 v599 L599 X599 hQ599 => ?_
        obtain ⟨ws_599, rfl, Nq599, K599, E_a1_599, Flimbs_a1_599, FadditionsSinceCarry_a1_599, V_l1_599⟩ := hQ599
        have N599 := Fr.app N597 Nq599
        have K_600 := K_583.trans K599 (allS (Or.inl (List.mem_of_getElem? (i := 3) rfl)) (allS (Or.inl (List.mem_of_getElem? (i := 4) rfl)) all0))
        have E_a1_601 := E_a1_584.keep K599
        have Fcount_a1_602 := Fcount_a1_585.keep K599 (ninS ne_a1_q1 (ninS ne_a1_l2 nin0))
        have Fleast_a1_603 := Fleast_a1_586.keep K599 (ninS ne_a1_q1 (ninS ne_a1_l2 nin0))
        have Fgreatest_a1_604 := Fgreatest_a1_587.keep K599 (ninS ne_a1_q1 (ninS ne_a1_l2 nin0))
        have Fsum_a1_605 := Fsum_a1_588.keep K599 (ninS ne_a1_q1 (ninS ne_a1_l2 nin0))
        have Fsquares_a1_606 := Fsquares_a1_589.keep K599 (ninS ne_a1_q1 (ninS ne_a1_l2 nin0))
        have E_a1_607 := E_a1_582.keep K599
        have E_q1_608 := E_q1_591.keep K599
        have Flimbs_a1_609 := Flimbs_a1_582.keep K599 (ninS ne_s1_q1 (ninS ne_s1_l2 nin0))
        have FadditionsSinceCarry_a1_610 := FadditionsSinceCarry_a1_582.keep K599 (ninS ne_s1_q1 (ninS ne_s1_l2 nin0))
        have V_l1_611 := V_l1_582.keep K599 (ninS ne_l1_q1 (ninS ne_l1_l2 nin0))
        have Z_612 := Nat.le_trans Z_595 K599.1
        refine Owe.ret0 X599 hx hlk hrt (hb hby d5_186) rfl fun fs hE => ?_
        refine hG _ _ ⟨_, _, rfl, ?_, frameMono hE (by decide) (by decide)⟩
        show Qema1 Z a1 s1 l1 k1 vs1 dv1 ac1 q1 l2 k2 vs2 dv2 ac2 ct ls gr x1 bd h0 n0 _ T599.heap _
        exact ⟨(ac1 + (1 : Int32)), ws_582, (ac2 + (1 : Int32)), ws_599, rfl, N599, K_600, E_a1_601, Fcount_a1_602, Fleast_a1_603, Fgreatest_a1_604, Fsum_a1_605, Fsquares_a1_606, E_a1_607, Flimbs_a1_609, FadditionsSinceCarry_a1_610, V_l1_611, E_a1_599, Flimbs_a1_599, FadditionsSinceCarry_a1_599, V_l1_599, own_as1 hb1 hbd, own_as1 hb2 hbd⟩
      · skip
        refine Owe.ifYes X446.here hx (hb hby d5_119) rfl ((if0 _ _).trans (flt hc119_580).2.1) (pc' := 126) (by decide) (by decide) ?_
        refine Owe.iconst X446.here hx (hb hby d5_126) (w := (0 : Int32)) rfl ?_
        refine Owe.istore X446.here hx (hb hby d5_127) rfl (l' := #[.val (.ref a1), .val (.double x1), .second, .val (.long (x1.toInt64)), .second, .val (.int ee), .val (.long (mm ||| (4503599627370496 : Int64))), .second, .val (.int (ee - (1075 : Int32))), .val (.int (0 : Int32)), .unset, .unset]) rfl ?_
        refine Owe.aloadN X446.here hx (hb hby d5_129) rfl rfl ?_
        refine Owe.getf X446 hx hZ (host := "") hown (Or.inl (wd hw 19)) Via.refl e446 Fsum_a1_435 (hb hby d5_130) rfl fun T613 X613 e613 => ?_
        refine Owe.iload X613.here hx (hb hby d5_133) rfl ?_
        refine Owe.lconst X613.here hx (hb hby d5_135) (w := (0 : Int64)) rfl ?_
        refine Owe.lload X613.here hx (hb hby d5_136) rfl ?_
        refine Owe.iload X613.here hx (hb hby d5_138) rfl ?_
        refine Owe.sipush X613.here hx (hb hby d5_140) (w := (-1074 : Int32)) rfl ?_
        refine Owe.isub X613.here hx (hb hby d5_143) rfl ?_
        refine Owe.virt X613 hx hZ (y := Y2) (z := Y2) hown (mvT hZ (wd hw 55)) (mvT hZ (wd hw 56)) (mvT hZ (wd hw 58)) (mvT hZ (wd hw 57)) (notFace_of_selects (args := #[]) (mvT hZ (wd hw 58))) (by decide) (backOf (W := 0) (rmfpa l Z a0 hw [] s1 l1 k1 (69 : Int32) vs1 dv1 ac1 (0 : Int32) (0 : Int64) (mm ||| (4503599627370496 : Int64)) ((ee - (1075 : Int32)) - (-1074 : Int32)) h429 n0 Z_445 E_s1_437 Flimbs_s1_438 FadditionsSinceCarry_s1_439 V_l1_440 ge_s1 ge_l1 ne_s1_l1 (own_nac hb1 hbd) (own_q1 hE hc86_514)) hZ (wd hw 59) (wd hw 11) (by decide) (by decide)) (by rw [hml]; rfl) (a := s1) (argsL := [(.int (0 : Int32)), (.long (0 : Int64)), (.long (mm ||| (4503599627370496 : Int64))), (.int ((ee - (1075 : Int32)) - (-1074 : Int32)))]) (rest := []) E_s1_437 (lenOf pd_2 rfl) rfl (nb rfl) (hb hby d5_144) rfl e613 (by decide) (by decide) fun T614 v614 L614 X614 hQ614 => ?_
        obtain ⟨ws_614, rfl, Nq614, K614, E_a1_614, Flimbs_a1_614, FadditionsSinceCarry_a1_614, V_l1_614⟩ := hQ614
        have N614 := Fr.app N429 Nq614
        have K_615 := K_430.trans K614 (allS (Or.inl (List.mem_of_getElem? (i := 1) rfl)) (allS (Or.inl (List.mem_of_getElem? (i := 2) rfl)) all0))
        have E_a1_616 := E_a1_431.keep K614
        have Fcount_a1_617 := Fcount_a1_432.keep K614 (ninS ne_a1_s1 (ninS ne_a1_l1 nin0))
        have Fleast_a1_618 := Fleast_a1_433.keep K614 (ninS ne_a1_s1 (ninS ne_a1_l1 nin0))
        have Fgreatest_a1_619 := Fgreatest_a1_434.keep K614 (ninS ne_a1_s1 (ninS ne_a1_l1 nin0))
        have Fsum_a1_620 := Fsum_a1_435.keep K614 (ninS ne_a1_s1 (ninS ne_a1_l1 nin0))
        have Fsquares_a1_621 := Fsquares_a1_436.keep K614 (ninS ne_a1_s1 (ninS ne_a1_l1 nin0))
        have E_s1_622 := E_s1_437.keep K614
        have E_q1_623 := E_q1_441.keep K614
        have Flimbs_q1_624 := Flimbs_q1_442.keep K614 (ninS (Ne.symm ne_s1_q1) (ninS (Ne.symm ne_l1_q1) nin0))
        have FadditionsSinceCarry_q1_625 := FadditionsSinceCarry_q1_443.keep K614 (ninS (Ne.symm ne_s1_q1) (ninS (Ne.symm ne_l1_q1) nin0))
        have V_l2_626 := V_l2_444.keep K614 (ninS (Ne.symm ne_s1_l2) (ninS (Ne.symm ne_l1_l2) nin0))
        have Z_627 := Nat.le_trans Z_445 K614.1
        refine Owe.aloadN X614.here hx (hb hby d5_147) rfl rfl ?_
        refine Owe.getf X614 hx hZ (host := "") hown (Or.inl (wd hw 27)) Via.refl rfl Fsquares_a1_621 (hb hby d5_148) rfl fun T628 X628 e628 => ?_
        refine Owe.ifnullNo X628.here hx (hb hby d5_151) rfl ?_
        refine Owe.lload X628.here hx (hb hby d5_154) rfl ?_
        refine Owe.lload X628.here hx (hb hby d5_156) rfl ?_
        refine Owe.stat X628 hx (y := Y3) hown (mvT hZ (wd hw 68)) (mvT hZ (wd hw 69)) (mvT hZ (wd hw 44)) (mvT hZ (wd hw 70)) (by decide) (backOf (W := 0) (rmmh l Z a0 hw [] (mm ||| (4503599627370496 : Int64)) (mm ||| (4503599627370496 : Int64)) T614.heap n0 Z_627 ) hZ (wd hw 70) (wd hw 44) (by decide) (by decide)) (by rw [hml]; rfl) (argsL := [(.long (mm ||| (4503599627370496 : Int64))), (.long (mm ||| (4503599627370496 : Int64)))]) (rest := []) (lenOf pd_3 rfl) rfl (nb rfl) (hb hby d5_158) rfl e628 (by decide) (by decide) fun T629 v629 L629 X629 hQ629 => ?_
        obtain ⟨mv_629, rfl, Nq629, e629⟩ := hQ629
        have N629 := Fr.app N614 Nq629
        refine Owe.lstore X629.here hx (hb hby d5_161) rfl (l' := #[.val (.ref a1), .val (.double x1), .second, .val (.long (x1.toInt64)), .second, .val (.int ee), .val (.long (mm ||| (4503599627370496 : Int64))), .second, .val (.int (ee - (1075 : Int32))), .val (.int (0 : Int32)), .val (.long mv_629), .second]) rfl ?_
        refine Owe.aloadN X629.here hx (hb hby d5_163) rfl rfl ?_
        refine Owe.getf X629 hx hZ (host := "") hown (Or.inl (wd hw 27)) Via.refl e629 Fsquares_a1_621 (hb hby d5_164) rfl fun T630 X630 e630 => ?_
        refine Owe.iconst X630.here hx (hb hby d5_167) (w := (0 : Int32)) rfl ?_
        refine Owe.lload X630.here hx (hb hby d5_168) rfl ?_
        refine Owe.lload X630.here hx (hb hby d5_170) rfl ?_
        refine Owe.lload X630.here hx (hb hby d5_172) rfl ?_
        refine Owe.lmul X630.here hx (hb hby d5_174) rfl ?_
        refine Owe.iconst X630.here hx (hb hby d5_175) (w := (2 : Int32)) rfl ?_
        refine Owe.iload X630.here hx (hb hby d5_176) rfl ?_
        refine Owe.imul X630.here hx (hb hby d5_178) rfl ?_
        refine Owe.sipush X630.here hx (hb hby d5_179) (w := (-2148 : Int32)) rfl ?_
        refine Owe.isub X630.here hx (hb hby d5_182) rfl ?_
        refine Owe.virt X630 hx hZ (y := Y2) (z := Y2) hown (mvT hZ (wd hw 55)) (mvT hZ (wd hw 56)) (mvT hZ (wd hw 58)) (mvT hZ (wd hw 57)) (notFace_of_selects (args := #[]) (mvT hZ (wd hw 58))) (by decide) (backOf (W := 0) (rmfpa l Z a0 hw [] q1 l2 k2 (135 : Int32) vs2 dv2 ac2 (0 : Int32) mv_629 ((mm ||| (4503599627370496 : Int64)) * (mm ||| (4503599627370496 : Int64))) (((2 : Int32) * (ee - (1075 : Int32))) - (-2148 : Int32)) T614.heap n0 Z_627 E_q1_623 Flimbs_q1_624 FadditionsSinceCarry_q1_625 V_l2_626 ge_q1 ge_l2 ne_q1_l2 (own_nac hb2 hbd) (own_q2 hE hc86_514)) hZ (wd hw 59) (wd hw 11) (by decide) (by decide)) (by rw [hml]; rfl) (a := q1) (argsL := [(.int (0 : Int32)), (.long mv_629), (.long ((mm ||| (4503599627370496 : Int64)) * (mm ||| (4503599627370496 : Int64)))), (.int (((2 : Int32) * (ee - (1075 : Int32))) - (-2148 : Int32)))]) (rest := []) E_q1_623 (lenOf pd_2 rfl) rfl (nb rfl) (hb hby d5_183) rfl e630 (by decide) (by decide) fun T631 v631 L631 X631 hQ631 => ?_
        obtain ⟨ws_631, rfl, Nq631, K631, E_a1_631, Flimbs_a1_631, FadditionsSinceCarry_a1_631, V_l1_631⟩ := hQ631
        have N631 := Fr.app N629 Nq631
        have K_632 := K_615.trans K631 (allS (Or.inl (List.mem_of_getElem? (i := 3) rfl)) (allS (Or.inl (List.mem_of_getElem? (i := 4) rfl)) all0))
        have E_a1_633 := E_a1_616.keep K631
        have Fcount_a1_634 := Fcount_a1_617.keep K631 (ninS ne_a1_q1 (ninS ne_a1_l2 nin0))
        have Fleast_a1_635 := Fleast_a1_618.keep K631 (ninS ne_a1_q1 (ninS ne_a1_l2 nin0))
        have Fgreatest_a1_636 := Fgreatest_a1_619.keep K631 (ninS ne_a1_q1 (ninS ne_a1_l2 nin0))
        have Fsum_a1_637 := Fsum_a1_620.keep K631 (ninS ne_a1_q1 (ninS ne_a1_l2 nin0))
        have Fsquares_a1_638 := Fsquares_a1_621.keep K631 (ninS ne_a1_q1 (ninS ne_a1_l2 nin0))
        have E_a1_639 := E_a1_614.keep K631
        have E_q1_640 := E_q1_623.keep K631
        have Flimbs_a1_641 := Flimbs_a1_614.keep K631 (ninS ne_s1_q1 (ninS ne_s1_l2 nin0))
        have FadditionsSinceCarry_a1_642 := FadditionsSinceCarry_a1_614.keep K631 (ninS ne_s1_q1 (ninS ne_s1_l2 nin0))
        have V_l1_643 := V_l1_614.keep K631 (ninS ne_l1_q1 (ninS ne_l1_l2 nin0))
        have Z_644 := Nat.le_trans Z_627 K631.1
        refine Owe.ret0 X631 hx hlk hrt (hb hby d5_186) rfl fun fs hE => ?_
        refine hG _ _ ⟨_, _, rfl, ?_, frameMono hE (by decide) (by decide)⟩
        show Qema1 Z a1 s1 l1 k1 vs1 dv1 ac1 q1 l2 k2 vs2 dv2 ac2 ct ls gr x1 bd h0 n0 _ T631.heap _
        exact ⟨(ac1 + (1 : Int32)), ws_614, (ac2 + (1 : Int32)), ws_631, rfl, N631, K_632, E_a1_633, Fcount_a1_634, Fleast_a1_635, Fgreatest_a1_636, Fsum_a1_637, Fsquares_a1_638, E_a1_639, Flimbs_a1_641, FadditionsSinceCarry_a1_642, V_l1_643, E_a1_631, Flimbs_a1_631, FadditionsSinceCarry_a1_631, V_l1_631, own_as1 hb1 hbd, own_as1 hb2 hbd⟩
theorem d6_0 : decode prog_39_method_6_code 0 = .ok (.aload_n 0, 1) := by decide +kernel
theorem d6_1 : decode prog_39_method_6_code 1 = .ok (.getfield 34, 3) := by decide +kernel
theorem d6_4 : decode prog_39_method_6_code 4 = .ok (.lconst 0, 1) := by decide +kernel
theorem d6_5 : decode prog_39_method_6_code 5 = .ok (.lcmp, 1) := by decide +kernel
theorem d6_6 : decode prog_39_method_6_code 6 = .ok (.ifCond .ne 9, 3) := by decide +kernel
theorem d6_9 : decode prog_39_method_6_code 9 = .ok (.ldc2_w 84, 3) := by decide +kernel
theorem d6_12 : decode prog_39_method_6_code 12 = .ok (.goto 7, 3) := by decide +kernel
theorem d6_15 : decode prog_39_method_6_code 15 = .ok (.aload_n 0, 1) := by decide +kernel
theorem d6_16 : decode prog_39_method_6_code 16 = .ok (.getfield 22, 3) := by decide +kernel
theorem d6_19 : decode prog_39_method_6_code 19 = .ok (.dreturn, 1) := by decide +kernel
theorem ef_gN (m : MethodId) (x0 : Addr)  : entryFrame m #[(.ref x0)] 1 = mkF m 0 #[.val (.ref x0)] [] := by first | (simp [entryFrame, mkF, argsToLocals, Value.category]; done) | rfl
def QgN (Z : State) (a1 : Addr) (gr : UInt64) (h0 : Heap) (n0 : Nat) (v : Option Value) (h : Heap) (L : List Loc) : Prop := v = some (.double (9221120237041090560 : UInt64)) ∧ Fr n0 L ∧ h = h0
set_option maxRecDepth 65536 in
set_option maxHeartbeats 40000000 in
theorem rmgN (l : Launch) (Z : State) (a0 : Array Value) (hw : Hw Z a0) (ws : List Jvm.Cond) (a1 : Addr) (gr : UInt64) (h0 : Heap) (n0 : Nat) (Z0 : n0 ≤ h0.size) (E_a1 : Exa Z h0 a1 "com/example/rill/rill/collectors/ExactMoments") (Fcount_a1 : Fld Z h0 a1 "com/example/rill/rill/collectors/ExactMoments" "count" "J" (.long (0 : Int64))) (Fleast_a1 : Fld Z h0 a1 "com/example/rill/rill/collectors/ExactMoments" "least" "D" (.double gr)) :
    MF l Z Y6 prog_39_method_6_code 1 (some .double) ws ({ frames := 0, cells := 0, slots := 0, locals := 0 } : Room) #[(.ref a1)] h0 (QgN Z a1 gr h0 n0) := by
  refine MF.of (plainFor_of_name pn_1) (fun m => ef_gN m a1) ?_
  intro p e s m below meth c s₁ G X0 e0 hx hby hml hown hnm hlk hrt hZ hnd hG
  have N0 := Fr.nil n0
  refine Owe.aloadN X0.here hx (hb hby d6_0) rfl rfl ?_
  refine Owe.getf X0 hx hZ (host := "") hown (Or.inl (wd hw 34)) Via.refl e0 Fcount_a1 (hb hby d6_1) rfl fun T645 X645 e645 => ?_
  refine Owe.lconst X645.here hx (hb hby d6_4) (w := (0 : Int64)) rfl ?_
  refine Owe.lcmp X645.here hx (hb hby d6_5) rfl ?_
  refine Owe.ifNo X645.here hx (hb hby d6_6) rfl ((if0 _ _).trans (teq (by decide)).2) ?_
  refine Owe.ldc2D X645 hx (v := (9221120237041090560 : UInt64)) hown (mvT hZ (wd hw 36)) (hb hby d6_9) ?_
  refine Owe.goto X645.here hx (hb hby d6_12) (pc' := 19) (by decide) (by decide) ?_
  refine Owe.retD X645 hx hlk hrt (hb hby d6_19) rfl fun fs hE => ?_
  refine hG _ _ ⟨_, _, rfl, ?_, frameMono hE (by decide) (by decide)⟩
  show QgN Z a1 gr h0 n0 _ T645.heap _
  rw [e645]
  exact ⟨rfl, N0, rfl⟩
theorem ef_gY (m : MethodId) (x0 : Addr)  : entryFrame m #[(.ref x0)] 1 = mkF m 0 #[.val (.ref x0)] [] := by first | (simp [entryFrame, mkF, argsToLocals, Value.category]; done) | rfl
def QgY (Z : State) (a1 : Addr) (gr : UInt64) (ct : Int64) (h0 : Heap) (n0 : Nat) (v : Option Value) (h : Heap) (L : List Loc) : Prop := v = some (.double gr) ∧ Fr n0 L ∧ h = h0
set_option maxRecDepth 65536 in
set_option maxHeartbeats 40000000 in
theorem rmgY (l : Launch) (Z : State) (a0 : Array Value) (hw : Hw Z a0) (ws : List Jvm.Cond) (a1 : Addr) (gr : UInt64) (ct : Int64) (h0 : Heap) (n0 : Nat) (Z0 : n0 ≤ h0.size) (E_a1 : Exa Z h0 a1 "com/example/rill/rill/collectors/ExactMoments") (Fcount_a1 : Fld Z h0 a1 "com/example/rill/rill/collectors/ExactMoments" "count" "J" (.long ct)) (Fleast_a1 : Fld Z h0 a1 "com/example/rill/rill/collectors/ExactMoments" "least" "D" (.double gr)) (hct : ¬ (lcmpW ct (0 : Int64)) = (0 : Int32)) :
    MF l Z Y6 prog_39_method_6_code 1 (some .double) ws ({ frames := 0, cells := 0, slots := 0, locals := 0 } : Room) #[(.ref a1)] h0 (QgY Z a1 gr ct h0 n0) := by
  refine MF.of (plainFor_of_name pn_1) (fun m => ef_gY m a1) ?_
  intro p e s m below meth c s₁ G X0 e0 hx hby hml hown hnm hlk hrt hZ hnd hG
  have N0 := Fr.nil n0
  refine Owe.aloadN X0.here hx (hb hby d6_0) rfl rfl ?_
  refine Owe.getf X0 hx hZ (host := "") hown (Or.inl (wd hw 34)) Via.refl e0 Fcount_a1 (hb hby d6_1) rfl fun T646 X646 e646 => ?_
  refine Owe.lconst X646.here hx (hb hby d6_4) (w := (0 : Int64)) rfl ?_
  refine Owe.lcmp X646.here hx (hb hby d6_5) rfl ?_
  refine Owe.ifYes X646.here hx (hb hby d6_6) rfl ((if0 _ _).trans (feq hct).2) (pc' := 15) (by decide) (by decide) ?_
  refine Owe.aloadN X646.here hx (hb hby d6_15) rfl rfl ?_
  refine Owe.getf X646 hx hZ (host := "") hown (Or.inl (wd hw 22)) Via.refl e646 Fleast_a1 (hb hby d6_16) rfl fun T647 X647 e647 => ?_
  refine Owe.retD X647 hx hlk hrt (hb hby d6_19) rfl fun fs hE => ?_
  refine hG _ _ ⟨_, _, rfl, ?_, frameMono hE (by decide) (by decide)⟩
  show QgY Z a1 gr ct h0 n0 _ T647.heap _
  rw [e647]
  exact ⟨rfl, N0, rfl⟩
theorem pn_2 : plainName "com/example/rill/rill/collectors/ExactMomentsLeastPinLaw" = true := by first | (simp [plainName, overriddenIn]; done) | decide +kernel
theorem ef_0 (m : MethodId) (x0 : Int32) (x1 : Int32) (x2 : Int32) (x3 : Int32)  : entryFrame m #[(.int x0), (.int x1), (.int x2), (.int x3)] maxLocals = mkF m 0 #[.val (.int x0), .val (.int x1), .val (.int x2), .val (.int x3), .unset, .unset, .unset, .unset, .unset, .unset] [] := by first | (simp [entryFrame, mkF, argsToLocals, Value.category, maxLocals]; done) | rfl
def Q0 (Z : State) (p1 : Int32) (p2 : Int32) (p3 : Int32) (p4 : Int32) (h0 : Heap) (n0 : Nat) (v : Option Value) (h : Heap) (L : List Loc) : Prop := v = some (.int 1) ∧ Fr n0 L
set_option maxRecDepth 65536 in
set_option maxHeartbeats 40000000 in
theorem rm0 (l : Launch) (Z : State) (a0 : Array Value) (hw : Hw Z a0) (ws : List Jvm.Cond) (p1 : Int32) (p2 : Int32) (p3 : Int32) (p4 : Int32) (h0 : Heap) (n0 : Nat) (Z0 : n0 ≤ h0.size) (Ol : Old Z n0 h0) :
    MetFree l x (head1 (Jvm.Cond.code x code maxLocals ret :: ws) room_1) (fun a U => a = #[(.int p1), (.int p2), (.int p3), (.int p4)] ∧ Z.Warmed39 U.vm ∧ U.heap = h0) (fun _ _ _ _ _ => True) (fun _ U o U' => ∃ v L, o = .returned v ∧ Q0 Z p1 p2 p3 p4 h0 n0 v U'.heap L ∧ FrameEnd U o U' L room_1.cells room_1.slots) := by
  refine MetFree.of_bodySF (plainFor_of_name pn_2) hisR ?_
  intro p e s m args below meth c s₁ Bd hml0 hP hK
  obtain ⟨rfl, hZ, hh⟩ := hP
  have hx := Bd.exec
  have hby := Bd.bytes
  have hml : c.maxLocals = 10 := hml0
  have hown : s.vm.findClass "com/example/rill/rill/collectors/ExactMomentsLeastPinLaw" = some m.cls := findClass_of_methodNamed Bd.named
  have hnm := (name_of_methodNamed Bd.named Bd.method).1
  have hlk : meth.locks = false := BodyLoose.notSynchronized Bd
  have X0 : Stand p l e room_1 s m #[(.int p1), (.int p2), (.int p3), (.int p4)] below meth c s₁ [] 0 0 := Stand.of_body Bd
  have e0 : s₁.heap = h0 := by rw [← hh, Bd.state]; rfl
  have N0 := Fr.nil n0
  have hrt := Bd.returns
  obtain ⟨G, hG⟩ : ∃ G : Outcome → State → Prop, G = fun o u => ∃ v L, o = .returned v ∧ Q0 Z p1 p2 p3 p4 h0 n0 v u.heap L ∧ FrameEnd s o u L room_1.cells room_1.slots := ⟨_, rfl⟩
  suffices hgo : Owe p.tables e below G s₁ (mkF m 0 #[.val (.int p1), .val (.int p2), .val (.int p3), .val (.int p4), .unset, .unset, .unset, .unset, .unset, .unset] []) by
    obtain ⟨u, o, h1, h2, h3, h4⟩ := hgo
    exact ⟨u, o, castTop (ef_0 m p1 p2 p3 p4) h1, h2, h3, by rw [hG] at h4; exact h4⟩
  refine Owe.iloadN X0.here hx (hb hby at_0) rfl ?_
  refine Owe.iconst X0.here hx (hb hby at_1) (w := (1 : Int32)) rfl ?_
  refine Owe.iand X0.here hx (hb hby at_2) rfl ?_
  by_cases hc3_648 : (p1 &&& (1 : Int32)) = (0 : Int32)
  · skip
    refine Owe.ifYes X0.here hx (hb hby at_3) rfl ((if0 _ _).trans (teq hc3_648).1) (pc' := 10) (by decide) (by decide) ?_
    refine Owe.iconst X0.here hx (hb hby at_10) (w := (0 : Int32)) rfl ?_
    refine Owe.istore X0.here hx (hb hby at_11) rfl (l' := #[.val (.int p1), .val (.int p2), .val (.int p3), .val (.int p4), .val (.int (0 : Int32)), .unset, .unset, .unset, .unset, .unset]) rfl ?_
    refine Owe.iloadN X0.here hx (hb hby at_13) rfl ?_
    refine Owe.iconst X0.here hx (hb hby at_14) (w := (1 : Int32)) rfl ?_
    refine Owe.iushr X0.here hx (hb hby at_15) rfl ?_
    refine Owe.iconst X0.here hx (hb hby at_16) (w := (3 : Int32)) rfl ?_
    refine Owe.iand X0.here hx (hb hby at_17) rfl ?_
    rcases own_and3 ((p1.toUInt32 >>> ((1 : Int32) &&& 31).toUInt32).toInt32) with hk | hk | hk | hk
    · rw [hk]
      refine Owe.istore X0.here hx (hb hby at_18) rfl (l' := #[.val (.int p1), .val (.int p2), .val (.int p3), .val (.int p4), .val (.int (0 : Int32)), .val (.int (0 : Int32)), .unset, .unset, .unset, .unset]) rfl ?_
      refine Owe.new X0 hx hZ hown (wd hw 0) (wd hw 1) (wd hw 2) e0 (hb hby at_20) (by decide) (by decide) fun T649 h649 b649 g649 X649 e649 E649 A649 D649 => ?_
      have ge_b649 := Nat.le_trans Z0 (Nat.le_of_eq g649.symm)
      have Ol_650 := Ol.ext E649
      have Z_651 := Nat.le_trans Z0 E649.1
      have Fsum_b649 : Fld Z h649 b649 "com/example/rill/rill/collectors/ExactMoments" "sum" "Lcom/example/rill/rill/collectors/FixedPointSum;" .null := D649 (Or.inr (wd hw 20)) (ty := (.object "com/example/rill/rill/collectors/FixedPointSum")) (by decide)
      have Fleast_b649 : Fld Z h649 b649 "com/example/rill/rill/collectors/ExactMoments" "least" "D" (.double (0 : UInt64)) := D649 (Or.inl (wd hw 23)) (ty := .double) (by decide)
      have Fgreatest_b649 : Fld Z h649 b649 "com/example/rill/rill/collectors/ExactMoments" "greatest" "D" (.double (0 : UInt64)) := D649 (Or.inl (wd hw 26)) (ty := .double) (by decide)
      have Fsquares_b649 : Fld Z h649 b649 "com/example/rill/rill/collectors/ExactMoments" "squares" "Lcom/example/rill/rill/collectors/FixedPointSum;" .null := D649 (Or.inr (wd hw 28)) (ty := (.object "com/example/rill/rill/collectors/FixedPointSum")) (by decide)
      have Fcount_b649 : Fld Z h649 b649 "com/example/rill/rill/collectors/ExactMoments" "count" "J" (.long (0 : Int64)) := D649 (Or.inl (wd hw 35)) (ty := .long) (by decide)
      refine Owe.dup X649.here hx (hb hby at_23) rfl rfl ?_
      refine Owe.iload X649.here hx (hb hby at_24) rfl ?_
      refine Owe.special X649 hx (y := Y4) rfl hown (mvT hZ (wd hw 3)) (mvT hZ (wd hw 4)) (mvT hZ (wd hw 5)) (by decide) (backOf (W := 1) (rmemi0 l Z a0 hw [] b649 h649 n0 Z_651 A649 Fcount_b649 Fleast_b649 Fgreatest_b649 Fsum_b649 Fsquares_b649 ge_b649) hZ (wd hw 5) (wd hw 2) (by decide) (by decide)) (by rw [hml]; rfl) (a := b649) (argsL := [(.int (0 : Int32))]) (rest := [(.ref b649)]) (lenOf pd_4 rfl) rfl (nb rfl) (hb hby at_26) rfl e649 (by decide) (by decide) fun T652 v652 L652 X652 hQ652 => ?_
      obtain ⟨s1_652, l1_652, k1_652, rfl, Nq652, K652, ge_s1_652, fresh_s1_652, ge_l1_652, fresh_l1_652, E_a1_652, Fcount_a1_652, Fleast_a1_652, Fgreatest_a1_652, Fsum_a1_652, Fsquares_a1_652, ne_s1_l1_652, E_s1_652, Flimbs_s1_652, FadditionsSinceCarry_s1_652, V_l1_652⟩ := hQ652
      have N652 := Fr.app N0 Nq652
      have Ol_653 := Ol_650.keep K652 (allS ge_b649 all0)
      have A649_654 := A649.keep K652
      have Z_655 := Nat.le_trans Z_651 K652.1
      have ne_b649_s1_652 : b649 ≠ s1_652 := Nat.ne_of_lt (Nat.lt_of_lt_of_le A649.lt fresh_s1_652)
      have ne_b649_l1_652 : b649 ≠ l1_652 := Nat.ne_of_lt (Nat.lt_of_lt_of_le A649.lt fresh_l1_652)
      refine Owe.astore X652.here hx (hb hby at_29) rfl rfl (l' := #[.val (.int p1), .val (.int p2), .val (.int p3), .val (.int p4), .val (.int (0 : Int32)), .val (.int (0 : Int32)), .val (.ref b649), .unset, .unset, .unset]) rfl ?_
      refine Owe.iload X652.here hx (hb hby at_31) rfl ?_
      refine Owe.iconst X652.here hx (hb hby at_33) (w := (1 : Int32)) rfl ?_
      refine Owe.icmpYes X652.here hx (hb hby at_34) rfl (tlt (by decide)).1 (pc' := 44) (by decide) (by decide) ?_
      refine Owe.iload X652.here hx (hb hby at_44) rfl ?_
      refine Owe.iconst X652.here hx (hb hby at_46) (w := (2 : Int32)) rfl ?_
      refine Owe.icmpYes X652.here hx (hb hby at_47) rfl (tlt (by decide)).1 (pc' := 57) (by decide) (by decide) ?_
      refine Owe.iload X652.here hx (hb hby at_57) rfl ?_
      refine Owe.iconst X652.here hx (hb hby at_59) (w := (3 : Int32)) rfl ?_
      refine Owe.icmpYes X652.here hx (hb hby at_60) rfl (tlt (by decide)).1 (pc' := 70) (by decide) (by decide) ?_
      refine Owe.aload X652.here hx (hb hby at_70) rfl rfl ?_
      refine Owe.virt X652 hx hZ (y := Y6) (z := Y6) hown (mvT hZ (wd hw 29)) (mvT hZ (wd hw 30)) (mvT hZ (wd hw 32)) (mvT hZ (wd hw 31)) (notFace_of_selects (args := #[]) (mvT hZ (wd hw 32))) (by decide) (backOf (W := 0) (rmgN l Z a0 hw [] b649 (9218868437227405312 : UInt64) T652.heap n0 Z_655 E_a1_652 Fcount_a1_652 Fleast_a1_652) hZ (wd hw 33) (wd hw 2) (by decide) (by decide)) (by rw [hml]; rfl) (a := b649) (argsL := []) (rest := []) E_a1_652 (lenOf pd_5 rfl) rfl (nb rfl) (hb hby at_72) rfl rfl (by decide) (by decide) fun T656 v656 L656 X656 hQ656 => ?_
      obtain ⟨rfl, Nq656, e656⟩ := hQ656
      have N656 := Fr.app N652 Nq656
      refine Owe.dstore X656.here hx (hb hby at_75) rfl (l' := #[.val (.int p1), .val (.int p2), .val (.int p3), .val (.int p4), .val (.int (0 : Int32)), .val (.int (0 : Int32)), .val (.ref b649), .val (.double (9221120237041090560 : UInt64)), .second, .unset]) rfl ?_
      refine Owe.iload X656.here hx (hb hby at_77) rfl ?_
      refine Owe.ifNo X656.here hx (hb hby at_79) rfl ((if0 _ _).trans (teq (by decide)).2) ?_
      refine Owe.dload X656.here hx (hb hby at_82) rfl ?_
      refine Owe.dload X656.here hx (hb hby at_84) rfl ?_
      refine Owe.dcmpS X656.here hx (hb hby at_86) rfl rfl ?_
      refine Owe.ifNo X656.here hx (hb hby at_87) rfl ((if0 _ _).trans (feq (by decide +kernel)).1) ?_
      refine Owe.iconst X656.here hx (hb hby at_90) (w := (1 : Int32)) rfl ?_
      refine Owe.goto X656.here hx (hb hby at_91) (pc' := 95) (by decide) (by decide) ?_
      refine Owe.retN X656 hx hlk (t := .boolean) hrt (by simp) (hb hby at_95) rfl fun fs hE => ?_
      rw [hG]
      refine ⟨_, _, rfl, ?_, frameMono hE (by decide) (by decide)⟩
      show Q0 Z p1 p2 p3 p4 h0 n0 _ T656.heap _
      rw [e656]
      exact ⟨rfl, N656⟩
    · rw [hk]
      refine Owe.istore X0.here hx (hb hby at_18) rfl (l' := #[.val (.int p1), .val (.int p2), .val (.int p3), .val (.int p4), .val (.int (0 : Int32)), .val (.int (1 : Int32)), .unset, .unset, .unset, .unset]) rfl ?_
      refine Owe.new X0 hx hZ hown (wd hw 0) (wd hw 1) (wd hw 2) e0 (hb hby at_20) (by decide) (by decide) fun T657 h657 b657 g657 X657 e657 E657 A657 D657 => ?_
      have ge_b657 := Nat.le_trans Z0 (Nat.le_of_eq g657.symm)
      have Ol_658 := Ol.ext E657
      have Z_659 := Nat.le_trans Z0 E657.1
      have Fsum_b657 : Fld Z h657 b657 "com/example/rill/rill/collectors/ExactMoments" "sum" "Lcom/example/rill/rill/collectors/FixedPointSum;" .null := D657 (Or.inr (wd hw 20)) (ty := (.object "com/example/rill/rill/collectors/FixedPointSum")) (by decide)
      have Fleast_b657 : Fld Z h657 b657 "com/example/rill/rill/collectors/ExactMoments" "least" "D" (.double (0 : UInt64)) := D657 (Or.inl (wd hw 23)) (ty := .double) (by decide)
      have Fgreatest_b657 : Fld Z h657 b657 "com/example/rill/rill/collectors/ExactMoments" "greatest" "D" (.double (0 : UInt64)) := D657 (Or.inl (wd hw 26)) (ty := .double) (by decide)
      have Fsquares_b657 : Fld Z h657 b657 "com/example/rill/rill/collectors/ExactMoments" "squares" "Lcom/example/rill/rill/collectors/FixedPointSum;" .null := D657 (Or.inr (wd hw 28)) (ty := (.object "com/example/rill/rill/collectors/FixedPointSum")) (by decide)
      have Fcount_b657 : Fld Z h657 b657 "com/example/rill/rill/collectors/ExactMoments" "count" "J" (.long (0 : Int64)) := D657 (Or.inl (wd hw 35)) (ty := .long) (by decide)
      refine Owe.dup X657.here hx (hb hby at_23) rfl rfl ?_
      refine Owe.iload X657.here hx (hb hby at_24) rfl ?_
      refine Owe.special X657 hx (y := Y4) rfl hown (mvT hZ (wd hw 3)) (mvT hZ (wd hw 4)) (mvT hZ (wd hw 5)) (by decide) (backOf (W := 1) (rmemi0 l Z a0 hw [] b657 h657 n0 Z_659 A657 Fcount_b657 Fleast_b657 Fgreatest_b657 Fsum_b657 Fsquares_b657 ge_b657) hZ (wd hw 5) (wd hw 2) (by decide) (by decide)) (by rw [hml]; rfl) (a := b657) (argsL := [(.int (0 : Int32))]) (rest := [(.ref b657)]) (lenOf pd_4 rfl) rfl (nb rfl) (hb hby at_26) rfl e657 (by decide) (by decide) fun T660 v660 L660 X660 hQ660 => ?_
      obtain ⟨s1_660, l1_660, k1_660, rfl, Nq660, K660, ge_s1_660, fresh_s1_660, ge_l1_660, fresh_l1_660, E_a1_660, Fcount_a1_660, Fleast_a1_660, Fgreatest_a1_660, Fsum_a1_660, Fsquares_a1_660, ne_s1_l1_660, E_s1_660, Flimbs_s1_660, FadditionsSinceCarry_s1_660, V_l1_660⟩ := hQ660
      have N660 := Fr.app N0 Nq660
      have Ol_661 := Ol_658.keep K660 (allS ge_b657 all0)
      have A657_662 := A657.keep K660
      have Z_663 := Nat.le_trans Z_659 K660.1
      have ne_b657_s1_660 : b657 ≠ s1_660 := Nat.ne_of_lt (Nat.lt_of_lt_of_le A657.lt fresh_s1_660)
      have ne_b657_l1_660 : b657 ≠ l1_660 := Nat.ne_of_lt (Nat.lt_of_lt_of_le A657.lt fresh_l1_660)
      refine Owe.astore X660.here hx (hb hby at_29) rfl rfl (l' := #[.val (.int p1), .val (.int p2), .val (.int p3), .val (.int p4), .val (.int (0 : Int32)), .val (.int (1 : Int32)), .val (.ref b657), .unset, .unset, .unset]) rfl ?_
      refine Owe.iload X660.here hx (hb hby at_31) rfl ?_
      refine Owe.iconst X660.here hx (hb hby at_33) (w := (1 : Int32)) rfl ?_
      refine Owe.icmpNo X660.here hx (hb hby at_34) rfl (flt (by decide)).1 ?_
      refine Owe.aload X660.here hx (hb hby at_37) rfl rfl ?_
      refine Owe.iloadN X660.here hx (hb hby at_39) rfl ?_
      refine Owe.i2dS X660.here hx (hb hby at_40) rfl rfl ?_
      refine Owe.virt X660 hx hZ (y := Y5) (z := Y5) hown (mvT hZ (wd hw 37)) (mvT hZ (wd hw 38)) (mvT hZ (wd hw 40)) (mvT hZ (wd hw 39)) (notFace_of_selects (args := #[]) (mvT hZ (wd hw 40))) (by decide) (backOf (W := 0) (rmema0 l Z a0 hw [] b657 s1_660 l1_660 k1_660 [] (.long (0 : Int64)) (0 : Int32) (0 : Int64) (9218868437227405312 : UInt64) (18442240474082181120 : UInt64) (FP.i2d p2) 0 T660.heap n0 Z_663 E_a1_660 Fcount_a1_660 Fleast_a1_660 Fgreatest_a1_660 Fsum_a1_660 Fsquares_a1_660 E_s1_660 Flimbs_s1_660 FadditionsSinceCarry_s1_660 V_l1_660 ge_b657 ge_s1_660 ge_l1_660 ne_b657_s1_660 ne_b657_l1_660 ne_s1_l1_660 (by decide +kernel) (by decide +kernel) (own_nnx _) (Jvm.Free.Fl.i2d_mag _) (by decide) (by decide)) hZ (wd hw 41) (wd hw 2) (by decide) (by decide)) (by rw [hml]; rfl) (a := b657) (argsL := [(.double (FP.i2d p2))]) (rest := []) E_a1_660 (lenOf pd_6 rfl) rfl (nb rfl) (hb hby at_41) rfl rfl (by decide) (by decide) fun T664 v664 L664 X664 hQ664 => ?_
      obtain ⟨ac1n_664, ws1_664, rfl, Nq664, K664, E_a1_664, Fcount_a1_664, Fleast_a1_664, Fgreatest_a1_664, Fsum_a1_664, Fsquares_a1_664, E_s1_664, Flimbs_s1_664, FadditionsSinceCarry_s1_664, V_l1_664, hb1n_664⟩ := hQ664
      have N664 := Fr.app N660 Nq664
      have Ol_665 := Ol_661.keep K664 (allS ge_b657 (allS ge_s1_660 (allS ge_l1_660 all0)))
      have E_a1_666 := E_a1_660.keep K664
      have E_s1_667 := E_s1_660.keep K664
      have Z_668 := Nat.le_trans Z_663 K664.1
      refine Owe.iload X664.here hx (hb hby at_44) rfl ?_
      refine Owe.iconst X664.here hx (hb hby at_46) (w := (2 : Int32)) rfl ?_
      refine Owe.icmpYes X664.here hx (hb hby at_47) rfl (tlt (by decide)).1 (pc' := 57) (by decide) (by decide) ?_
      refine Owe.iload X664.here hx (hb hby at_57) rfl ?_
      refine Owe.iconst X664.here hx (hb hby at_59) (w := (3 : Int32)) rfl ?_
      refine Owe.icmpYes X664.here hx (hb hby at_60) rfl (tlt (by decide)).1 (pc' := 70) (by decide) (by decide) ?_
      refine Owe.aload X664.here hx (hb hby at_70) rfl rfl ?_
      refine Owe.virt X664 hx hZ (y := Y6) (z := Y6) hown (mvT hZ (wd hw 29)) (mvT hZ (wd hw 30)) (mvT hZ (wd hw 32)) (mvT hZ (wd hw 31)) (notFace_of_selects (args := #[]) (mvT hZ (wd hw 32))) (by decide) (backOf (W := 0) (rmgY l Z a0 hw [] b657 (pick64 false (9218868437227405312 : UInt64) (FP.i2d p2)) ((0 : Int64) + (1 : Int64)) T664.heap n0 Z_668 E_a1_664 Fcount_a1_664 Fleast_a1_664 (by decide)) hZ (wd hw 33) (wd hw 2) (by decide) (by decide)) (by rw [hml]; rfl) (a := b657) (argsL := []) (rest := []) E_a1_664 (lenOf pd_5 rfl) rfl (nb rfl) (hb hby at_72) rfl rfl (by decide) (by decide) fun T669 v669 L669 X669 hQ669 => ?_
      obtain ⟨rfl, Nq669, e669⟩ := hQ669
      have N669 := Fr.app N664 Nq669
      refine Owe.dstore X669.here hx (hb hby at_75) rfl (l' := #[.val (.int p1), .val (.int p2), .val (.int p3), .val (.int p4), .val (.int (0 : Int32)), .val (.int (1 : Int32)), .val (.ref b657), .val (.double (pick64 false (9218868437227405312 : UInt64) (FP.i2d p2))), .second, .unset]) rfl ?_
      refine Owe.iload X669.here hx (hb hby at_77) rfl ?_
      refine Owe.ifYes X669.here hx (hb hby at_79) rfl ((if0 _ _).trans (feq (by decide)).2) (pc' := 96) (by decide) (by decide) ?_
      refine Owe.iloadN X669.here hx (hb hby at_96) rfl ?_
      refine Owe.istore X669.here hx (hb hby at_97) rfl (l' := #[.val (.int p1), .val (.int p2), .val (.int p3), .val (.int p4), .val (.int (0 : Int32)), .val (.int (1 : Int32)), .val (.ref b657), .val (.double (pick64 false (9218868437227405312 : UInt64) (FP.i2d p2))), .second, .val (.int p2)]) rfl ?_
      refine Owe.iload X669.here hx (hb hby at_99) rfl ?_
      refine Owe.iconst X669.here hx (hb hby at_101) (w := (2 : Int32)) rfl ?_
      refine Owe.icmpYes X669.here hx (hb hby at_102) rfl (tlt (by decide)).1 (pc' := 114) (by decide) (by decide) ?_
      refine Owe.iload X669.here hx (hb hby at_114) rfl ?_
      refine Owe.iconst X669.here hx (hb hby at_116) (w := (3 : Int32)) rfl ?_
      refine Owe.icmpYes X669.here hx (hb hby at_117) rfl (tlt (by decide)).1 (pc' := 129) (by decide) (by decide) ?_
      refine Owe.dload X669.here hx (hb hby at_129) rfl ?_
      refine Owe.iload X669.here hx (hb hby at_131) rfl ?_
      refine Owe.i2dS X669.here hx (hb hby at_133) rfl rfl ?_
      refine Owe.dcmpS X669.here hx (hb hby at_134) rfl rfl ?_
      refine Owe.ifNo X669.here hx (hb hby at_135) rfl ((if0 _ _).trans (teq (by rw [own_m1]; exact own_self _ _)).2) ?_
      refine Owe.iconst X669.here hx (hb hby at_138) (w := (1 : Int32)) rfl ?_
      refine Owe.goto X669.here hx (hb hby at_139) (pc' := 143) (by decide) (by decide) ?_
      refine Owe.retN X669 hx hlk (t := .boolean) hrt (by simp) (hb hby at_143) rfl fun fs hE => ?_
      rw [hG]
      refine ⟨_, _, rfl, ?_, frameMono hE (by decide) (by decide)⟩
      show Q0 Z p1 p2 p3 p4 h0 n0 _ T669.heap _
      rw [e669]
      exact ⟨rfl, N669⟩
    · rw [hk]
      refine Owe.istore X0.here hx (hb hby at_18) rfl (l' := #[.val (.int p1), .val (.int p2), .val (.int p3), .val (.int p4), .val (.int (0 : Int32)), .val (.int (2 : Int32)), .unset, .unset, .unset, .unset]) rfl ?_
      refine Owe.new X0 hx hZ hown (wd hw 0) (wd hw 1) (wd hw 2) e0 (hb hby at_20) (by decide) (by decide) fun T670 h670 b670 g670 X670 e670 E670 A670 D670 => ?_
      have ge_b670 := Nat.le_trans Z0 (Nat.le_of_eq g670.symm)
      have Ol_671 := Ol.ext E670
      have Z_672 := Nat.le_trans Z0 E670.1
      have Fsum_b670 : Fld Z h670 b670 "com/example/rill/rill/collectors/ExactMoments" "sum" "Lcom/example/rill/rill/collectors/FixedPointSum;" .null := D670 (Or.inr (wd hw 20)) (ty := (.object "com/example/rill/rill/collectors/FixedPointSum")) (by decide)
      have Fleast_b670 : Fld Z h670 b670 "com/example/rill/rill/collectors/ExactMoments" "least" "D" (.double (0 : UInt64)) := D670 (Or.inl (wd hw 23)) (ty := .double) (by decide)
      have Fgreatest_b670 : Fld Z h670 b670 "com/example/rill/rill/collectors/ExactMoments" "greatest" "D" (.double (0 : UInt64)) := D670 (Or.inl (wd hw 26)) (ty := .double) (by decide)
      have Fsquares_b670 : Fld Z h670 b670 "com/example/rill/rill/collectors/ExactMoments" "squares" "Lcom/example/rill/rill/collectors/FixedPointSum;" .null := D670 (Or.inr (wd hw 28)) (ty := (.object "com/example/rill/rill/collectors/FixedPointSum")) (by decide)
      have Fcount_b670 : Fld Z h670 b670 "com/example/rill/rill/collectors/ExactMoments" "count" "J" (.long (0 : Int64)) := D670 (Or.inl (wd hw 35)) (ty := .long) (by decide)
      refine Owe.dup X670.here hx (hb hby at_23) rfl rfl ?_
      refine Owe.iload X670.here hx (hb hby at_24) rfl ?_
      refine Owe.special X670 hx (y := Y4) rfl hown (mvT hZ (wd hw 3)) (mvT hZ (wd hw 4)) (mvT hZ (wd hw 5)) (by decide) (backOf (W := 1) (rmemi0 l Z a0 hw [] b670 h670 n0 Z_672 A670 Fcount_b670 Fleast_b670 Fgreatest_b670 Fsum_b670 Fsquares_b670 ge_b670) hZ (wd hw 5) (wd hw 2) (by decide) (by decide)) (by rw [hml]; rfl) (a := b670) (argsL := [(.int (0 : Int32))]) (rest := [(.ref b670)]) (lenOf pd_4 rfl) rfl (nb rfl) (hb hby at_26) rfl e670 (by decide) (by decide) fun T673 v673 L673 X673 hQ673 => ?_
      obtain ⟨s1_673, l1_673, k1_673, rfl, Nq673, K673, ge_s1_673, fresh_s1_673, ge_l1_673, fresh_l1_673, E_a1_673, Fcount_a1_673, Fleast_a1_673, Fgreatest_a1_673, Fsum_a1_673, Fsquares_a1_673, ne_s1_l1_673, E_s1_673, Flimbs_s1_673, FadditionsSinceCarry_s1_673, V_l1_673⟩ := hQ673
      have N673 := Fr.app N0 Nq673
      have Ol_674 := Ol_671.keep K673 (allS ge_b670 all0)
      have A670_675 := A670.keep K673
      have Z_676 := Nat.le_trans Z_672 K673.1
      have ne_b670_s1_673 : b670 ≠ s1_673 := Nat.ne_of_lt (Nat.lt_of_lt_of_le A670.lt fresh_s1_673)
      have ne_b670_l1_673 : b670 ≠ l1_673 := Nat.ne_of_lt (Nat.lt_of_lt_of_le A670.lt fresh_l1_673)
      refine Owe.astore X673.here hx (hb hby at_29) rfl rfl (l' := #[.val (.int p1), .val (.int p2), .val (.int p3), .val (.int p4), .val (.int (0 : Int32)), .val (.int (2 : Int32)), .val (.ref b670), .unset, .unset, .unset]) rfl ?_
      refine Owe.iload X673.here hx (hb hby at_31) rfl ?_
      refine Owe.iconst X673.here hx (hb hby at_33) (w := (1 : Int32)) rfl ?_
      refine Owe.icmpNo X673.here hx (hb hby at_34) rfl (flt (by decide)).1 ?_
      refine Owe.aload X673.here hx (hb hby at_37) rfl rfl ?_
      refine Owe.iloadN X673.here hx (hb hby at_39) rfl ?_
      refine Owe.i2dS X673.here hx (hb hby at_40) rfl rfl ?_
      refine Owe.virt X673 hx hZ (y := Y5) (z := Y5) hown (mvT hZ (wd hw 37)) (mvT hZ (wd hw 38)) (mvT hZ (wd hw 40)) (mvT hZ (wd hw 39)) (notFace_of_selects (args := #[]) (mvT hZ (wd hw 40))) (by decide) (backOf (W := 0) (rmema0 l Z a0 hw [] b670 s1_673 l1_673 k1_673 [] (.long (0 : Int64)) (0 : Int32) (0 : Int64) (9218868437227405312 : UInt64) (18442240474082181120 : UInt64) (FP.i2d p2) 0 T673.heap n0 Z_676 E_a1_673 Fcount_a1_673 Fleast_a1_673 Fgreatest_a1_673 Fsum_a1_673 Fsquares_a1_673 E_s1_673 Flimbs_s1_673 FadditionsSinceCarry_s1_673 V_l1_673 ge_b670 ge_s1_673 ge_l1_673 ne_b670_s1_673 ne_b670_l1_673 ne_s1_l1_673 (by decide +kernel) (by decide +kernel) (own_nnx _) (Jvm.Free.Fl.i2d_mag _) (by decide) (by decide)) hZ (wd hw 41) (wd hw 2) (by decide) (by decide)) (by rw [hml]; rfl) (a := b670) (argsL := [(.double (FP.i2d p2))]) (rest := []) E_a1_673 (lenOf pd_6 rfl) rfl (nb rfl) (hb hby at_41) rfl rfl (by decide) (by decide) fun T677 v677 L677 X677 hQ677 => ?_
      obtain ⟨ac1n_677, ws1_677, rfl, Nq677, K677, E_a1_677, Fcount_a1_677, Fleast_a1_677, Fgreatest_a1_677, Fsum_a1_677, Fsquares_a1_677, E_s1_677, Flimbs_s1_677, FadditionsSinceCarry_s1_677, V_l1_677, hb1n_677⟩ := hQ677
      have N677 := Fr.app N673 Nq677
      have Ol_678 := Ol_674.keep K677 (allS ge_b670 (allS ge_s1_673 (allS ge_l1_673 all0)))
      have E_a1_679 := E_a1_673.keep K677
      have E_s1_680 := E_s1_673.keep K677
      have Z_681 := Nat.le_trans Z_676 K677.1
      refine Owe.iload X677.here hx (hb hby at_44) rfl ?_
      refine Owe.iconst X677.here hx (hb hby at_46) (w := (2 : Int32)) rfl ?_
      refine Owe.icmpNo X677.here hx (hb hby at_47) rfl (flt (by decide)).1 ?_
      refine Owe.aload X677.here hx (hb hby at_50) rfl rfl ?_
      refine Owe.iloadN X677.here hx (hb hby at_52) rfl ?_
      refine Owe.i2dS X677.here hx (hb hby at_53) rfl rfl ?_
      refine Owe.virt X677 hx hZ (y := Y5) (z := Y5) hown (mvT hZ (wd hw 37)) (mvT hZ (wd hw 38)) (mvT hZ (wd hw 40)) (mvT hZ (wd hw 39)) (notFace_of_selects (args := #[]) (mvT hZ (wd hw 40))) (by decide) (backOf (W := 0) (rmema0 l Z a0 hw [] b670 s1_673 l1_673 k1_673 ws1_677 (.long (0 : Int64)) ac1n_677 ((0 : Int64) + (1 : Int64)) (pick64 false (9218868437227405312 : UInt64) (FP.i2d p2)) (pick64 true (18442240474082181120 : UInt64) (FP.i2d p2)) (FP.i2d p3) (0 + 1) T677.heap n0 Z_681 E_a1_677 Fcount_a1_677 Fleast_a1_677 Fgreatest_a1_677 Fsum_a1_677 Fsquares_a1_677 E_s1_677 Flimbs_s1_677 FadditionsSinceCarry_s1_677 V_l1_677 ge_b670 ge_s1_673 ge_l1_673 ne_b670_s1_673 ne_b670_l1_673 ne_s1_l1_673 (own_nnp (by decide +kernel) (own_nnx _)) (own_nnp (by decide +kernel) (own_nnx _)) (own_nnx _) (Jvm.Free.Fl.i2d_mag _) (by decide) hb1n_677) hZ (wd hw 41) (wd hw 2) (by decide) (by decide)) (by rw [hml]; rfl) (a := b670) (argsL := [(.double (FP.i2d p3))]) (rest := []) E_a1_677 (lenOf pd_6 rfl) rfl (nb rfl) (hb hby at_54) rfl rfl (by decide) (by decide) fun T682 v682 L682 X682 hQ682 => ?_
      obtain ⟨ac1n_682, ws1_682, rfl, Nq682, K682, E_a1_682, Fcount_a1_682, Fleast_a1_682, Fgreatest_a1_682, Fsum_a1_682, Fsquares_a1_682, E_s1_682, Flimbs_s1_682, FadditionsSinceCarry_s1_682, V_l1_682, hb1n_682⟩ := hQ682
      have N682 := Fr.app N677 Nq682
      have Ol_683 := Ol_678.keep K682 (allS ge_b670 (allS ge_s1_673 (allS ge_l1_673 all0)))
      have E_a1_684 := E_a1_677.keep K682
      have E_s1_685 := E_s1_677.keep K682
      have Z_686 := Nat.le_trans Z_681 K682.1
      refine Owe.iload X682.here hx (hb hby at_57) rfl ?_
      refine Owe.iconst X682.here hx (hb hby at_59) (w := (3 : Int32)) rfl ?_
      refine Owe.icmpYes X682.here hx (hb hby at_60) rfl (tlt (by decide)).1 (pc' := 70) (by decide) (by decide) ?_
      refine Owe.aload X682.here hx (hb hby at_70) rfl rfl ?_
      refine Owe.virt X682 hx hZ (y := Y6) (z := Y6) hown (mvT hZ (wd hw 29)) (mvT hZ (wd hw 30)) (mvT hZ (wd hw 32)) (mvT hZ (wd hw 31)) (notFace_of_selects (args := #[]) (mvT hZ (wd hw 32))) (by decide) (backOf (W := 0) (rmgY l Z a0 hw [] b670 (pick64 false (pick64 false (9218868437227405312 : UInt64) (FP.i2d p2)) (FP.i2d p3)) (((0 : Int64) + (1 : Int64)) + (1 : Int64)) T682.heap n0 Z_686 E_a1_682 Fcount_a1_682 Fleast_a1_682 (by decide)) hZ (wd hw 33) (wd hw 2) (by decide) (by decide)) (by rw [hml]; rfl) (a := b670) (argsL := []) (rest := []) E_a1_682 (lenOf pd_5 rfl) rfl (nb rfl) (hb hby at_72) rfl rfl (by decide) (by decide) fun T687 v687 L687 X687 hQ687 => ?_
      obtain ⟨rfl, Nq687, e687⟩ := hQ687
      have N687 := Fr.app N682 Nq687
      refine Owe.dstore X687.here hx (hb hby at_75) rfl (l' := #[.val (.int p1), .val (.int p2), .val (.int p3), .val (.int p4), .val (.int (0 : Int32)), .val (.int (2 : Int32)), .val (.ref b670), .val (.double (pick64 false (pick64 false (9218868437227405312 : UInt64) (FP.i2d p2)) (FP.i2d p3))), .second, .unset]) rfl ?_
      refine Owe.iload X687.here hx (hb hby at_77) rfl ?_
      refine Owe.ifYes X687.here hx (hb hby at_79) rfl ((if0 _ _).trans (feq (by decide)).2) (pc' := 96) (by decide) (by decide) ?_
      refine Owe.iloadN X687.here hx (hb hby at_96) rfl ?_
      refine Owe.istore X687.here hx (hb hby at_97) rfl (l' := #[.val (.int p1), .val (.int p2), .val (.int p3), .val (.int p4), .val (.int (0 : Int32)), .val (.int (2 : Int32)), .val (.ref b670), .val (.double (pick64 false (pick64 false (9218868437227405312 : UInt64) (FP.i2d p2)) (FP.i2d p3))), .second, .val (.int p2)]) rfl ?_
      refine Owe.iload X687.here hx (hb hby at_99) rfl ?_
      refine Owe.iconst X687.here hx (hb hby at_101) (w := (2 : Int32)) rfl ?_
      refine Owe.icmpNo X687.here hx (hb hby at_102) rfl (flt (by decide)).1 ?_
      refine Owe.iloadN X687.here hx (hb hby at_105) rfl ?_
      refine Owe.iload X687.here hx (hb hby at_106) rfl ?_
      by_cases hc108_688 : p3 < p2
      · skip
        refine Owe.icmpNo X687.here hx (hb hby at_108) rfl (tlt hc108_688).2.1 ?_
        refine Owe.iloadN X687.here hx (hb hby at_111) rfl ?_
        refine Owe.istore X687.here hx (hb hby at_112) rfl (l' := #[.val (.int p1), .val (.int p2), .val (.int p3), .val (.int p4), .val (.int (0 : Int32)), .val (.int (2 : Int32)), .val (.ref b670), .val (.double (pick64 false (pick64 false (9218868437227405312 : UInt64) (FP.i2d p2)) (FP.i2d p3))), .second, .val (.int p3)]) rfl ?_
        refine Owe.iload X687.here hx (hb hby at_114) rfl ?_
        refine Owe.iconst X687.here hx (hb hby at_116) (w := (3 : Int32)) rfl ?_
        refine Owe.icmpYes X687.here hx (hb hby at_117) rfl (tlt (by decide)).1 (pc' := 129) (by decide) (by decide) ?_
        refine Owe.dload X687.here hx (hb hby at_129) rfl ?_
        refine Owe.iload X687.here hx (hb hby at_131) rfl ?_
        refine Owe.i2dS X687.here hx (hb hby at_133) rfl rfl ?_
        refine Owe.dcmpS X687.here hx (hb hby at_134) rfl rfl ?_
        refine Owe.ifNo X687.here hx (hb hby at_135) rfl ((if0 _ _).trans (teq (by rw [own_m1, own_mlt hc108_688]; exact own_self _ _)).2) ?_
        refine Owe.iconst X687.here hx (hb hby at_138) (w := (1 : Int32)) rfl ?_
        refine Owe.goto X687.here hx (hb hby at_139) (pc' := 143) (by decide) (by decide) ?_
        refine Owe.retN X687 hx hlk (t := .boolean) hrt (by simp) (hb hby at_143) rfl fun fs hE => ?_
        rw [hG]
        refine ⟨_, _, rfl, ?_, frameMono hE (by decide) (by decide)⟩
        show Q0 Z p1 p2 p3 p4 h0 n0 _ T687.heap _
        rw [e687]
        exact ⟨rfl, N687⟩
      · skip
        refine Owe.icmpYes X687.here hx (hb hby at_108) rfl (flt hc108_688).2.1 (pc' := 114) (by decide) (by decide) ?_
        refine Owe.iload X687.here hx (hb hby at_114) rfl ?_
        refine Owe.iconst X687.here hx (hb hby at_116) (w := (3 : Int32)) rfl ?_
        refine Owe.icmpYes X687.here hx (hb hby at_117) rfl (tlt (by decide)).1 (pc' := 129) (by decide) (by decide) ?_
        refine Owe.dload X687.here hx (hb hby at_129) rfl ?_
        refine Owe.iload X687.here hx (hb hby at_131) rfl ?_
        refine Owe.i2dS X687.here hx (hb hby at_133) rfl rfl ?_
        refine Owe.dcmpS X687.here hx (hb hby at_134) rfl rfl ?_
        refine Owe.ifNo X687.here hx (hb hby at_135) rfl ((if0 _ _).trans (teq (by rw [own_m1, own_mge hc108_688]; exact own_self _ _)).2) ?_
        refine Owe.iconst X687.here hx (hb hby at_138) (w := (1 : Int32)) rfl ?_
        refine Owe.goto X687.here hx (hb hby at_139) (pc' := 143) (by decide) (by decide) ?_
        refine Owe.retN X687 hx hlk (t := .boolean) hrt (by simp) (hb hby at_143) rfl fun fs hE => ?_
        rw [hG]
        refine ⟨_, _, rfl, ?_, frameMono hE (by decide) (by decide)⟩
        show Q0 Z p1 p2 p3 p4 h0 n0 _ T687.heap _
        rw [e687]
        exact ⟨rfl, N687⟩
    · rw [hk]
      refine Owe.istore X0.here hx (hb hby at_18) rfl (l' := #[.val (.int p1), .val (.int p2), .val (.int p3), .val (.int p4), .val (.int (0 : Int32)), .val (.int (3 : Int32)), .unset, .unset, .unset, .unset]) rfl ?_
      refine Owe.new X0 hx hZ hown (wd hw 0) (wd hw 1) (wd hw 2) e0 (hb hby at_20) (by decide) (by decide) fun T689 h689 b689 g689 X689 e689 E689 A689 D689 => ?_
      have ge_b689 := Nat.le_trans Z0 (Nat.le_of_eq g689.symm)
      have Ol_690 := Ol.ext E689
      have Z_691 := Nat.le_trans Z0 E689.1
      have Fsum_b689 : Fld Z h689 b689 "com/example/rill/rill/collectors/ExactMoments" "sum" "Lcom/example/rill/rill/collectors/FixedPointSum;" .null := D689 (Or.inr (wd hw 20)) (ty := (.object "com/example/rill/rill/collectors/FixedPointSum")) (by decide)
      have Fleast_b689 : Fld Z h689 b689 "com/example/rill/rill/collectors/ExactMoments" "least" "D" (.double (0 : UInt64)) := D689 (Or.inl (wd hw 23)) (ty := .double) (by decide)
      have Fgreatest_b689 : Fld Z h689 b689 "com/example/rill/rill/collectors/ExactMoments" "greatest" "D" (.double (0 : UInt64)) := D689 (Or.inl (wd hw 26)) (ty := .double) (by decide)
      have Fsquares_b689 : Fld Z h689 b689 "com/example/rill/rill/collectors/ExactMoments" "squares" "Lcom/example/rill/rill/collectors/FixedPointSum;" .null := D689 (Or.inr (wd hw 28)) (ty := (.object "com/example/rill/rill/collectors/FixedPointSum")) (by decide)
      have Fcount_b689 : Fld Z h689 b689 "com/example/rill/rill/collectors/ExactMoments" "count" "J" (.long (0 : Int64)) := D689 (Or.inl (wd hw 35)) (ty := .long) (by decide)
      refine Owe.dup X689.here hx (hb hby at_23) rfl rfl ?_
      refine Owe.iload X689.here hx (hb hby at_24) rfl ?_
      refine Owe.special X689 hx (y := Y4) rfl hown (mvT hZ (wd hw 3)) (mvT hZ (wd hw 4)) (mvT hZ (wd hw 5)) (by decide) (backOf (W := 1) (rmemi0 l Z a0 hw [] b689 h689 n0 Z_691 A689 Fcount_b689 Fleast_b689 Fgreatest_b689 Fsum_b689 Fsquares_b689 ge_b689) hZ (wd hw 5) (wd hw 2) (by decide) (by decide)) (by rw [hml]; rfl) (a := b689) (argsL := [(.int (0 : Int32))]) (rest := [(.ref b689)]) (lenOf pd_4 rfl) rfl (nb rfl) (hb hby at_26) rfl e689 (by decide) (by decide) fun T692 v692 L692 X692 hQ692 => ?_
      obtain ⟨s1_692, l1_692, k1_692, rfl, Nq692, K692, ge_s1_692, fresh_s1_692, ge_l1_692, fresh_l1_692, E_a1_692, Fcount_a1_692, Fleast_a1_692, Fgreatest_a1_692, Fsum_a1_692, Fsquares_a1_692, ne_s1_l1_692, E_s1_692, Flimbs_s1_692, FadditionsSinceCarry_s1_692, V_l1_692⟩ := hQ692
      have N692 := Fr.app N0 Nq692
      have Ol_693 := Ol_690.keep K692 (allS ge_b689 all0)
      have A689_694 := A689.keep K692
      have Z_695 := Nat.le_trans Z_691 K692.1
      have ne_b689_s1_692 : b689 ≠ s1_692 := Nat.ne_of_lt (Nat.lt_of_lt_of_le A689.lt fresh_s1_692)
      have ne_b689_l1_692 : b689 ≠ l1_692 := Nat.ne_of_lt (Nat.lt_of_lt_of_le A689.lt fresh_l1_692)
      refine Owe.astore X692.here hx (hb hby at_29) rfl rfl (l' := #[.val (.int p1), .val (.int p2), .val (.int p3), .val (.int p4), .val (.int (0 : Int32)), .val (.int (3 : Int32)), .val (.ref b689), .unset, .unset, .unset]) rfl ?_
      refine Owe.iload X692.here hx (hb hby at_31) rfl ?_
      refine Owe.iconst X692.here hx (hb hby at_33) (w := (1 : Int32)) rfl ?_
      refine Owe.icmpNo X692.here hx (hb hby at_34) rfl (flt (by decide)).1 ?_
      refine Owe.aload X692.here hx (hb hby at_37) rfl rfl ?_
      refine Owe.iloadN X692.here hx (hb hby at_39) rfl ?_
      refine Owe.i2dS X692.here hx (hb hby at_40) rfl rfl ?_
      refine Owe.virt X692 hx hZ (y := Y5) (z := Y5) hown (mvT hZ (wd hw 37)) (mvT hZ (wd hw 38)) (mvT hZ (wd hw 40)) (mvT hZ (wd hw 39)) (notFace_of_selects (args := #[]) (mvT hZ (wd hw 40))) (by decide) (backOf (W := 0) (rmema0 l Z a0 hw [] b689 s1_692 l1_692 k1_692 [] (.long (0 : Int64)) (0 : Int32) (0 : Int64) (9218868437227405312 : UInt64) (18442240474082181120 : UInt64) (FP.i2d p2) 0 T692.heap n0 Z_695 E_a1_692 Fcount_a1_692 Fleast_a1_692 Fgreatest_a1_692 Fsum_a1_692 Fsquares_a1_692 E_s1_692 Flimbs_s1_692 FadditionsSinceCarry_s1_692 V_l1_692 ge_b689 ge_s1_692 ge_l1_692 ne_b689_s1_692 ne_b689_l1_692 ne_s1_l1_692 (by decide +kernel) (by decide +kernel) (own_nnx _) (Jvm.Free.Fl.i2d_mag _) (by decide) (by decide)) hZ (wd hw 41) (wd hw 2) (by decide) (by decide)) (by rw [hml]; rfl) (a := b689) (argsL := [(.double (FP.i2d p2))]) (rest := []) E_a1_692 (lenOf pd_6 rfl) rfl (nb rfl) (hb hby at_41) rfl rfl (by decide) (by decide) fun T696 v696 L696 X696 hQ696 => ?_
      obtain ⟨ac1n_696, ws1_696, rfl, Nq696, K696, E_a1_696, Fcount_a1_696, Fleast_a1_696, Fgreatest_a1_696, Fsum_a1_696, Fsquares_a1_696, E_s1_696, Flimbs_s1_696, FadditionsSinceCarry_s1_696, V_l1_696, hb1n_696⟩ := hQ696
      have N696 := Fr.app N692 Nq696
      have Ol_697 := Ol_693.keep K696 (allS ge_b689 (allS ge_s1_692 (allS ge_l1_692 all0)))
      have E_a1_698 := E_a1_692.keep K696
      have E_s1_699 := E_s1_692.keep K696
      have Z_700 := Nat.le_trans Z_695 K696.1
      refine Owe.iload X696.here hx (hb hby at_44) rfl ?_
      refine Owe.iconst X696.here hx (hb hby at_46) (w := (2 : Int32)) rfl ?_
      refine Owe.icmpNo X696.here hx (hb hby at_47) rfl (flt (by decide)).1 ?_
      refine Owe.aload X696.here hx (hb hby at_50) rfl rfl ?_
      refine Owe.iloadN X696.here hx (hb hby at_52) rfl ?_
      refine Owe.i2dS X696.here hx (hb hby at_53) rfl rfl ?_
      refine Owe.virt X696 hx hZ (y := Y5) (z := Y5) hown (mvT hZ (wd hw 37)) (mvT hZ (wd hw 38)) (mvT hZ (wd hw 40)) (mvT hZ (wd hw 39)) (notFace_of_selects (args := #[]) (mvT hZ (wd hw 40))) (by decide) (backOf (W := 0) (rmema0 l Z a0 hw [] b689 s1_692 l1_692 k1_692 ws1_696 (.long (0 : Int64)) ac1n_696 ((0 : Int64) + (1 : Int64)) (pick64 false (9218868437227405312 : UInt64) (FP.i2d p2)) (pick64 true (18442240474082181120 : UInt64) (FP.i2d p2)) (FP.i2d p3) (0 + 1) T696.heap n0 Z_700 E_a1_696 Fcount_a1_696 Fleast_a1_696 Fgreatest_a1_696 Fsum_a1_696 Fsquares_a1_696 E_s1_696 Flimbs_s1_696 FadditionsSinceCarry_s1_696 V_l1_696 ge_b689 ge_s1_692 ge_l1_692 ne_b689_s1_692 ne_b689_l1_692 ne_s1_l1_692 (own_nnp (by decide +kernel) (own_nnx _)) (own_nnp (by decide +kernel) (own_nnx _)) (own_nnx _) (Jvm.Free.Fl.i2d_mag _) (by decide) hb1n_696) hZ (wd hw 41) (wd hw 2) (by decide) (by decide)) (by rw [hml]; rfl) (a := b689) (argsL := [(.double (FP.i2d p3))]) (rest := []) E_a1_696 (lenOf pd_6 rfl) rfl (nb rfl) (hb hby at_54) rfl rfl (by decide) (by decide) fun T701 v701 L701 X701 hQ701 => ?_
      obtain ⟨ac1n_701, ws1_701, rfl, Nq701, K701, E_a1_701, Fcount_a1_701, Fleast_a1_701, Fgreatest_a1_701, Fsum_a1_701, Fsquares_a1_701, E_s1_701, Flimbs_s1_701, FadditionsSinceCarry_s1_701, V_l1_701, hb1n_701⟩ := hQ701
      have N701 := Fr.app N696 Nq701
      have Ol_702 := Ol_697.keep K701 (allS ge_b689 (allS ge_s1_692 (allS ge_l1_692 all0)))
      have E_a1_703 := E_a1_696.keep K701
      have E_s1_704 := E_s1_696.keep K701
      have Z_705 := Nat.le_trans Z_700 K701.1
      refine Owe.iload X701.here hx (hb hby at_57) rfl ?_
      refine Owe.iconst X701.here hx (hb hby at_59) (w := (3 : Int32)) rfl ?_
      refine Owe.icmpNo X701.here hx (hb hby at_60) rfl (flt (by decide)).1 ?_
      refine Owe.aload X701.here hx (hb hby at_63) rfl rfl ?_
      refine Owe.iloadN X701.here hx (hb hby at_65) rfl ?_
      refine Owe.i2dS X701.here hx (hb hby at_66) rfl rfl ?_
      refine Owe.virt X701 hx hZ (y := Y5) (z := Y5) hown (mvT hZ (wd hw 37)) (mvT hZ (wd hw 38)) (mvT hZ (wd hw 40)) (mvT hZ (wd hw 39)) (notFace_of_selects (args := #[]) (mvT hZ (wd hw 40))) (by decide) (backOf (W := 0) (rmema0 l Z a0 hw [] b689 s1_692 l1_692 k1_692 ws1_701 (.long (0 : Int64)) ac1n_701 (((0 : Int64) + (1 : Int64)) + (1 : Int64)) (pick64 false (pick64 false (9218868437227405312 : UInt64) (FP.i2d p2)) (FP.i2d p3)) (pick64 true (pick64 true (18442240474082181120 : UInt64) (FP.i2d p2)) (FP.i2d p3)) (FP.i2d p4) ((0 + 1) + 1) T701.heap n0 Z_705 E_a1_701 Fcount_a1_701 Fleast_a1_701 Fgreatest_a1_701 Fsum_a1_701 Fsquares_a1_701 E_s1_701 Flimbs_s1_701 FadditionsSinceCarry_s1_701 V_l1_701 ge_b689 ge_s1_692 ge_l1_692 ne_b689_s1_692 ne_b689_l1_692 ne_s1_l1_692 (own_nnp (own_nnp (by decide +kernel) (own_nnx _)) (own_nnx _)) (own_nnp (own_nnp (by decide +kernel) (own_nnx _)) (own_nnx _)) (own_nnx _) (Jvm.Free.Fl.i2d_mag _) (by decide) hb1n_701) hZ (wd hw 41) (wd hw 2) (by decide) (by decide)) (by rw [hml]; rfl) (a := b689) (argsL := [(.double (FP.i2d p4))]) (rest := []) E_a1_701 (lenOf pd_6 rfl) rfl (nb rfl) (hb hby at_67) rfl rfl (by decide) (by decide) fun T706 v706 L706 X706 hQ706 => ?_
      obtain ⟨ac1n_706, ws1_706, rfl, Nq706, K706, E_a1_706, Fcount_a1_706, Fleast_a1_706, Fgreatest_a1_706, Fsum_a1_706, Fsquares_a1_706, E_s1_706, Flimbs_s1_706, FadditionsSinceCarry_s1_706, V_l1_706, hb1n_706⟩ := hQ706
      have N706 := Fr.app N701 Nq706
      have Ol_707 := Ol_702.keep K706 (allS ge_b689 (allS ge_s1_692 (allS ge_l1_692 all0)))
      have E_a1_708 := E_a1_701.keep K706
      have E_s1_709 := E_s1_701.keep K706
      have Z_710 := Nat.le_trans Z_705 K706.1
      refine Owe.aload X706.here hx (hb hby at_70) rfl rfl ?_
      refine Owe.virt X706 hx hZ (y := Y6) (z := Y6) hown (mvT hZ (wd hw 29)) (mvT hZ (wd hw 30)) (mvT hZ (wd hw 32)) (mvT hZ (wd hw 31)) (notFace_of_selects (args := #[]) (mvT hZ (wd hw 32))) (by decide) (backOf (W := 0) (rmgY l Z a0 hw [] b689 (pick64 false (pick64 false (pick64 false (9218868437227405312 : UInt64) (FP.i2d p2)) (FP.i2d p3)) (FP.i2d p4)) ((((0 : Int64) + (1 : Int64)) + (1 : Int64)) + (1 : Int64)) T706.heap n0 Z_710 E_a1_706 Fcount_a1_706 Fleast_a1_706 (by decide)) hZ (wd hw 33) (wd hw 2) (by decide) (by decide)) (by rw [hml]; rfl) (a := b689) (argsL := []) (rest := []) E_a1_706 (lenOf pd_5 rfl) rfl (nb rfl) (hb hby at_72) rfl rfl (by decide) (by decide) fun T711 v711 L711 X711 hQ711 => ?_
      obtain ⟨rfl, Nq711, e711⟩ := hQ711
      have N711 := Fr.app N706 Nq711
      refine Owe.dstore X711.here hx (hb hby at_75) rfl (l' := #[.val (.int p1), .val (.int p2), .val (.int p3), .val (.int p4), .val (.int (0 : Int32)), .val (.int (3 : Int32)), .val (.ref b689), .val (.double (pick64 false (pick64 false (pick64 false (9218868437227405312 : UInt64) (FP.i2d p2)) (FP.i2d p3)) (FP.i2d p4))), .second, .unset]) rfl ?_
      refine Owe.iload X711.here hx (hb hby at_77) rfl ?_
      refine Owe.ifYes X711.here hx (hb hby at_79) rfl ((if0 _ _).trans (feq (by decide)).2) (pc' := 96) (by decide) (by decide) ?_
      refine Owe.iloadN X711.here hx (hb hby at_96) rfl ?_
      refine Owe.istore X711.here hx (hb hby at_97) rfl (l' := #[.val (.int p1), .val (.int p2), .val (.int p3), .val (.int p4), .val (.int (0 : Int32)), .val (.int (3 : Int32)), .val (.ref b689), .val (.double (pick64 false (pick64 false (pick64 false (9218868437227405312 : UInt64) (FP.i2d p2)) (FP.i2d p3)) (FP.i2d p4))), .second, .val (.int p2)]) rfl ?_
      refine Owe.iload X711.here hx (hb hby at_99) rfl ?_
      refine Owe.iconst X711.here hx (hb hby at_101) (w := (2 : Int32)) rfl ?_
      refine Owe.icmpNo X711.here hx (hb hby at_102) rfl (flt (by decide)).1 ?_
      refine Owe.iloadN X711.here hx (hb hby at_105) rfl ?_
      refine Owe.iload X711.here hx (hb hby at_106) rfl ?_
      by_cases hc108_712 : p3 < p2
      · skip
        refine Owe.icmpNo X711.here hx (hb hby at_108) rfl (tlt hc108_712).2.1 ?_
        refine Owe.iloadN X711.here hx (hb hby at_111) rfl ?_
        refine Owe.istore X711.here hx (hb hby at_112) rfl (l' := #[.val (.int p1), .val (.int p2), .val (.int p3), .val (.int p4), .val (.int (0 : Int32)), .val (.int (3 : Int32)), .val (.ref b689), .val (.double (pick64 false (pick64 false (pick64 false (9218868437227405312 : UInt64) (FP.i2d p2)) (FP.i2d p3)) (FP.i2d p4))), .second, .val (.int p3)]) rfl ?_
        refine Owe.iload X711.here hx (hb hby at_114) rfl ?_
        refine Owe.iconst X711.here hx (hb hby at_116) (w := (3 : Int32)) rfl ?_
        refine Owe.icmpNo X711.here hx (hb hby at_117) rfl (flt (by decide)).1 ?_
        refine Owe.iloadN X711.here hx (hb hby at_120) rfl ?_
        refine Owe.iload X711.here hx (hb hby at_121) rfl ?_
        by_cases hc123_713 : p4 < p3
        · skip
          refine Owe.icmpNo X711.here hx (hb hby at_123) rfl (tlt hc123_713).2.1 ?_
          refine Owe.iloadN X711.here hx (hb hby at_126) rfl ?_
          refine Owe.istore X711.here hx (hb hby at_127) rfl (l' := #[.val (.int p1), .val (.int p2), .val (.int p3), .val (.int p4), .val (.int (0 : Int32)), .val (.int (3 : Int32)), .val (.ref b689), .val (.double (pick64 false (pick64 false (pick64 false (9218868437227405312 : UInt64) (FP.i2d p2)) (FP.i2d p3)) (FP.i2d p4))), .second, .val (.int p4)]) rfl ?_
          refine Owe.dload X711.here hx (hb hby at_129) rfl ?_
          refine Owe.iload X711.here hx (hb hby at_131) rfl ?_
          refine Owe.i2dS X711.here hx (hb hby at_133) rfl rfl ?_
          refine Owe.dcmpS X711.here hx (hb hby at_134) rfl rfl ?_
          refine Owe.ifNo X711.here hx (hb hby at_135) rfl ((if0 _ _).trans (teq (by rw [own_m1, own_mlt hc108_712, own_mlt hc123_713]; exact own_self _ _)).2) ?_
          refine Owe.iconst X711.here hx (hb hby at_138) (w := (1 : Int32)) rfl ?_
          refine Owe.goto X711.here hx (hb hby at_139) (pc' := 143) (by decide) (by decide) ?_
          refine Owe.retN X711 hx hlk (t := .boolean) hrt (by simp) (hb hby at_143) rfl fun fs hE => ?_
          rw [hG]
          refine ⟨_, _, rfl, ?_, frameMono hE (by decide) (by decide)⟩
          show Q0 Z p1 p2 p3 p4 h0 n0 _ T711.heap _
          rw [e711]
          exact ⟨rfl, N711⟩
        · skip
          refine Owe.icmpYes X711.here hx (hb hby at_123) rfl (flt hc123_713).2.1 (pc' := 129) (by decide) (by decide) ?_
          refine Owe.dload X711.here hx (hb hby at_129) rfl ?_
          refine Owe.iload X711.here hx (hb hby at_131) rfl ?_
          refine Owe.i2dS X711.here hx (hb hby at_133) rfl rfl ?_
          refine Owe.dcmpS X711.here hx (hb hby at_134) rfl rfl ?_
          refine Owe.ifNo X711.here hx (hb hby at_135) rfl ((if0 _ _).trans (teq (by rw [own_m1, own_mlt hc108_712, own_mge hc123_713]; exact own_self _ _)).2) ?_
          refine Owe.iconst X711.here hx (hb hby at_138) (w := (1 : Int32)) rfl ?_
          refine Owe.goto X711.here hx (hb hby at_139) (pc' := 143) (by decide) (by decide) ?_
          refine Owe.retN X711 hx hlk (t := .boolean) hrt (by simp) (hb hby at_143) rfl fun fs hE => ?_
          rw [hG]
          refine ⟨_, _, rfl, ?_, frameMono hE (by decide) (by decide)⟩
          show Q0 Z p1 p2 p3 p4 h0 n0 _ T711.heap _
          rw [e711]
          exact ⟨rfl, N711⟩
      · skip
        refine Owe.icmpYes X711.here hx (hb hby at_108) rfl (flt hc108_712).2.1 (pc' := 114) (by decide) (by decide) ?_
        refine Owe.iload X711.here hx (hb hby at_114) rfl ?_
        refine Owe.iconst X711.here hx (hb hby at_116) (w := (3 : Int32)) rfl ?_
        refine Owe.icmpNo X711.here hx (hb hby at_117) rfl (flt (by decide)).1 ?_
        refine Owe.iloadN X711.here hx (hb hby at_120) rfl ?_
        refine Owe.iload X711.here hx (hb hby at_121) rfl ?_
        by_cases hc123_714 : p4 < p2
        · skip
          refine Owe.icmpNo X711.here hx (hb hby at_123) rfl (tlt hc123_714).2.1 ?_
          refine Owe.iloadN X711.here hx (hb hby at_126) rfl ?_
          refine Owe.istore X711.here hx (hb hby at_127) rfl (l' := #[.val (.int p1), .val (.int p2), .val (.int p3), .val (.int p4), .val (.int (0 : Int32)), .val (.int (3 : Int32)), .val (.ref b689), .val (.double (pick64 false (pick64 false (pick64 false (9218868437227405312 : UInt64) (FP.i2d p2)) (FP.i2d p3)) (FP.i2d p4))), .second, .val (.int p4)]) rfl ?_
          refine Owe.dload X711.here hx (hb hby at_129) rfl ?_
          refine Owe.iload X711.here hx (hb hby at_131) rfl ?_
          refine Owe.i2dS X711.here hx (hb hby at_133) rfl rfl ?_
          refine Owe.dcmpS X711.here hx (hb hby at_134) rfl rfl ?_
          refine Owe.ifNo X711.here hx (hb hby at_135) rfl ((if0 _ _).trans (teq (by rw [own_m1, own_mge hc108_712, own_mlt hc123_714]; exact own_self _ _)).2) ?_
          refine Owe.iconst X711.here hx (hb hby at_138) (w := (1 : Int32)) rfl ?_
          refine Owe.goto X711.here hx (hb hby at_139) (pc' := 143) (by decide) (by decide) ?_
          refine Owe.retN X711 hx hlk (t := .boolean) hrt (by simp) (hb hby at_143) rfl fun fs hE => ?_
          rw [hG]
          refine ⟨_, _, rfl, ?_, frameMono hE (by decide) (by decide)⟩
          show Q0 Z p1 p2 p3 p4 h0 n0 _ T711.heap _
          rw [e711]
          exact ⟨rfl, N711⟩
        · skip
          refine Owe.icmpYes X711.here hx (hb hby at_123) rfl (flt hc123_714).2.1 (pc' := 129) (by decide) (by decide) ?_
          refine Owe.dload X711.here hx (hb hby at_129) rfl ?_
          refine Owe.iload X711.here hx (hb hby at_131) rfl ?_
          refine Owe.i2dS X711.here hx (hb hby at_133) rfl rfl ?_
          refine Owe.dcmpS X711.here hx (hb hby at_134) rfl rfl ?_
          refine Owe.ifNo X711.here hx (hb hby at_135) rfl ((if0 _ _).trans (teq (by rw [own_m1, own_mge hc108_712, own_mge hc123_714]; exact own_self _ _)).2) ?_
          refine Owe.iconst X711.here hx (hb hby at_138) (w := (1 : Int32)) rfl ?_
          refine Owe.goto X711.here hx (hb hby at_139) (pc' := 143) (by decide) (by decide) ?_
          refine Owe.retN X711 hx hlk (t := .boolean) hrt (by simp) (hb hby at_143) rfl fun fs hE => ?_
          rw [hG]
          refine ⟨_, _, rfl, ?_, frameMono hE (by decide) (by decide)⟩
          show Q0 Z p1 p2 p3 p4 h0 n0 _ T711.heap _
          rw [e711]
          exact ⟨rfl, N711⟩
  · skip
    refine Owe.ifNo X0.here hx (hb hby at_3) rfl ((if0 _ _).trans (feq hc3_648).1) ?_
    refine Owe.iconst X0.here hx (hb hby at_6) (w := (1 : Int32)) rfl ?_
    refine Owe.goto X0.here hx (hb hby at_7) (pc' := 11) (by decide) (by decide) ?_
    refine Owe.istore X0.here hx (hb hby at_11) rfl (l' := #[.val (.int p1), .val (.int p2), .val (.int p3), .val (.int p4), .val (.int (1 : Int32)), .unset, .unset, .unset, .unset, .unset]) rfl ?_
    refine Owe.iloadN X0.here hx (hb hby at_13) rfl ?_
    refine Owe.iconst X0.here hx (hb hby at_14) (w := (1 : Int32)) rfl ?_
    refine Owe.iushr X0.here hx (hb hby at_15) rfl ?_
    refine Owe.iconst X0.here hx (hb hby at_16) (w := (3 : Int32)) rfl ?_
    refine Owe.iand X0.here hx (hb hby at_17) rfl ?_
    rcases own_and3 ((p1.toUInt32 >>> ((1 : Int32) &&& 31).toUInt32).toInt32) with hk | hk | hk | hk
    · rw [hk]
      refine Owe.istore X0.here hx (hb hby at_18) rfl (l' := #[.val (.int p1), .val (.int p2), .val (.int p3), .val (.int p4), .val (.int (1 : Int32)), .val (.int (0 : Int32)), .unset, .unset, .unset, .unset]) rfl ?_
      refine Owe.new X0 hx hZ hown (wd hw 0) (wd hw 1) (wd hw 2) e0 (hb hby at_20) (by decide) (by decide) fun T715 h715 b715 g715 X715 e715 E715 A715 D715 => ?_
      have ge_b715 := Nat.le_trans Z0 (Nat.le_of_eq g715.symm)
      have Ol_716 := Ol.ext E715
      have Z_717 := Nat.le_trans Z0 E715.1
      have Fsum_b715 : Fld Z h715 b715 "com/example/rill/rill/collectors/ExactMoments" "sum" "Lcom/example/rill/rill/collectors/FixedPointSum;" .null := D715 (Or.inr (wd hw 20)) (ty := (.object "com/example/rill/rill/collectors/FixedPointSum")) (by decide)
      have Fleast_b715 : Fld Z h715 b715 "com/example/rill/rill/collectors/ExactMoments" "least" "D" (.double (0 : UInt64)) := D715 (Or.inl (wd hw 23)) (ty := .double) (by decide)
      have Fgreatest_b715 : Fld Z h715 b715 "com/example/rill/rill/collectors/ExactMoments" "greatest" "D" (.double (0 : UInt64)) := D715 (Or.inl (wd hw 26)) (ty := .double) (by decide)
      have Fsquares_b715 : Fld Z h715 b715 "com/example/rill/rill/collectors/ExactMoments" "squares" "Lcom/example/rill/rill/collectors/FixedPointSum;" .null := D715 (Or.inr (wd hw 28)) (ty := (.object "com/example/rill/rill/collectors/FixedPointSum")) (by decide)
      have Fcount_b715 : Fld Z h715 b715 "com/example/rill/rill/collectors/ExactMoments" "count" "J" (.long (0 : Int64)) := D715 (Or.inl (wd hw 35)) (ty := .long) (by decide)
      refine Owe.dup X715.here hx (hb hby at_23) rfl rfl ?_
      refine Owe.iload X715.here hx (hb hby at_24) rfl ?_
      refine Owe.special X715 hx (y := Y4) rfl hown (mvT hZ (wd hw 3)) (mvT hZ (wd hw 4)) (mvT hZ (wd hw 5)) (by decide) (backOf (W := 1) (rmemi1 l Z a0 hw [] b715 h715 n0 Z_717 A715 Fcount_b715 Fleast_b715 Fgreatest_b715 Fsum_b715 Fsquares_b715 ge_b715) hZ (wd hw 5) (wd hw 2) (by decide) (by decide)) (by rw [hml]; rfl) (a := b715) (argsL := [(.int (1 : Int32))]) (rest := [(.ref b715)]) (lenOf pd_4 rfl) rfl (nb rfl) (hb hby at_26) rfl e715 (by decide) (by decide) fun T718 v718 L718 X718 hQ718 => ?_
      obtain ⟨s1_718, l1_718, k1_718, q1_718, l2_718, k2_718, rfl, Nq718, K718, ge_s1_718, fresh_s1_718, ge_l1_718, fresh_l1_718, ge_q1_718, fresh_q1_718, ge_l2_718, fresh_l2_718, E_a1_718, Fcount_a1_718, Fleast_a1_718, Fgreatest_a1_718, Fsum_a1_718, Fsquares_a1_718, ne_s1_l1_718, ne_s1_q1_718, ne_s1_l2_718, ne_l1_q1_718, ne_l1_l2_718, ne_q1_l2_718, E_s1_718, Flimbs_s1_718, FadditionsSinceCarry_s1_718, V_l1_718, E_q1_718, Flimbs_q1_718, FadditionsSinceCarry_q1_718, V_l2_718⟩ := hQ718
      have N718 := Fr.app N0 Nq718
      have Ol_719 := Ol_716.keep K718 (allS ge_b715 all0)
      have A715_720 := A715.keep K718
      have Z_721 := Nat.le_trans Z_717 K718.1
      have ne_b715_s1_718 : b715 ≠ s1_718 := Nat.ne_of_lt (Nat.lt_of_lt_of_le A715.lt fresh_s1_718)
      have ne_b715_l1_718 : b715 ≠ l1_718 := Nat.ne_of_lt (Nat.lt_of_lt_of_le A715.lt fresh_l1_718)
      have ne_b715_q1_718 : b715 ≠ q1_718 := Nat.ne_of_lt (Nat.lt_of_lt_of_le A715.lt fresh_q1_718)
      have ne_b715_l2_718 : b715 ≠ l2_718 := Nat.ne_of_lt (Nat.lt_of_lt_of_le A715.lt fresh_l2_718)
      refine Owe.astore X718.here hx (hb hby at_29) rfl rfl (l' := #[.val (.int p1), .val (.int p2), .val (.int p3), .val (.int p4), .val (.int (1 : Int32)), .val (.int (0 : Int32)), .val (.ref b715), .unset, .unset, .unset]) rfl ?_
      refine Owe.iload X718.here hx (hb hby at_31) rfl ?_
      refine Owe.iconst X718.here hx (hb hby at_33) (w := (1 : Int32)) rfl ?_
      refine Owe.icmpYes X718.here hx (hb hby at_34) rfl (tlt (by decide)).1 (pc' := 44) (by decide) (by decide) ?_
      refine Owe.iload X718.here hx (hb hby at_44) rfl ?_
      refine Owe.iconst X718.here hx (hb hby at_46) (w := (2 : Int32)) rfl ?_
      refine Owe.icmpYes X718.here hx (hb hby at_47) rfl (tlt (by decide)).1 (pc' := 57) (by decide) (by decide) ?_
      refine Owe.iload X718.here hx (hb hby at_57) rfl ?_
      refine Owe.iconst X718.here hx (hb hby at_59) (w := (3 : Int32)) rfl ?_
      refine Owe.icmpYes X718.here hx (hb hby at_60) rfl (tlt (by decide)).1 (pc' := 70) (by decide) (by decide) ?_
      refine Owe.aload X718.here hx (hb hby at_70) rfl rfl ?_
      refine Owe.virt X718 hx hZ (y := Y6) (z := Y6) hown (mvT hZ (wd hw 29)) (mvT hZ (wd hw 30)) (mvT hZ (wd hw 32)) (mvT hZ (wd hw 31)) (notFace_of_selects (args := #[]) (mvT hZ (wd hw 32))) (by decide) (backOf (W := 0) (rmgN l Z a0 hw [] b715 (9218868437227405312 : UInt64) T718.heap n0 Z_721 E_a1_718 Fcount_a1_718 Fleast_a1_718) hZ (wd hw 33) (wd hw 2) (by decide) (by decide)) (by rw [hml]; rfl) (a := b715) (argsL := []) (rest := []) E_a1_718 (lenOf pd_5 rfl) rfl (nb rfl) (hb hby at_72) rfl rfl (by decide) (by decide) fun T722 v722 L722 X722 hQ722 => ?_
      obtain ⟨rfl, Nq722, e722⟩ := hQ722
      have N722 := Fr.app N718 Nq722
      refine Owe.dstore X722.here hx (hb hby at_75) rfl (l' := #[.val (.int p1), .val (.int p2), .val (.int p3), .val (.int p4), .val (.int (1 : Int32)), .val (.int (0 : Int32)), .val (.ref b715), .val (.double (9221120237041090560 : UInt64)), .second, .unset]) rfl ?_
      refine Owe.iload X722.here hx (hb hby at_77) rfl ?_
      refine Owe.ifNo X722.here hx (hb hby at_79) rfl ((if0 _ _).trans (teq (by decide)).2) ?_
      refine Owe.dload X722.here hx (hb hby at_82) rfl ?_
      refine Owe.dload X722.here hx (hb hby at_84) rfl ?_
      refine Owe.dcmpS X722.here hx (hb hby at_86) rfl rfl ?_
      refine Owe.ifNo X722.here hx (hb hby at_87) rfl ((if0 _ _).trans (feq (by decide +kernel)).1) ?_
      refine Owe.iconst X722.here hx (hb hby at_90) (w := (1 : Int32)) rfl ?_
      refine Owe.goto X722.here hx (hb hby at_91) (pc' := 95) (by decide) (by decide) ?_
      refine Owe.retN X722 hx hlk (t := .boolean) hrt (by simp) (hb hby at_95) rfl fun fs hE => ?_
      rw [hG]
      refine ⟨_, _, rfl, ?_, frameMono hE (by decide) (by decide)⟩
      show Q0 Z p1 p2 p3 p4 h0 n0 _ T722.heap _
      rw [e722]
      exact ⟨rfl, N722⟩
    · rw [hk]
      refine Owe.istore X0.here hx (hb hby at_18) rfl (l' := #[.val (.int p1), .val (.int p2), .val (.int p3), .val (.int p4), .val (.int (1 : Int32)), .val (.int (1 : Int32)), .unset, .unset, .unset, .unset]) rfl ?_
      refine Owe.new X0 hx hZ hown (wd hw 0) (wd hw 1) (wd hw 2) e0 (hb hby at_20) (by decide) (by decide) fun T723 h723 b723 g723 X723 e723 E723 A723 D723 => ?_
      have ge_b723 := Nat.le_trans Z0 (Nat.le_of_eq g723.symm)
      have Ol_724 := Ol.ext E723
      have Z_725 := Nat.le_trans Z0 E723.1
      have Fsum_b723 : Fld Z h723 b723 "com/example/rill/rill/collectors/ExactMoments" "sum" "Lcom/example/rill/rill/collectors/FixedPointSum;" .null := D723 (Or.inr (wd hw 20)) (ty := (.object "com/example/rill/rill/collectors/FixedPointSum")) (by decide)
      have Fleast_b723 : Fld Z h723 b723 "com/example/rill/rill/collectors/ExactMoments" "least" "D" (.double (0 : UInt64)) := D723 (Or.inl (wd hw 23)) (ty := .double) (by decide)
      have Fgreatest_b723 : Fld Z h723 b723 "com/example/rill/rill/collectors/ExactMoments" "greatest" "D" (.double (0 : UInt64)) := D723 (Or.inl (wd hw 26)) (ty := .double) (by decide)
      have Fsquares_b723 : Fld Z h723 b723 "com/example/rill/rill/collectors/ExactMoments" "squares" "Lcom/example/rill/rill/collectors/FixedPointSum;" .null := D723 (Or.inr (wd hw 28)) (ty := (.object "com/example/rill/rill/collectors/FixedPointSum")) (by decide)
      have Fcount_b723 : Fld Z h723 b723 "com/example/rill/rill/collectors/ExactMoments" "count" "J" (.long (0 : Int64)) := D723 (Or.inl (wd hw 35)) (ty := .long) (by decide)
      refine Owe.dup X723.here hx (hb hby at_23) rfl rfl ?_
      refine Owe.iload X723.here hx (hb hby at_24) rfl ?_
      refine Owe.special X723 hx (y := Y4) rfl hown (mvT hZ (wd hw 3)) (mvT hZ (wd hw 4)) (mvT hZ (wd hw 5)) (by decide) (backOf (W := 1) (rmemi1 l Z a0 hw [] b723 h723 n0 Z_725 A723 Fcount_b723 Fleast_b723 Fgreatest_b723 Fsum_b723 Fsquares_b723 ge_b723) hZ (wd hw 5) (wd hw 2) (by decide) (by decide)) (by rw [hml]; rfl) (a := b723) (argsL := [(.int (1 : Int32))]) (rest := [(.ref b723)]) (lenOf pd_4 rfl) rfl (nb rfl) (hb hby at_26) rfl e723 (by decide) (by decide) fun T726 v726 L726 X726 hQ726 => ?_
      obtain ⟨s1_726, l1_726, k1_726, q1_726, l2_726, k2_726, rfl, Nq726, K726, ge_s1_726, fresh_s1_726, ge_l1_726, fresh_l1_726, ge_q1_726, fresh_q1_726, ge_l2_726, fresh_l2_726, E_a1_726, Fcount_a1_726, Fleast_a1_726, Fgreatest_a1_726, Fsum_a1_726, Fsquares_a1_726, ne_s1_l1_726, ne_s1_q1_726, ne_s1_l2_726, ne_l1_q1_726, ne_l1_l2_726, ne_q1_l2_726, E_s1_726, Flimbs_s1_726, FadditionsSinceCarry_s1_726, V_l1_726, E_q1_726, Flimbs_q1_726, FadditionsSinceCarry_q1_726, V_l2_726⟩ := hQ726
      have N726 := Fr.app N0 Nq726
      have Ol_727 := Ol_724.keep K726 (allS ge_b723 all0)
      have A723_728 := A723.keep K726
      have Z_729 := Nat.le_trans Z_725 K726.1
      have ne_b723_s1_726 : b723 ≠ s1_726 := Nat.ne_of_lt (Nat.lt_of_lt_of_le A723.lt fresh_s1_726)
      have ne_b723_l1_726 : b723 ≠ l1_726 := Nat.ne_of_lt (Nat.lt_of_lt_of_le A723.lt fresh_l1_726)
      have ne_b723_q1_726 : b723 ≠ q1_726 := Nat.ne_of_lt (Nat.lt_of_lt_of_le A723.lt fresh_q1_726)
      have ne_b723_l2_726 : b723 ≠ l2_726 := Nat.ne_of_lt (Nat.lt_of_lt_of_le A723.lt fresh_l2_726)
      refine Owe.astore X726.here hx (hb hby at_29) rfl rfl (l' := #[.val (.int p1), .val (.int p2), .val (.int p3), .val (.int p4), .val (.int (1 : Int32)), .val (.int (1 : Int32)), .val (.ref b723), .unset, .unset, .unset]) rfl ?_
      refine Owe.iload X726.here hx (hb hby at_31) rfl ?_
      refine Owe.iconst X726.here hx (hb hby at_33) (w := (1 : Int32)) rfl ?_
      refine Owe.icmpNo X726.here hx (hb hby at_34) rfl (flt (by decide)).1 ?_
      refine Owe.aload X726.here hx (hb hby at_37) rfl rfl ?_
      refine Owe.iloadN X726.here hx (hb hby at_39) rfl ?_
      refine Owe.i2dS X726.here hx (hb hby at_40) rfl rfl ?_
      refine Owe.virt X726 hx hZ (y := Y5) (z := Y5) hown (mvT hZ (wd hw 37)) (mvT hZ (wd hw 38)) (mvT hZ (wd hw 40)) (mvT hZ (wd hw 39)) (notFace_of_selects (args := #[]) (mvT hZ (wd hw 40))) (by decide) (backOf (W := 0) (rmema1 l Z a0 hw [] b723 s1_726 l1_726 k1_726 [] (.long (0 : Int64)) (0 : Int32) q1_726 l2_726 k2_726 [] (.long (0 : Int64)) (0 : Int32) (0 : Int64) (9218868437227405312 : UInt64) (18442240474082181120 : UInt64) (FP.i2d p2) 0 T726.heap n0 Z_729 E_a1_726 Fcount_a1_726 Fleast_a1_726 Fgreatest_a1_726 Fsum_a1_726 Fsquares_a1_726 E_s1_726 Flimbs_s1_726 FadditionsSinceCarry_s1_726 V_l1_726 E_q1_726 Flimbs_q1_726 FadditionsSinceCarry_q1_726 V_l2_726 ge_b723 ge_s1_726 ge_l1_726 ge_q1_726 ge_l2_726 ne_b723_s1_726 ne_b723_l1_726 ne_b723_q1_726 ne_b723_l2_726 ne_s1_l1_726 ne_s1_q1_726 ne_s1_l2_726 ne_l1_q1_726 ne_l1_l2_726 ne_q1_l2_726 (by decide +kernel) (by decide +kernel) (own_nnx _) (Jvm.Free.Fl.i2d_mag _) (by decide) (by decide) (by decide)) hZ (wd hw 41) (wd hw 2) (by decide) (by decide)) (by rw [hml]; rfl) (a := b723) (argsL := [(.double (FP.i2d p2))]) (rest := []) E_a1_726 (lenOf pd_6 rfl) rfl (nb rfl) (hb hby at_41) rfl rfl (by decide) (by decide) fun T730 v730 L730 X730 hQ730 => ?_
      obtain ⟨ac1n_730, ws1_730, ac2n_730, ws2_730, rfl, Nq730, K730, E_a1_730, Fcount_a1_730, Fleast_a1_730, Fgreatest_a1_730, Fsum_a1_730, Fsquares_a1_730, E_s1_730, Flimbs_s1_730, FadditionsSinceCarry_s1_730, V_l1_730, E_q1_730, Flimbs_q1_730, FadditionsSinceCarry_q1_730, V_l2_730, hb1n_730, hb2n_730⟩ := hQ730
      have N730 := Fr.app N726 Nq730
      have Ol_731 := Ol_727.keep K730 (allS ge_b723 (allS ge_s1_726 (allS ge_l1_726 (allS ge_q1_726 (allS ge_l2_726 all0)))))
      have E_a1_732 := E_a1_726.keep K730
      have E_s1_733 := E_s1_726.keep K730
      have E_q1_734 := E_q1_726.keep K730
      have Z_735 := Nat.le_trans Z_729 K730.1
      refine Owe.iload X730.here hx (hb hby at_44) rfl ?_
      refine Owe.iconst X730.here hx (hb hby at_46) (w := (2 : Int32)) rfl ?_
      refine Owe.icmpYes X730.here hx (hb hby at_47) rfl (tlt (by decide)).1 (pc' := 57) (by decide) (by decide) ?_
      refine Owe.iload X730.here hx (hb hby at_57) rfl ?_
      refine Owe.iconst X730.here hx (hb hby at_59) (w := (3 : Int32)) rfl ?_
      refine Owe.icmpYes X730.here hx (hb hby at_60) rfl (tlt (by decide)).1 (pc' := 70) (by decide) (by decide) ?_
      refine Owe.aload X730.here hx (hb hby at_70) rfl rfl ?_
      refine Owe.virt X730 hx hZ (y := Y6) (z := Y6) hown (mvT hZ (wd hw 29)) (mvT hZ (wd hw 30)) (mvT hZ (wd hw 32)) (mvT hZ (wd hw 31)) (notFace_of_selects (args := #[]) (mvT hZ (wd hw 32))) (by decide) (backOf (W := 0) (rmgY l Z a0 hw [] b723 (pick64 false (9218868437227405312 : UInt64) (FP.i2d p2)) ((0 : Int64) + (1 : Int64)) T730.heap n0 Z_735 E_a1_730 Fcount_a1_730 Fleast_a1_730 (by decide)) hZ (wd hw 33) (wd hw 2) (by decide) (by decide)) (by rw [hml]; rfl) (a := b723) (argsL := []) (rest := []) E_a1_730 (lenOf pd_5 rfl) rfl (nb rfl) (hb hby at_72) rfl rfl (by decide) (by decide) fun T736 v736 L736 X736 hQ736 => ?_
      obtain ⟨rfl, Nq736, e736⟩ := hQ736
      have N736 := Fr.app N730 Nq736
      refine Owe.dstore X736.here hx (hb hby at_75) rfl (l' := #[.val (.int p1), .val (.int p2), .val (.int p3), .val (.int p4), .val (.int (1 : Int32)), .val (.int (1 : Int32)), .val (.ref b723), .val (.double (pick64 false (9218868437227405312 : UInt64) (FP.i2d p2))), .second, .unset]) rfl ?_
      refine Owe.iload X736.here hx (hb hby at_77) rfl ?_
      refine Owe.ifYes X736.here hx (hb hby at_79) rfl ((if0 _ _).trans (feq (by decide)).2) (pc' := 96) (by decide) (by decide) ?_
      refine Owe.iloadN X736.here hx (hb hby at_96) rfl ?_
      refine Owe.istore X736.here hx (hb hby at_97) rfl (l' := #[.val (.int p1), .val (.int p2), .val (.int p3), .val (.int p4), .val (.int (1 : Int32)), .val (.int (1 : Int32)), .val (.ref b723), .val (.double (pick64 false (9218868437227405312 : UInt64) (FP.i2d p2))), .second, .val (.int p2)]) rfl ?_
      refine Owe.iload X736.here hx (hb hby at_99) rfl ?_
      refine Owe.iconst X736.here hx (hb hby at_101) (w := (2 : Int32)) rfl ?_
      refine Owe.icmpYes X736.here hx (hb hby at_102) rfl (tlt (by decide)).1 (pc' := 114) (by decide) (by decide) ?_
      refine Owe.iload X736.here hx (hb hby at_114) rfl ?_
      refine Owe.iconst X736.here hx (hb hby at_116) (w := (3 : Int32)) rfl ?_
      refine Owe.icmpYes X736.here hx (hb hby at_117) rfl (tlt (by decide)).1 (pc' := 129) (by decide) (by decide) ?_
      refine Owe.dload X736.here hx (hb hby at_129) rfl ?_
      refine Owe.iload X736.here hx (hb hby at_131) rfl ?_
      refine Owe.i2dS X736.here hx (hb hby at_133) rfl rfl ?_
      refine Owe.dcmpS X736.here hx (hb hby at_134) rfl rfl ?_
      refine Owe.ifNo X736.here hx (hb hby at_135) rfl ((if0 _ _).trans (teq (by rw [own_m1]; exact own_self _ _)).2) ?_
      refine Owe.iconst X736.here hx (hb hby at_138) (w := (1 : Int32)) rfl ?_
      refine Owe.goto X736.here hx (hb hby at_139) (pc' := 143) (by decide) (by decide) ?_
      refine Owe.retN X736 hx hlk (t := .boolean) hrt (by simp) (hb hby at_143) rfl fun fs hE => ?_
      rw [hG]
      refine ⟨_, _, rfl, ?_, frameMono hE (by decide) (by decide)⟩
      show Q0 Z p1 p2 p3 p4 h0 n0 _ T736.heap _
      rw [e736]
      exact ⟨rfl, N736⟩
    · rw [hk]
      refine Owe.istore X0.here hx (hb hby at_18) rfl (l' := #[.val (.int p1), .val (.int p2), .val (.int p3), .val (.int p4), .val (.int (1 : Int32)), .val (.int (2 : Int32)), .unset, .unset, .unset, .unset]) rfl ?_
      refine Owe.new X0 hx hZ hown (wd hw 0) (wd hw 1) (wd hw 2) e0 (hb hby at_20) (by decide) (by decide) fun T737 h737 b737 g737 X737 e737 E737 A737 D737 => ?_
      have ge_b737 := Nat.le_trans Z0 (Nat.le_of_eq g737.symm)
      have Ol_738 := Ol.ext E737
      have Z_739 := Nat.le_trans Z0 E737.1
      have Fsum_b737 : Fld Z h737 b737 "com/example/rill/rill/collectors/ExactMoments" "sum" "Lcom/example/rill/rill/collectors/FixedPointSum;" .null := D737 (Or.inr (wd hw 20)) (ty := (.object "com/example/rill/rill/collectors/FixedPointSum")) (by decide)
      have Fleast_b737 : Fld Z h737 b737 "com/example/rill/rill/collectors/ExactMoments" "least" "D" (.double (0 : UInt64)) := D737 (Or.inl (wd hw 23)) (ty := .double) (by decide)
      have Fgreatest_b737 : Fld Z h737 b737 "com/example/rill/rill/collectors/ExactMoments" "greatest" "D" (.double (0 : UInt64)) := D737 (Or.inl (wd hw 26)) (ty := .double) (by decide)
      have Fsquares_b737 : Fld Z h737 b737 "com/example/rill/rill/collectors/ExactMoments" "squares" "Lcom/example/rill/rill/collectors/FixedPointSum;" .null := D737 (Or.inr (wd hw 28)) (ty := (.object "com/example/rill/rill/collectors/FixedPointSum")) (by decide)
      have Fcount_b737 : Fld Z h737 b737 "com/example/rill/rill/collectors/ExactMoments" "count" "J" (.long (0 : Int64)) := D737 (Or.inl (wd hw 35)) (ty := .long) (by decide)
      refine Owe.dup X737.here hx (hb hby at_23) rfl rfl ?_
      refine Owe.iload X737.here hx (hb hby at_24) rfl ?_
      refine Owe.special X737 hx (y := Y4) rfl hown (mvT hZ (wd hw 3)) (mvT hZ (wd hw 4)) (mvT hZ (wd hw 5)) (by decide) (backOf (W := 1) (rmemi1 l Z a0 hw [] b737 h737 n0 Z_739 A737 Fcount_b737 Fleast_b737 Fgreatest_b737 Fsum_b737 Fsquares_b737 ge_b737) hZ (wd hw 5) (wd hw 2) (by decide) (by decide)) (by rw [hml]; rfl) (a := b737) (argsL := [(.int (1 : Int32))]) (rest := [(.ref b737)]) (lenOf pd_4 rfl) rfl (nb rfl) (hb hby at_26) rfl e737 (by decide) (by decide) fun T740 v740 L740 X740 hQ740 => ?_
      obtain ⟨s1_740, l1_740, k1_740, q1_740, l2_740, k2_740, rfl, Nq740, K740, ge_s1_740, fresh_s1_740, ge_l1_740, fresh_l1_740, ge_q1_740, fresh_q1_740, ge_l2_740, fresh_l2_740, E_a1_740, Fcount_a1_740, Fleast_a1_740, Fgreatest_a1_740, Fsum_a1_740, Fsquares_a1_740, ne_s1_l1_740, ne_s1_q1_740, ne_s1_l2_740, ne_l1_q1_740, ne_l1_l2_740, ne_q1_l2_740, E_s1_740, Flimbs_s1_740, FadditionsSinceCarry_s1_740, V_l1_740, E_q1_740, Flimbs_q1_740, FadditionsSinceCarry_q1_740, V_l2_740⟩ := hQ740
      have N740 := Fr.app N0 Nq740
      have Ol_741 := Ol_738.keep K740 (allS ge_b737 all0)
      have A737_742 := A737.keep K740
      have Z_743 := Nat.le_trans Z_739 K740.1
      have ne_b737_s1_740 : b737 ≠ s1_740 := Nat.ne_of_lt (Nat.lt_of_lt_of_le A737.lt fresh_s1_740)
      have ne_b737_l1_740 : b737 ≠ l1_740 := Nat.ne_of_lt (Nat.lt_of_lt_of_le A737.lt fresh_l1_740)
      have ne_b737_q1_740 : b737 ≠ q1_740 := Nat.ne_of_lt (Nat.lt_of_lt_of_le A737.lt fresh_q1_740)
      have ne_b737_l2_740 : b737 ≠ l2_740 := Nat.ne_of_lt (Nat.lt_of_lt_of_le A737.lt fresh_l2_740)
      refine Owe.astore X740.here hx (hb hby at_29) rfl rfl (l' := #[.val (.int p1), .val (.int p2), .val (.int p3), .val (.int p4), .val (.int (1 : Int32)), .val (.int (2 : Int32)), .val (.ref b737), .unset, .unset, .unset]) rfl ?_
      refine Owe.iload X740.here hx (hb hby at_31) rfl ?_
      refine Owe.iconst X740.here hx (hb hby at_33) (w := (1 : Int32)) rfl ?_
      refine Owe.icmpNo X740.here hx (hb hby at_34) rfl (flt (by decide)).1 ?_
      refine Owe.aload X740.here hx (hb hby at_37) rfl rfl ?_
      refine Owe.iloadN X740.here hx (hb hby at_39) rfl ?_
      refine Owe.i2dS X740.here hx (hb hby at_40) rfl rfl ?_
      refine Owe.virt X740 hx hZ (y := Y5) (z := Y5) hown (mvT hZ (wd hw 37)) (mvT hZ (wd hw 38)) (mvT hZ (wd hw 40)) (mvT hZ (wd hw 39)) (notFace_of_selects (args := #[]) (mvT hZ (wd hw 40))) (by decide) (backOf (W := 0) (rmema1 l Z a0 hw [] b737 s1_740 l1_740 k1_740 [] (.long (0 : Int64)) (0 : Int32) q1_740 l2_740 k2_740 [] (.long (0 : Int64)) (0 : Int32) (0 : Int64) (9218868437227405312 : UInt64) (18442240474082181120 : UInt64) (FP.i2d p2) 0 T740.heap n0 Z_743 E_a1_740 Fcount_a1_740 Fleast_a1_740 Fgreatest_a1_740 Fsum_a1_740 Fsquares_a1_740 E_s1_740 Flimbs_s1_740 FadditionsSinceCarry_s1_740 V_l1_740 E_q1_740 Flimbs_q1_740 FadditionsSinceCarry_q1_740 V_l2_740 ge_b737 ge_s1_740 ge_l1_740 ge_q1_740 ge_l2_740 ne_b737_s1_740 ne_b737_l1_740 ne_b737_q1_740 ne_b737_l2_740 ne_s1_l1_740 ne_s1_q1_740 ne_s1_l2_740 ne_l1_q1_740 ne_l1_l2_740 ne_q1_l2_740 (by decide +kernel) (by decide +kernel) (own_nnx _) (Jvm.Free.Fl.i2d_mag _) (by decide) (by decide) (by decide)) hZ (wd hw 41) (wd hw 2) (by decide) (by decide)) (by rw [hml]; rfl) (a := b737) (argsL := [(.double (FP.i2d p2))]) (rest := []) E_a1_740 (lenOf pd_6 rfl) rfl (nb rfl) (hb hby at_41) rfl rfl (by decide) (by decide) fun T744 v744 L744 X744 hQ744 => ?_
      obtain ⟨ac1n_744, ws1_744, ac2n_744, ws2_744, rfl, Nq744, K744, E_a1_744, Fcount_a1_744, Fleast_a1_744, Fgreatest_a1_744, Fsum_a1_744, Fsquares_a1_744, E_s1_744, Flimbs_s1_744, FadditionsSinceCarry_s1_744, V_l1_744, E_q1_744, Flimbs_q1_744, FadditionsSinceCarry_q1_744, V_l2_744, hb1n_744, hb2n_744⟩ := hQ744
      have N744 := Fr.app N740 Nq744
      have Ol_745 := Ol_741.keep K744 (allS ge_b737 (allS ge_s1_740 (allS ge_l1_740 (allS ge_q1_740 (allS ge_l2_740 all0)))))
      have E_a1_746 := E_a1_740.keep K744
      have E_s1_747 := E_s1_740.keep K744
      have E_q1_748 := E_q1_740.keep K744
      have Z_749 := Nat.le_trans Z_743 K744.1
      refine Owe.iload X744.here hx (hb hby at_44) rfl ?_
      refine Owe.iconst X744.here hx (hb hby at_46) (w := (2 : Int32)) rfl ?_
      refine Owe.icmpNo X744.here hx (hb hby at_47) rfl (flt (by decide)).1 ?_
      refine Owe.aload X744.here hx (hb hby at_50) rfl rfl ?_
      refine Owe.iloadN X744.here hx (hb hby at_52) rfl ?_
      refine Owe.i2dS X744.here hx (hb hby at_53) rfl rfl ?_
      refine Owe.virt X744 hx hZ (y := Y5) (z := Y5) hown (mvT hZ (wd hw 37)) (mvT hZ (wd hw 38)) (mvT hZ (wd hw 40)) (mvT hZ (wd hw 39)) (notFace_of_selects (args := #[]) (mvT hZ (wd hw 40))) (by decide) (backOf (W := 0) (rmema1 l Z a0 hw [] b737 s1_740 l1_740 k1_740 ws1_744 (.long (0 : Int64)) ac1n_744 q1_740 l2_740 k2_740 ws2_744 (.long (0 : Int64)) ac2n_744 ((0 : Int64) + (1 : Int64)) (pick64 false (9218868437227405312 : UInt64) (FP.i2d p2)) (pick64 true (18442240474082181120 : UInt64) (FP.i2d p2)) (FP.i2d p3) (0 + 1) T744.heap n0 Z_749 E_a1_744 Fcount_a1_744 Fleast_a1_744 Fgreatest_a1_744 Fsum_a1_744 Fsquares_a1_744 E_s1_744 Flimbs_s1_744 FadditionsSinceCarry_s1_744 V_l1_744 E_q1_744 Flimbs_q1_744 FadditionsSinceCarry_q1_744 V_l2_744 ge_b737 ge_s1_740 ge_l1_740 ge_q1_740 ge_l2_740 ne_b737_s1_740 ne_b737_l1_740 ne_b737_q1_740 ne_b737_l2_740 ne_s1_l1_740 ne_s1_q1_740 ne_s1_l2_740 ne_l1_q1_740 ne_l1_l2_740 ne_q1_l2_740 (own_nnp (by decide +kernel) (own_nnx _)) (own_nnp (by decide +kernel) (own_nnx _)) (own_nnx _) (Jvm.Free.Fl.i2d_mag _) (by decide) hb1n_744 hb2n_744) hZ (wd hw 41) (wd hw 2) (by decide) (by decide)) (by rw [hml]; rfl) (a := b737) (argsL := [(.double (FP.i2d p3))]) (rest := []) E_a1_744 (lenOf pd_6 rfl) rfl (nb rfl) (hb hby at_54) rfl rfl (by decide) (by decide) fun T750 v750 L750 X750 hQ750 => ?_
      obtain ⟨ac1n_750, ws1_750, ac2n_750, ws2_750, rfl, Nq750, K750, E_a1_750, Fcount_a1_750, Fleast_a1_750, Fgreatest_a1_750, Fsum_a1_750, Fsquares_a1_750, E_s1_750, Flimbs_s1_750, FadditionsSinceCarry_s1_750, V_l1_750, E_q1_750, Flimbs_q1_750, FadditionsSinceCarry_q1_750, V_l2_750, hb1n_750, hb2n_750⟩ := hQ750
      have N750 := Fr.app N744 Nq750
      have Ol_751 := Ol_745.keep K750 (allS ge_b737 (allS ge_s1_740 (allS ge_l1_740 (allS ge_q1_740 (allS ge_l2_740 all0)))))
      have E_a1_752 := E_a1_744.keep K750
      have E_s1_753 := E_s1_744.keep K750
      have E_q1_754 := E_q1_744.keep K750
      have Z_755 := Nat.le_trans Z_749 K750.1
      refine Owe.iload X750.here hx (hb hby at_57) rfl ?_
      refine Owe.iconst X750.here hx (hb hby at_59) (w := (3 : Int32)) rfl ?_
      refine Owe.icmpYes X750.here hx (hb hby at_60) rfl (tlt (by decide)).1 (pc' := 70) (by decide) (by decide) ?_
      refine Owe.aload X750.here hx (hb hby at_70) rfl rfl ?_
      refine Owe.virt X750 hx hZ (y := Y6) (z := Y6) hown (mvT hZ (wd hw 29)) (mvT hZ (wd hw 30)) (mvT hZ (wd hw 32)) (mvT hZ (wd hw 31)) (notFace_of_selects (args := #[]) (mvT hZ (wd hw 32))) (by decide) (backOf (W := 0) (rmgY l Z a0 hw [] b737 (pick64 false (pick64 false (9218868437227405312 : UInt64) (FP.i2d p2)) (FP.i2d p3)) (((0 : Int64) + (1 : Int64)) + (1 : Int64)) T750.heap n0 Z_755 E_a1_750 Fcount_a1_750 Fleast_a1_750 (by decide)) hZ (wd hw 33) (wd hw 2) (by decide) (by decide)) (by rw [hml]; rfl) (a := b737) (argsL := []) (rest := []) E_a1_750 (lenOf pd_5 rfl) rfl (nb rfl) (hb hby at_72) rfl rfl (by decide) (by decide) fun T756 v756 L756 X756 hQ756 => ?_
      obtain ⟨rfl, Nq756, e756⟩ := hQ756
      have N756 := Fr.app N750 Nq756
      refine Owe.dstore X756.here hx (hb hby at_75) rfl (l' := #[.val (.int p1), .val (.int p2), .val (.int p3), .val (.int p4), .val (.int (1 : Int32)), .val (.int (2 : Int32)), .val (.ref b737), .val (.double (pick64 false (pick64 false (9218868437227405312 : UInt64) (FP.i2d p2)) (FP.i2d p3))), .second, .unset]) rfl ?_
      refine Owe.iload X756.here hx (hb hby at_77) rfl ?_
      refine Owe.ifYes X756.here hx (hb hby at_79) rfl ((if0 _ _).trans (feq (by decide)).2) (pc' := 96) (by decide) (by decide) ?_
      refine Owe.iloadN X756.here hx (hb hby at_96) rfl ?_
      refine Owe.istore X756.here hx (hb hby at_97) rfl (l' := #[.val (.int p1), .val (.int p2), .val (.int p3), .val (.int p4), .val (.int (1 : Int32)), .val (.int (2 : Int32)), .val (.ref b737), .val (.double (pick64 false (pick64 false (9218868437227405312 : UInt64) (FP.i2d p2)) (FP.i2d p3))), .second, .val (.int p2)]) rfl ?_
      refine Owe.iload X756.here hx (hb hby at_99) rfl ?_
      refine Owe.iconst X756.here hx (hb hby at_101) (w := (2 : Int32)) rfl ?_
      refine Owe.icmpNo X756.here hx (hb hby at_102) rfl (flt (by decide)).1 ?_
      refine Owe.iloadN X756.here hx (hb hby at_105) rfl ?_
      refine Owe.iload X756.here hx (hb hby at_106) rfl ?_
      by_cases hc108_757 : p3 < p2
      · skip
        refine Owe.icmpNo X756.here hx (hb hby at_108) rfl (tlt hc108_757).2.1 ?_
        refine Owe.iloadN X756.here hx (hb hby at_111) rfl ?_
        refine Owe.istore X756.here hx (hb hby at_112) rfl (l' := #[.val (.int p1), .val (.int p2), .val (.int p3), .val (.int p4), .val (.int (1 : Int32)), .val (.int (2 : Int32)), .val (.ref b737), .val (.double (pick64 false (pick64 false (9218868437227405312 : UInt64) (FP.i2d p2)) (FP.i2d p3))), .second, .val (.int p3)]) rfl ?_
        refine Owe.iload X756.here hx (hb hby at_114) rfl ?_
        refine Owe.iconst X756.here hx (hb hby at_116) (w := (3 : Int32)) rfl ?_
        refine Owe.icmpYes X756.here hx (hb hby at_117) rfl (tlt (by decide)).1 (pc' := 129) (by decide) (by decide) ?_
        refine Owe.dload X756.here hx (hb hby at_129) rfl ?_
        refine Owe.iload X756.here hx (hb hby at_131) rfl ?_
        refine Owe.i2dS X756.here hx (hb hby at_133) rfl rfl ?_
        refine Owe.dcmpS X756.here hx (hb hby at_134) rfl rfl ?_
        refine Owe.ifNo X756.here hx (hb hby at_135) rfl ((if0 _ _).trans (teq (by rw [own_m1, own_mlt hc108_757]; exact own_self _ _)).2) ?_
        refine Owe.iconst X756.here hx (hb hby at_138) (w := (1 : Int32)) rfl ?_
        refine Owe.goto X756.here hx (hb hby at_139) (pc' := 143) (by decide) (by decide) ?_
        refine Owe.retN X756 hx hlk (t := .boolean) hrt (by simp) (hb hby at_143) rfl fun fs hE => ?_
        rw [hG]
        refine ⟨_, _, rfl, ?_, frameMono hE (by decide) (by decide)⟩
        show Q0 Z p1 p2 p3 p4 h0 n0 _ T756.heap _
        rw [e756]
        exact ⟨rfl, N756⟩
      · skip
        refine Owe.icmpYes X756.here hx (hb hby at_108) rfl (flt hc108_757).2.1 (pc' := 114) (by decide) (by decide) ?_
        refine Owe.iload X756.here hx (hb hby at_114) rfl ?_
        refine Owe.iconst X756.here hx (hb hby at_116) (w := (3 : Int32)) rfl ?_
        refine Owe.icmpYes X756.here hx (hb hby at_117) rfl (tlt (by decide)).1 (pc' := 129) (by decide) (by decide) ?_
        refine Owe.dload X756.here hx (hb hby at_129) rfl ?_
        refine Owe.iload X756.here hx (hb hby at_131) rfl ?_
        refine Owe.i2dS X756.here hx (hb hby at_133) rfl rfl ?_
        refine Owe.dcmpS X756.here hx (hb hby at_134) rfl rfl ?_
        refine Owe.ifNo X756.here hx (hb hby at_135) rfl ((if0 _ _).trans (teq (by rw [own_m1, own_mge hc108_757]; exact own_self _ _)).2) ?_
        refine Owe.iconst X756.here hx (hb hby at_138) (w := (1 : Int32)) rfl ?_
        refine Owe.goto X756.here hx (hb hby at_139) (pc' := 143) (by decide) (by decide) ?_
        refine Owe.retN X756 hx hlk (t := .boolean) hrt (by simp) (hb hby at_143) rfl fun fs hE => ?_
        rw [hG]
        refine ⟨_, _, rfl, ?_, frameMono hE (by decide) (by decide)⟩
        show Q0 Z p1 p2 p3 p4 h0 n0 _ T756.heap _
        rw [e756]
        exact ⟨rfl, N756⟩
    · rw [hk]
      refine Owe.istore X0.here hx (hb hby at_18) rfl (l' := #[.val (.int p1), .val (.int p2), .val (.int p3), .val (.int p4), .val (.int (1 : Int32)), .val (.int (3 : Int32)), .unset, .unset, .unset, .unset]) rfl ?_
      refine Owe.new X0 hx hZ hown (wd hw 0) (wd hw 1) (wd hw 2) e0 (hb hby at_20) (by decide) (by decide) fun T758 h758 b758 g758 X758 e758 E758 A758 D758 => ?_
      have ge_b758 := Nat.le_trans Z0 (Nat.le_of_eq g758.symm)
      have Ol_759 := Ol.ext E758
      have Z_760 := Nat.le_trans Z0 E758.1
      have Fsum_b758 : Fld Z h758 b758 "com/example/rill/rill/collectors/ExactMoments" "sum" "Lcom/example/rill/rill/collectors/FixedPointSum;" .null := D758 (Or.inr (wd hw 20)) (ty := (.object "com/example/rill/rill/collectors/FixedPointSum")) (by decide)
      have Fleast_b758 : Fld Z h758 b758 "com/example/rill/rill/collectors/ExactMoments" "least" "D" (.double (0 : UInt64)) := D758 (Or.inl (wd hw 23)) (ty := .double) (by decide)
      have Fgreatest_b758 : Fld Z h758 b758 "com/example/rill/rill/collectors/ExactMoments" "greatest" "D" (.double (0 : UInt64)) := D758 (Or.inl (wd hw 26)) (ty := .double) (by decide)
      have Fsquares_b758 : Fld Z h758 b758 "com/example/rill/rill/collectors/ExactMoments" "squares" "Lcom/example/rill/rill/collectors/FixedPointSum;" .null := D758 (Or.inr (wd hw 28)) (ty := (.object "com/example/rill/rill/collectors/FixedPointSum")) (by decide)
      have Fcount_b758 : Fld Z h758 b758 "com/example/rill/rill/collectors/ExactMoments" "count" "J" (.long (0 : Int64)) := D758 (Or.inl (wd hw 35)) (ty := .long) (by decide)
      refine Owe.dup X758.here hx (hb hby at_23) rfl rfl ?_
      refine Owe.iload X758.here hx (hb hby at_24) rfl ?_
      refine Owe.special X758 hx (y := Y4) rfl hown (mvT hZ (wd hw 3)) (mvT hZ (wd hw 4)) (mvT hZ (wd hw 5)) (by decide) (backOf (W := 1) (rmemi1 l Z a0 hw [] b758 h758 n0 Z_760 A758 Fcount_b758 Fleast_b758 Fgreatest_b758 Fsum_b758 Fsquares_b758 ge_b758) hZ (wd hw 5) (wd hw 2) (by decide) (by decide)) (by rw [hml]; rfl) (a := b758) (argsL := [(.int (1 : Int32))]) (rest := [(.ref b758)]) (lenOf pd_4 rfl) rfl (nb rfl) (hb hby at_26) rfl e758 (by decide) (by decide) fun T761 v761 L761 X761 hQ761 => ?_
      obtain ⟨s1_761, l1_761, k1_761, q1_761, l2_761, k2_761, rfl, Nq761, K761, ge_s1_761, fresh_s1_761, ge_l1_761, fresh_l1_761, ge_q1_761, fresh_q1_761, ge_l2_761, fresh_l2_761, E_a1_761, Fcount_a1_761, Fleast_a1_761, Fgreatest_a1_761, Fsum_a1_761, Fsquares_a1_761, ne_s1_l1_761, ne_s1_q1_761, ne_s1_l2_761, ne_l1_q1_761, ne_l1_l2_761, ne_q1_l2_761, E_s1_761, Flimbs_s1_761, FadditionsSinceCarry_s1_761, V_l1_761, E_q1_761, Flimbs_q1_761, FadditionsSinceCarry_q1_761, V_l2_761⟩ := hQ761
      have N761 := Fr.app N0 Nq761
      have Ol_762 := Ol_759.keep K761 (allS ge_b758 all0)
      have A758_763 := A758.keep K761
      have Z_764 := Nat.le_trans Z_760 K761.1
      have ne_b758_s1_761 : b758 ≠ s1_761 := Nat.ne_of_lt (Nat.lt_of_lt_of_le A758.lt fresh_s1_761)
      have ne_b758_l1_761 : b758 ≠ l1_761 := Nat.ne_of_lt (Nat.lt_of_lt_of_le A758.lt fresh_l1_761)
      have ne_b758_q1_761 : b758 ≠ q1_761 := Nat.ne_of_lt (Nat.lt_of_lt_of_le A758.lt fresh_q1_761)
      have ne_b758_l2_761 : b758 ≠ l2_761 := Nat.ne_of_lt (Nat.lt_of_lt_of_le A758.lt fresh_l2_761)
      refine Owe.astore X761.here hx (hb hby at_29) rfl rfl (l' := #[.val (.int p1), .val (.int p2), .val (.int p3), .val (.int p4), .val (.int (1 : Int32)), .val (.int (3 : Int32)), .val (.ref b758), .unset, .unset, .unset]) rfl ?_
      refine Owe.iload X761.here hx (hb hby at_31) rfl ?_
      refine Owe.iconst X761.here hx (hb hby at_33) (w := (1 : Int32)) rfl ?_
      refine Owe.icmpNo X761.here hx (hb hby at_34) rfl (flt (by decide)).1 ?_
      refine Owe.aload X761.here hx (hb hby at_37) rfl rfl ?_
      refine Owe.iloadN X761.here hx (hb hby at_39) rfl ?_
      refine Owe.i2dS X761.here hx (hb hby at_40) rfl rfl ?_
      refine Owe.virt X761 hx hZ (y := Y5) (z := Y5) hown (mvT hZ (wd hw 37)) (mvT hZ (wd hw 38)) (mvT hZ (wd hw 40)) (mvT hZ (wd hw 39)) (notFace_of_selects (args := #[]) (mvT hZ (wd hw 40))) (by decide) (backOf (W := 0) (rmema1 l Z a0 hw [] b758 s1_761 l1_761 k1_761 [] (.long (0 : Int64)) (0 : Int32) q1_761 l2_761 k2_761 [] (.long (0 : Int64)) (0 : Int32) (0 : Int64) (9218868437227405312 : UInt64) (18442240474082181120 : UInt64) (FP.i2d p2) 0 T761.heap n0 Z_764 E_a1_761 Fcount_a1_761 Fleast_a1_761 Fgreatest_a1_761 Fsum_a1_761 Fsquares_a1_761 E_s1_761 Flimbs_s1_761 FadditionsSinceCarry_s1_761 V_l1_761 E_q1_761 Flimbs_q1_761 FadditionsSinceCarry_q1_761 V_l2_761 ge_b758 ge_s1_761 ge_l1_761 ge_q1_761 ge_l2_761 ne_b758_s1_761 ne_b758_l1_761 ne_b758_q1_761 ne_b758_l2_761 ne_s1_l1_761 ne_s1_q1_761 ne_s1_l2_761 ne_l1_q1_761 ne_l1_l2_761 ne_q1_l2_761 (by decide +kernel) (by decide +kernel) (own_nnx _) (Jvm.Free.Fl.i2d_mag _) (by decide) (by decide) (by decide)) hZ (wd hw 41) (wd hw 2) (by decide) (by decide)) (by rw [hml]; rfl) (a := b758) (argsL := [(.double (FP.i2d p2))]) (rest := []) E_a1_761 (lenOf pd_6 rfl) rfl (nb rfl) (hb hby at_41) rfl rfl (by decide) (by decide) fun T765 v765 L765 X765 hQ765 => ?_
      obtain ⟨ac1n_765, ws1_765, ac2n_765, ws2_765, rfl, Nq765, K765, E_a1_765, Fcount_a1_765, Fleast_a1_765, Fgreatest_a1_765, Fsum_a1_765, Fsquares_a1_765, E_s1_765, Flimbs_s1_765, FadditionsSinceCarry_s1_765, V_l1_765, E_q1_765, Flimbs_q1_765, FadditionsSinceCarry_q1_765, V_l2_765, hb1n_765, hb2n_765⟩ := hQ765
      have N765 := Fr.app N761 Nq765
      have Ol_766 := Ol_762.keep K765 (allS ge_b758 (allS ge_s1_761 (allS ge_l1_761 (allS ge_q1_761 (allS ge_l2_761 all0)))))
      have E_a1_767 := E_a1_761.keep K765
      have E_s1_768 := E_s1_761.keep K765
      have E_q1_769 := E_q1_761.keep K765
      have Z_770 := Nat.le_trans Z_764 K765.1
      refine Owe.iload X765.here hx (hb hby at_44) rfl ?_
      refine Owe.iconst X765.here hx (hb hby at_46) (w := (2 : Int32)) rfl ?_
      refine Owe.icmpNo X765.here hx (hb hby at_47) rfl (flt (by decide)).1 ?_
      refine Owe.aload X765.here hx (hb hby at_50) rfl rfl ?_
      refine Owe.iloadN X765.here hx (hb hby at_52) rfl ?_
      refine Owe.i2dS X765.here hx (hb hby at_53) rfl rfl ?_
      refine Owe.virt X765 hx hZ (y := Y5) (z := Y5) hown (mvT hZ (wd hw 37)) (mvT hZ (wd hw 38)) (mvT hZ (wd hw 40)) (mvT hZ (wd hw 39)) (notFace_of_selects (args := #[]) (mvT hZ (wd hw 40))) (by decide) (backOf (W := 0) (rmema1 l Z a0 hw [] b758 s1_761 l1_761 k1_761 ws1_765 (.long (0 : Int64)) ac1n_765 q1_761 l2_761 k2_761 ws2_765 (.long (0 : Int64)) ac2n_765 ((0 : Int64) + (1 : Int64)) (pick64 false (9218868437227405312 : UInt64) (FP.i2d p2)) (pick64 true (18442240474082181120 : UInt64) (FP.i2d p2)) (FP.i2d p3) (0 + 1) T765.heap n0 Z_770 E_a1_765 Fcount_a1_765 Fleast_a1_765 Fgreatest_a1_765 Fsum_a1_765 Fsquares_a1_765 E_s1_765 Flimbs_s1_765 FadditionsSinceCarry_s1_765 V_l1_765 E_q1_765 Flimbs_q1_765 FadditionsSinceCarry_q1_765 V_l2_765 ge_b758 ge_s1_761 ge_l1_761 ge_q1_761 ge_l2_761 ne_b758_s1_761 ne_b758_l1_761 ne_b758_q1_761 ne_b758_l2_761 ne_s1_l1_761 ne_s1_q1_761 ne_s1_l2_761 ne_l1_q1_761 ne_l1_l2_761 ne_q1_l2_761 (own_nnp (by decide +kernel) (own_nnx _)) (own_nnp (by decide +kernel) (own_nnx _)) (own_nnx _) (Jvm.Free.Fl.i2d_mag _) (by decide) hb1n_765 hb2n_765) hZ (wd hw 41) (wd hw 2) (by decide) (by decide)) (by rw [hml]; rfl) (a := b758) (argsL := [(.double (FP.i2d p3))]) (rest := []) E_a1_765 (lenOf pd_6 rfl) rfl (nb rfl) (hb hby at_54) rfl rfl (by decide) (by decide) fun T771 v771 L771 X771 hQ771 => ?_
      obtain ⟨ac1n_771, ws1_771, ac2n_771, ws2_771, rfl, Nq771, K771, E_a1_771, Fcount_a1_771, Fleast_a1_771, Fgreatest_a1_771, Fsum_a1_771, Fsquares_a1_771, E_s1_771, Flimbs_s1_771, FadditionsSinceCarry_s1_771, V_l1_771, E_q1_771, Flimbs_q1_771, FadditionsSinceCarry_q1_771, V_l2_771, hb1n_771, hb2n_771⟩ := hQ771
      have N771 := Fr.app N765 Nq771
      have Ol_772 := Ol_766.keep K771 (allS ge_b758 (allS ge_s1_761 (allS ge_l1_761 (allS ge_q1_761 (allS ge_l2_761 all0)))))
      have E_a1_773 := E_a1_765.keep K771
      have E_s1_774 := E_s1_765.keep K771
      have E_q1_775 := E_q1_765.keep K771
      have Z_776 := Nat.le_trans Z_770 K771.1
      refine Owe.iload X771.here hx (hb hby at_57) rfl ?_
      refine Owe.iconst X771.here hx (hb hby at_59) (w := (3 : Int32)) rfl ?_
      refine Owe.icmpNo X771.here hx (hb hby at_60) rfl (flt (by decide)).1 ?_
      refine Owe.aload X771.here hx (hb hby at_63) rfl rfl ?_
      refine Owe.iloadN X771.here hx (hb hby at_65) rfl ?_
      refine Owe.i2dS X771.here hx (hb hby at_66) rfl rfl ?_
      refine Owe.virt X771 hx hZ (y := Y5) (z := Y5) hown (mvT hZ (wd hw 37)) (mvT hZ (wd hw 38)) (mvT hZ (wd hw 40)) (mvT hZ (wd hw 39)) (notFace_of_selects (args := #[]) (mvT hZ (wd hw 40))) (by decide) (backOf (W := 0) (rmema1 l Z a0 hw [] b758 s1_761 l1_761 k1_761 ws1_771 (.long (0 : Int64)) ac1n_771 q1_761 l2_761 k2_761 ws2_771 (.long (0 : Int64)) ac2n_771 (((0 : Int64) + (1 : Int64)) + (1 : Int64)) (pick64 false (pick64 false (9218868437227405312 : UInt64) (FP.i2d p2)) (FP.i2d p3)) (pick64 true (pick64 true (18442240474082181120 : UInt64) (FP.i2d p2)) (FP.i2d p3)) (FP.i2d p4) ((0 + 1) + 1) T771.heap n0 Z_776 E_a1_771 Fcount_a1_771 Fleast_a1_771 Fgreatest_a1_771 Fsum_a1_771 Fsquares_a1_771 E_s1_771 Flimbs_s1_771 FadditionsSinceCarry_s1_771 V_l1_771 E_q1_771 Flimbs_q1_771 FadditionsSinceCarry_q1_771 V_l2_771 ge_b758 ge_s1_761 ge_l1_761 ge_q1_761 ge_l2_761 ne_b758_s1_761 ne_b758_l1_761 ne_b758_q1_761 ne_b758_l2_761 ne_s1_l1_761 ne_s1_q1_761 ne_s1_l2_761 ne_l1_q1_761 ne_l1_l2_761 ne_q1_l2_761 (own_nnp (own_nnp (by decide +kernel) (own_nnx _)) (own_nnx _)) (own_nnp (own_nnp (by decide +kernel) (own_nnx _)) (own_nnx _)) (own_nnx _) (Jvm.Free.Fl.i2d_mag _) (by decide) hb1n_771 hb2n_771) hZ (wd hw 41) (wd hw 2) (by decide) (by decide)) (by rw [hml]; rfl) (a := b758) (argsL := [(.double (FP.i2d p4))]) (rest := []) E_a1_771 (lenOf pd_6 rfl) rfl (nb rfl) (hb hby at_67) rfl rfl (by decide) (by decide) fun T777 v777 L777 X777 hQ777 => ?_
      obtain ⟨ac1n_777, ws1_777, ac2n_777, ws2_777, rfl, Nq777, K777, E_a1_777, Fcount_a1_777, Fleast_a1_777, Fgreatest_a1_777, Fsum_a1_777, Fsquares_a1_777, E_s1_777, Flimbs_s1_777, FadditionsSinceCarry_s1_777, V_l1_777, E_q1_777, Flimbs_q1_777, FadditionsSinceCarry_q1_777, V_l2_777, hb1n_777, hb2n_777⟩ := hQ777
      have N777 := Fr.app N771 Nq777
      have Ol_778 := Ol_772.keep K777 (allS ge_b758 (allS ge_s1_761 (allS ge_l1_761 (allS ge_q1_761 (allS ge_l2_761 all0)))))
      have E_a1_779 := E_a1_771.keep K777
      have E_s1_780 := E_s1_771.keep K777
      have E_q1_781 := E_q1_771.keep K777
      have Z_782 := Nat.le_trans Z_776 K777.1
      refine Owe.aload X777.here hx (hb hby at_70) rfl rfl ?_
      refine Owe.virt X777 hx hZ (y := Y6) (z := Y6) hown (mvT hZ (wd hw 29)) (mvT hZ (wd hw 30)) (mvT hZ (wd hw 32)) (mvT hZ (wd hw 31)) (notFace_of_selects (args := #[]) (mvT hZ (wd hw 32))) (by decide) (backOf (W := 0) (rmgY l Z a0 hw [] b758 (pick64 false (pick64 false (pick64 false (9218868437227405312 : UInt64) (FP.i2d p2)) (FP.i2d p3)) (FP.i2d p4)) ((((0 : Int64) + (1 : Int64)) + (1 : Int64)) + (1 : Int64)) T777.heap n0 Z_782 E_a1_777 Fcount_a1_777 Fleast_a1_777 (by decide)) hZ (wd hw 33) (wd hw 2) (by decide) (by decide)) (by rw [hml]; rfl) (a := b758) (argsL := []) (rest := []) E_a1_777 (lenOf pd_5 rfl) rfl (nb rfl) (hb hby at_72) rfl rfl (by decide) (by decide) fun T783 v783 L783 X783 hQ783 => ?_
      obtain ⟨rfl, Nq783, e783⟩ := hQ783
      have N783 := Fr.app N777 Nq783
      refine Owe.dstore X783.here hx (hb hby at_75) rfl (l' := #[.val (.int p1), .val (.int p2), .val (.int p3), .val (.int p4), .val (.int (1 : Int32)), .val (.int (3 : Int32)), .val (.ref b758), .val (.double (pick64 false (pick64 false (pick64 false (9218868437227405312 : UInt64) (FP.i2d p2)) (FP.i2d p3)) (FP.i2d p4))), .second, .unset]) rfl ?_
      refine Owe.iload X783.here hx (hb hby at_77) rfl ?_
      refine Owe.ifYes X783.here hx (hb hby at_79) rfl ((if0 _ _).trans (feq (by decide)).2) (pc' := 96) (by decide) (by decide) ?_
      refine Owe.iloadN X783.here hx (hb hby at_96) rfl ?_
      refine Owe.istore X783.here hx (hb hby at_97) rfl (l' := #[.val (.int p1), .val (.int p2), .val (.int p3), .val (.int p4), .val (.int (1 : Int32)), .val (.int (3 : Int32)), .val (.ref b758), .val (.double (pick64 false (pick64 false (pick64 false (9218868437227405312 : UInt64) (FP.i2d p2)) (FP.i2d p3)) (FP.i2d p4))), .second, .val (.int p2)]) rfl ?_
      refine Owe.iload X783.here hx (hb hby at_99) rfl ?_
      refine Owe.iconst X783.here hx (hb hby at_101) (w := (2 : Int32)) rfl ?_
      refine Owe.icmpNo X783.here hx (hb hby at_102) rfl (flt (by decide)).1 ?_
      refine Owe.iloadN X783.here hx (hb hby at_105) rfl ?_
      refine Owe.iload X783.here hx (hb hby at_106) rfl ?_
      by_cases hc108_784 : p3 < p2
      · skip
        refine Owe.icmpNo X783.here hx (hb hby at_108) rfl (tlt hc108_784).2.1 ?_
        refine Owe.iloadN X783.here hx (hb hby at_111) rfl ?_
        refine Owe.istore X783.here hx (hb hby at_112) rfl (l' := #[.val (.int p1), .val (.int p2), .val (.int p3), .val (.int p4), .val (.int (1 : Int32)), .val (.int (3 : Int32)), .val (.ref b758), .val (.double (pick64 false (pick64 false (pick64 false (9218868437227405312 : UInt64) (FP.i2d p2)) (FP.i2d p3)) (FP.i2d p4))), .second, .val (.int p3)]) rfl ?_
        refine Owe.iload X783.here hx (hb hby at_114) rfl ?_
        refine Owe.iconst X783.here hx (hb hby at_116) (w := (3 : Int32)) rfl ?_
        refine Owe.icmpNo X783.here hx (hb hby at_117) rfl (flt (by decide)).1 ?_
        refine Owe.iloadN X783.here hx (hb hby at_120) rfl ?_
        refine Owe.iload X783.here hx (hb hby at_121) rfl ?_
        by_cases hc123_785 : p4 < p3
        · skip
          refine Owe.icmpNo X783.here hx (hb hby at_123) rfl (tlt hc123_785).2.1 ?_
          refine Owe.iloadN X783.here hx (hb hby at_126) rfl ?_
          refine Owe.istore X783.here hx (hb hby at_127) rfl (l' := #[.val (.int p1), .val (.int p2), .val (.int p3), .val (.int p4), .val (.int (1 : Int32)), .val (.int (3 : Int32)), .val (.ref b758), .val (.double (pick64 false (pick64 false (pick64 false (9218868437227405312 : UInt64) (FP.i2d p2)) (FP.i2d p3)) (FP.i2d p4))), .second, .val (.int p4)]) rfl ?_
          refine Owe.dload X783.here hx (hb hby at_129) rfl ?_
          refine Owe.iload X783.here hx (hb hby at_131) rfl ?_
          refine Owe.i2dS X783.here hx (hb hby at_133) rfl rfl ?_
          refine Owe.dcmpS X783.here hx (hb hby at_134) rfl rfl ?_
          refine Owe.ifNo X783.here hx (hb hby at_135) rfl ((if0 _ _).trans (teq (by rw [own_m1, own_mlt hc108_784, own_mlt hc123_785]; exact own_self _ _)).2) ?_
          refine Owe.iconst X783.here hx (hb hby at_138) (w := (1 : Int32)) rfl ?_
          refine Owe.goto X783.here hx (hb hby at_139) (pc' := 143) (by decide) (by decide) ?_
          refine Owe.retN X783 hx hlk (t := .boolean) hrt (by simp) (hb hby at_143) rfl fun fs hE => ?_
          rw [hG]
          refine ⟨_, _, rfl, ?_, frameMono hE (by decide) (by decide)⟩
          show Q0 Z p1 p2 p3 p4 h0 n0 _ T783.heap _
          rw [e783]
          exact ⟨rfl, N783⟩
        · skip
          refine Owe.icmpYes X783.here hx (hb hby at_123) rfl (flt hc123_785).2.1 (pc' := 129) (by decide) (by decide) ?_
          refine Owe.dload X783.here hx (hb hby at_129) rfl ?_
          refine Owe.iload X783.here hx (hb hby at_131) rfl ?_
          refine Owe.i2dS X783.here hx (hb hby at_133) rfl rfl ?_
          refine Owe.dcmpS X783.here hx (hb hby at_134) rfl rfl ?_
          refine Owe.ifNo X783.here hx (hb hby at_135) rfl ((if0 _ _).trans (teq (by rw [own_m1, own_mlt hc108_784, own_mge hc123_785]; exact own_self _ _)).2) ?_
          refine Owe.iconst X783.here hx (hb hby at_138) (w := (1 : Int32)) rfl ?_
          refine Owe.goto X783.here hx (hb hby at_139) (pc' := 143) (by decide) (by decide) ?_
          refine Owe.retN X783 hx hlk (t := .boolean) hrt (by simp) (hb hby at_143) rfl fun fs hE => ?_
          rw [hG]
          refine ⟨_, _, rfl, ?_, frameMono hE (by decide) (by decide)⟩
          show Q0 Z p1 p2 p3 p4 h0 n0 _ T783.heap _
          rw [e783]
          exact ⟨rfl, N783⟩
      · skip
        refine Owe.icmpYes X783.here hx (hb hby at_108) rfl (flt hc108_784).2.1 (pc' := 114) (by decide) (by decide) ?_
        refine Owe.iload X783.here hx (hb hby at_114) rfl ?_
        refine Owe.iconst X783.here hx (hb hby at_116) (w := (3 : Int32)) rfl ?_
        refine Owe.icmpNo X783.here hx (hb hby at_117) rfl (flt (by decide)).1 ?_
        refine Owe.iloadN X783.here hx (hb hby at_120) rfl ?_
        refine Owe.iload X783.here hx (hb hby at_121) rfl ?_
        by_cases hc123_786 : p4 < p2
        · skip
          refine Owe.icmpNo X783.here hx (hb hby at_123) rfl (tlt hc123_786).2.1 ?_
          refine Owe.iloadN X783.here hx (hb hby at_126) rfl ?_
          refine Owe.istore X783.here hx (hb hby at_127) rfl (l' := #[.val (.int p1), .val (.int p2), .val (.int p3), .val (.int p4), .val (.int (1 : Int32)), .val (.int (3 : Int32)), .val (.ref b758), .val (.double (pick64 false (pick64 false (pick64 false (9218868437227405312 : UInt64) (FP.i2d p2)) (FP.i2d p3)) (FP.i2d p4))), .second, .val (.int p4)]) rfl ?_
          refine Owe.dload X783.here hx (hb hby at_129) rfl ?_
          refine Owe.iload X783.here hx (hb hby at_131) rfl ?_
          refine Owe.i2dS X783.here hx (hb hby at_133) rfl rfl ?_
          refine Owe.dcmpS X783.here hx (hb hby at_134) rfl rfl ?_
          refine Owe.ifNo X783.here hx (hb hby at_135) rfl ((if0 _ _).trans (teq (by rw [own_m1, own_mge hc108_784, own_mlt hc123_786]; exact own_self _ _)).2) ?_
          refine Owe.iconst X783.here hx (hb hby at_138) (w := (1 : Int32)) rfl ?_
          refine Owe.goto X783.here hx (hb hby at_139) (pc' := 143) (by decide) (by decide) ?_
          refine Owe.retN X783 hx hlk (t := .boolean) hrt (by simp) (hb hby at_143) rfl fun fs hE => ?_
          rw [hG]
          refine ⟨_, _, rfl, ?_, frameMono hE (by decide) (by decide)⟩
          show Q0 Z p1 p2 p3 p4 h0 n0 _ T783.heap _
          rw [e783]
          exact ⟨rfl, N783⟩
        · skip
          refine Owe.icmpYes X783.here hx (hb hby at_123) rfl (flt hc123_786).2.1 (pc' := 129) (by decide) (by decide) ?_
          refine Owe.dload X783.here hx (hb hby at_129) rfl ?_
          refine Owe.iload X783.here hx (hb hby at_131) rfl ?_
          refine Owe.i2dS X783.here hx (hb hby at_133) rfl rfl ?_
          refine Owe.dcmpS X783.here hx (hb hby at_134) rfl rfl ?_
          refine Owe.ifNo X783.here hx (hb hby at_135) rfl ((if0 _ _).trans (teq (by rw [own_m1, own_mge hc108_784, own_mge hc123_786]; exact own_self _ _)).2) ?_
          refine Owe.iconst X783.here hx (hb hby at_138) (w := (1 : Int32)) rfl ?_
          refine Owe.goto X783.here hx (hb hby at_139) (pc' := 143) (by decide) (by decide) ?_
          refine Owe.retN X783 hx hlk (t := .boolean) hrt (by simp) (hb hby at_143) rfl fun fs hE => ?_
          rw [hG]
          refine ⟨_, _, rfl, ?_, frameMono hE (by decide) (by decide)⟩
          show Q0 Z p1 p2 p3 p4 h0 n0 _ T783.heap _
          rw [e783]
          exact ⟨rfl, N783⟩
set_option maxRecDepth 65536 in
set_option maxHeartbeats 40000000 in
theorem comes_1 {Post : Tables → Env → Array Value → State → Outcome → State → Prop} (hpost : ∀ tb e args s v u, (limb_1_1.after args s (.returned v) u = true ∧ limb_1_2.after args s (.returned v) u = true ∧ True) → FrameEnd s (.returned v) u (Jvm.fieldLocs frame_1_writes args s ++ Jvm.arrayLocs frame_1_arrays args s ++ Jvm.staticLocs frame_1_statics s) 24 512 → Post tb e args s (.returned v) u) :
    ArmFor flags0 classFile x code maxLocals ret World_1 tables_1 room_1 Calls_1 rest_1 Pre_1 Post := by
  intro l hfl _ _ p e ha hc hk s m args below hf hA hF happ hP
  obtain ⟨hcalls, hrest, hpre⟩ := hP
  obtain ⟨-, -, -, hnamed, -, -, -, hat⟩ := (Spec.applies_iff hf).mp happ
  obtain ⟨hg, hn⟩ := and_e (Cond.before_iff.mp (show (Jvm.Cond.and given_1 narrow_1).before args s = true from hpre))
  obtain ⟨g0, q0⟩ := and_e hg
  obtain ⟨g1, q1⟩ := and_e q0
  obtain ⟨g2, q2⟩ := and_e q1
  obtain ⟨g3, q3⟩ := and_e q2
  obtain ⟨w0, w1, w2, w3, rfl⟩ : ∃ w0 w1 w2 w3 : Value, args = #[w0, w1, w2, w3] := by
    have hs : args.size = 4 := by simpa [Cond.value, given_1] using g0
    obtain ⟨L⟩ := args
    match L, hs with
    | [w0, w1, w2, w3], _ => exact ⟨w0, w1, w2, w3, rfl⟩
  have hw := fun d (hd : d ∈ tables_1) => atoms_spec (ws := Jvm.Cond.code x code maxLocals ret :: tables_1) hat d (List.mem_cons_of_mem _ hd)
  have hfit : Fit s := fun {y c} hc i hi => by
    obtain ⟨ha, rfl⟩ := Array.getElem?_eq_some_iff.mp hc
    have q := List.all_eq_true.mp ((Array.all_eq_true_iff_forall_mem.mp hF) _ (Array.getElem_mem ha)) i (List.mem_range.mpr hi)
    simpa [Array.getElem?_eq_getElem hi] using q
  obtain ⟨i0, ei0⟩ := is_v g1
  obtain rfl : w0 = (.int i0) := Option.some.inj ei0
  obtain ⟨i1, ei1⟩ := is_v g2
  obtain rfl : w1 = (.int i1) := Option.some.inj ei1
  obtain ⟨i2, ei2⟩ := is_v g3
  obtain rfl : w2 = (.int i2) := Option.some.inj ei2
  obtain ⟨i3, ei3⟩ := is_v q3
  obtain rfl : w3 = (.int i3) := Option.some.inj ei3
  obtain ⟨n, o, h1, h2, h3, _, L, rfl, ⟨rfl, N⟩, hq⟩ := rm0 l s _ hw tables_1 i0 i1 i2 i3 s.heap s.heap.size (Nat.le_refl _) (Old.start s) p e ha hc hk s m _ below hf ((Spec.applies_iff_loose hf).mp happ).1 ⟨rfl, State.Warmed39.refl s, rfl⟩ trivial
  refine ⟨n, _, h1, h2, h3, hpost _ _ _ _ _ _ ⟨Cond.after_iff.mpr rfl, Cond.after_iff.mpr (eq_i res_at (Term.int_eval (1)) rfl), trivial⟩ ⟨hq.1, hq.2.1, (hq.2.2.sift fun y hy => Or.inr (N y hy)).mono (by decide) (by decide)⟩⟩
theorem main_1_1 : Claimed_1_1 := comes_1 fun _ _ _ _ _ _ h hF => ⟨h.1, hF⟩
theorem main_1_2 : Claimed_1_2 := comes_1 fun _ _ _ _ _ _ h hF => ⟨h.2.1, hF⟩
end Jvm.Pilot.@@N@@
namespace Jvm.Pilot.@@N@@
open Jvm Jvm.ClassFile Sem Op Lib Jvm.Free Jvm.Stand Jvm.Pilot.@@N@@.Jvm.D
/-! MADE BY PROGRAM (witnessworld.py) out of the Statement's table words and the real class files: 18 classes; the members and pool entries that the words name. The judged class is class 1, her method 1. -/
namespace start1
open Jvm.ClassFile
def u (s : String) : CpInfo := .utf8 (stringToUtf16 s)
/-- a pool by its gaps: so many unusable entries, then the entry; so many at the end -/
def gap : Nat → List CpInfo → List CpInfo
  | 0, r => r
  | n + 1, r => .unusable :: gap n r
def poolList (es : List (Nat × CpInfo)) (last : Nat) : List CpInfo := es.foldr (fun e r => gap e.1 (e.2 :: r)) (gap last [])
def pool (es : List (Nat × CpInfo)) (last : Nat) : Array CpInfo := ⟨poolList es last⟩
def fileOf (pool : Array CpInfo) (this : Nat) (attrs : Array Attribute := #[]) (ms : Array MethodInfo := #[]) (fl : Nat := 33) (sup : Nat := 0) (ifs : Array Nat := #[]) (fds : Array FieldInfo := #[]) : ClassFile where
  minorVersion := 0
  majorVersion := 65
  constantPool := pool
  accessFlags := fl
  thisClass := this
  superClass := sup
  interfaces := ifs
  fields := fds
  methods := ms
  attributes := attrs
def plain (name : String) (sup : Option ClassId) : Class where
  name := name
  kind := .ordinary
  loader := none
  accessFlags := 33
  super := sup
  interfaces := #[]
  cf := none
  fields := #[]
  methods := #[]
  instanceTypes := #[]
  staticTypes := #[]
  resolved := #[]
  callSites := []
  init := .initialized
  statics := none
  mirror := none

def pool0 : Array CpInfo := pool [(5, u "<init>"), (0, u "()V"), (1, .class_ 10), (1, u "java/lang/Object")] 113

def k0c0 : Code := { maxStack := 0, maxLocals := 1, code := object_method_1_code, exceptionTable := #[], attributes := #[] }
def k0m0 : Method := { name := "<init>", desc := "()V", sig := { parameters := [], returnType := none }, accessFlags := 1, code := some k0c0 }
/-- java/lang/Object -/
def k0 : Class := { plain "java/lang/Object" none with
  accessFlags := 33
  interfaces := #[]
  cf := some (fileOf pool0 8 #[] #[{ accessFlags := 1, nameIndex := 5, descriptorIndex := 6, attributes := #[] }] 33 0 #[] #[])
  fields := #[]
  methods := #[k0m0]
  instanceTypes := #[]
  staticTypes := #[]
  resolved := Array.replicate 124 none
  statics := none }

def pool1 : Array CpInfo := pool [(2, .class_ 4), (1, u "java/lang/Object"), (0, u "<init>"), (0, u "()V"), (0, .class_ 8), (0, u "com/example/rill/rill/collectors/ExactMoments"), (0, .methodref 7 10), (0, .nameAndType 5 11), (0, u "(Z)V"), (0, .methodref 7 13), (0, .nameAndType 14 15), (0, u "add"), (0, u "(D)V"), (0, .methodref 7 17), (0, .nameAndType 18 19), (0, u "least"), (0, u "()D"), (0, .class_ 21), (0, u "com/example/rill/rill/collectors/ExactMomentsLeastPinLaw"), (2, u "law"), (0, u "(IIII)Z")] 3

def k1m0 : Method := { name := "<init>", desc := "()V", sig := { parameters := [], returnType := none }, accessFlags := 2, code := none }
def k1c1 : Code := { maxStack := 4, maxLocals := 10, code := code, exceptionTable := #[], attributes := #[] }
def k1m1 : Method := { name := "law", desc := "(IIII)Z", sig := { parameters := [.int, .int, .int, .int], returnType := some .boolean }, accessFlags := 9, code := some k1c1 }
/-- com/example/rill/rill/collectors/ExactMomentsLeastPinLaw -/
def k1 : Class := { plain "com/example/rill/rill/collectors/ExactMomentsLeastPinLaw" (some 0) with
  accessFlags := 49
  interfaces := #[]
  cf := some (fileOf pool1 20 #[] #[{ accessFlags := 2, nameIndex := 5, descriptorIndex := 6, attributes := #[] }, { accessFlags := 9, nameIndex := 24, descriptorIndex := 25, attributes := #[] }] 49 2 #[] #[])
  fields := #[]
  methods := #[k1m0, k1m1]
  instanceTypes := #[]
  staticTypes := #[]
  resolved := Array.replicate 29 none
  statics := none }

def pool2 : Array CpInfo := pool [(1, .class_ 2), (0, u "com/example/rill/rill/collectors/ExactMoments"), (0, .methodref 4 5), (0, .class_ 6), (0, .nameAndType 7 8), (0, u "java/lang/Object"), (0, u "<init>"), (0, u "()V"), (0, .class_ 10), (0, u "com/example/rill/rill/collectors/FixedPointSum"), (0, .methodref 9 12), (0, .nameAndType 7 13), (0, u "(I)V"), (0, .fieldref 1 15), (0, .nameAndType 16 17), (0, u "sum"), (0, u "Lcom/example/rill/rill/collectors/FixedPointSum;"), (0, .class_ 19), (0, u "java/lang/Double"), (0, .double 9218868437227405312), (1, .fieldref 1 23), (0, .nameAndType 24 25), (0, u "least"), (0, u "D"), (0, .double 18442240474082181120), (1, .fieldref 1 29), (0, .nameAndType 30 25), (0, u "greatest"), (0, .fieldref 1 32), (0, .nameAndType 33 17), (0, u "squares"), (0, .fieldref 1 35), (0, .nameAndType 36 37), (0, u "count"), (0, u "J"), (0, .methodref 39 40), (0, .class_ 41), (0, .nameAndType 42 43), (0, u "java/lang/Math"), (0, u "min"), (0, u "(DD)D"), (0, .methodref 39 45), (0, .nameAndType 46 43), (0, u "max"), (0, .methodref 18 48), (0, .nameAndType 49 50), (0, u "doubleToRawLongBits"), (0, u "(D)J"), (3, u "(D)V"), (0, .long 4503599627370495), (1, .long 4503599627370496), (1, .methodref 9 60), (0, .nameAndType 61 62), (0, u "add"), (0, u "(ZJJI)V"), (0, .methodref 39 64), (0, .nameAndType 65 66), (0, u "multiplyHigh"), (0, u "(JJ)J"), (6, u "nan"), (0, u "Z"), (2, u "positiveInfinity"), (2, u "negativeInfinity"), (3, .double 9221120237041090560), (32, u "SUM_EXPONENT"), (0, u "I"), (2, u "SQUARES_EXPONENT"), (1, u "FRACTION_BITS"), (1, u "FRACTION_MASK"), (0, u "EXPONENT_MASK"), (1, u "EXPONENT_BIAS"), (1, u "GREATEST_FINITE_EXPONENT"), (1, u "SUM_WIDTH"), (1, u "SQUARES_WIDTH"), (1, u "(Z)V"), (6, u "()D")] 4

def k2c0 : Code := { maxStack := 4, maxLocals := 2, code := prog_39_method_1_code, exceptionTable := #[], attributes := #[] }
def k2m0 : Method := { name := "<init>", desc := "(Z)V", sig := { parameters := [.boolean], returnType := none }, accessFlags := 0, code := some k2c0 }
def k2c1 : Code := { maxStack := 8, maxLocals := 12, code := prog_39_method_2_code, exceptionTable := #[], attributes := #[] }
def k2m1 : Method := { name := "add", desc := "(D)V", sig := { parameters := [.double], returnType := none }, accessFlags := 0, code := some k2c1 }
def k2c2 : Code := { maxStack := 4, maxLocals := 1, code := prog_39_method_6_code, exceptionTable := #[], attributes := #[] }
def k2m2 : Method := { name := "least", desc := "()D", sig := { parameters := [], returnType := some .double }, accessFlags := 0, code := some k2c2 }
/-- com/example/rill/rill/collectors/ExactMoments -/
def k2 : Class := { plain "com/example/rill/rill/collectors/ExactMoments" (some 0) with
  accessFlags := 48
  interfaces := #[]
  cf := some (fileOf pool2 1 #[] #[{ accessFlags := 0, nameIndex := 7, descriptorIndex := 136, attributes := #[] }, { accessFlags := 0, nameIndex := 61, descriptorIndex := 54, attributes := #[] }, { accessFlags := 0, nameIndex := 24, descriptorIndex := 143, attributes := #[] }] 48 4 #[] #[{ accessFlags := 26, nameIndex := 117, descriptorIndex := 118, attributes := #[] }, { accessFlags := 26, nameIndex := 121, descriptorIndex := 118, attributes := #[] }, { accessFlags := 26, nameIndex := 123, descriptorIndex := 118, attributes := #[] }, { accessFlags := 26, nameIndex := 125, descriptorIndex := 37, attributes := #[] }, { accessFlags := 26, nameIndex := 126, descriptorIndex := 118, attributes := #[] }, { accessFlags := 26, nameIndex := 128, descriptorIndex := 118, attributes := #[] }, { accessFlags := 26, nameIndex := 130, descriptorIndex := 118, attributes := #[] }, { accessFlags := 26, nameIndex := 132, descriptorIndex := 118, attributes := #[] }, { accessFlags := 26, nameIndex := 134, descriptorIndex := 118, attributes := #[] }, { accessFlags := 2, nameIndex := 36, descriptorIndex := 37, attributes := #[] }, { accessFlags := 18, nameIndex := 16, descriptorIndex := 17, attributes := #[] }, { accessFlags := 18, nameIndex := 33, descriptorIndex := 17, attributes := #[] }, { accessFlags := 2, nameIndex := 24, descriptorIndex := 25, attributes := #[] }, { accessFlags := 2, nameIndex := 30, descriptorIndex := 25, attributes := #[] }, { accessFlags := 2, nameIndex := 73, descriptorIndex := 74, attributes := #[] }, { accessFlags := 2, nameIndex := 77, descriptorIndex := 74, attributes := #[] }, { accessFlags := 2, nameIndex := 80, descriptorIndex := 74, attributes := #[] }])
  fields := #[{ name := "SUM_EXPONENT", type := .int, accessFlags := 26, slot := 0, constantValue := 0 }, { name := "SQUARES_EXPONENT", type := .int, accessFlags := 26, slot := 1, constantValue := 0 }, { name := "FRACTION_BITS", type := .int, accessFlags := 26, slot := 2, constantValue := 0 }, { name := "FRACTION_MASK", type := .long, accessFlags := 26, slot := 3, constantValue := 0 }, { name := "EXPONENT_MASK", type := .int, accessFlags := 26, slot := 4, constantValue := 0 }, { name := "EXPONENT_BIAS", type := .int, accessFlags := 26, slot := 5, constantValue := 0 }, { name := "GREATEST_FINITE_EXPONENT", type := .int, accessFlags := 26, slot := 6, constantValue := 0 }, { name := "SUM_WIDTH", type := .int, accessFlags := 26, slot := 7, constantValue := 0 }, { name := "SQUARES_WIDTH", type := .int, accessFlags := 26, slot := 8, constantValue := 0 }, { name := "count", type := .long, accessFlags := 2, slot := 0, constantValue := 0 }, { name := "sum", type := (.object "com/example/rill/rill/collectors/FixedPointSum"), accessFlags := 18, slot := 1, constantValue := 0 }, { name := "squares", type := (.object "com/example/rill/rill/collectors/FixedPointSum"), accessFlags := 18, slot := 2, constantValue := 0 }, { name := "least", type := .double, accessFlags := 2, slot := 3, constantValue := 0 }, { name := "greatest", type := .double, accessFlags := 2, slot := 4, constantValue := 0 }, { name := "nan", type := .boolean, accessFlags := 2, slot := 5, constantValue := 0 }, { name := "positiveInfinity", type := .boolean, accessFlags := 2, slot := 6, constantValue := 0 }, { name := "negativeInfinity", type := .boolean, accessFlags := 2, slot := 7, constantValue := 0 }]
  methods := #[k2m0, k2m1, k2m2]
  instanceTypes := #[.long, (.object "com/example/rill/rill/collectors/FixedPointSum"), (.object "com/example/rill/rill/collectors/FixedPointSum"), .double, .double, .boolean, .boolean, .boolean]
  staticTypes := #[.int, .int, .int, .long, .int, .int, .int, .int, .int]
  resolved := Array.replicate 148 none
  statics := none }

def pool3 : Array CpInfo := pool [(1, .class_ 2), (0, u "com/example/rill/rill/collectors/FixedPointSum"), (0, .methodref 4 5), (0, .class_ 6), (0, .nameAndType 7 8), (0, u "java/lang/Object"), (0, u "<init>"), (0, u "()V"), (0, .fieldref 1 10), (0, .nameAndType 11 12), (0, u "limbs"), (0, u "[J"), (0, .fieldref 1 14), (0, .nameAndType 15 16), (0, u "additionsSinceCarry"), (0, u "I"), (0, .integer 536870912), (3, .long 4294967295), (1, .methodref 1 24), (0, .nameAndType 25 26), (0, u "addChunk"), (0, u "(ZJII)V"), (12, u "add"), (1, u "LIMB_BITS"), (2, u "LIMB_MASK"), (0, u "J"), (0, u "CARRY_BITS"), (1, u "ADDITIONS_BETWEEN_CARRIES"), (0, u "(I)V"), (2, u "(ZJJI)V")] 6

def k3c0 : Code := { maxStack := 3, maxLocals := 2, code := prog_41_method_1_code, exceptionTable := #[], attributes := #[] }
def k3m0 : Method := { name := "<init>", desc := "(I)V", sig := { parameters := [.int], returnType := none }, accessFlags := 0, code := some k3c0 }
def k3c1 : Code := { maxStack := 6, maxLocals := 9, code := prog_41_method_2_code, exceptionTable := #[], attributes := #[] }
def k3m1 : Method := { name := "add", desc := "(ZJJI)V", sig := { parameters := [.boolean, .long, .long, .int], returnType := none }, accessFlags := 0, code := some k3c1 }
def k3c2 : Code := { maxStack := 6, maxLocals := 12, code := prog_41_method_3_code, exceptionTable := #[], attributes := #[] }
def k3m2 : Method := { name := "addChunk", desc := "(ZJII)V", sig := { parameters := [.boolean, .long, .int, .int], returnType := none }, accessFlags := 2, code := some k3c2 }
/-- com/example/rill/rill/collectors/FixedPointSum -/
def k3 : Class := { plain "com/example/rill/rill/collectors/FixedPointSum" (some 0) with
  accessFlags := 48
  interfaces := #[]
  cf := some (fileOf pool3 1 #[] #[{ accessFlags := 0, nameIndex := 7, descriptorIndex := 49, attributes := #[] }, { accessFlags := 0, nameIndex := 39, descriptorIndex := 52, attributes := #[] }, { accessFlags := 2, nameIndex := 25, descriptorIndex := 26, attributes := #[] }] 48 4 #[] #[{ accessFlags := 26, nameIndex := 41, descriptorIndex := 16, attributes := #[] }, { accessFlags := 26, nameIndex := 44, descriptorIndex := 45, attributes := #[] }, { accessFlags := 26, nameIndex := 46, descriptorIndex := 16, attributes := #[] }, { accessFlags := 26, nameIndex := 48, descriptorIndex := 16, attributes := #[] }, { accessFlags := 18, nameIndex := 11, descriptorIndex := 12, attributes := #[] }, { accessFlags := 2, nameIndex := 15, descriptorIndex := 16, attributes := #[] }])
  fields := #[{ name := "LIMB_BITS", type := .int, accessFlags := 26, slot := 0, constantValue := 0 }, { name := "LIMB_MASK", type := .long, accessFlags := 26, slot := 1, constantValue := 0 }, { name := "CARRY_BITS", type := .int, accessFlags := 26, slot := 2, constantValue := 0 }, { name := "ADDITIONS_BETWEEN_CARRIES", type := .int, accessFlags := 26, slot := 3, constantValue := 0 }, { name := "limbs", type := (.array .long), accessFlags := 18, slot := 0, constantValue := 0 }, { name := "additionsSinceCarry", type := .int, accessFlags := 2, slot := 1, constantValue := 0 }]
  methods := #[k3m0, k3m1, k3m2]
  instanceTypes := #[(.array .long), .int]
  staticTypes := #[.int, .long, .int, .int]
  resolved := Array.replicate 59 none
  statics := none }

def pool4 : Array CpInfo := pool [(1, .class_ 2), (0, u "java/lang/Math"), (1, .class_ 6), (1, u "java/lang/Object"), (0, u "<init>"), (0, u "()V"), (43, u "(DD)D"), (45, .class_ 100), (1, u "java/lang/Math$RandomNumberGeneratorHolder"), (20, u "(JJ)J"), (16, .long 4294967295), (3, u "multiplyHigh"), (29, u "negativeZeroFloatBits"), (0, u "J"), (2, u "negativeZeroDoubleBits"), (21, u "max"), (2, u "min"), (43, u "$assertionsDisabled"), (0, u "Z"), (91, u "twoToTheDoubleScaleDown"), (0, u "D"), (4, u "twoToTheDoubleScaleUp"), (9, u "E"), (3, u "PI"), (2, u "TAU"), (2, u "DEGREES_TO_RADIANS"), (0, u "RADIANS_TO_DEGREES")] 94

def k4m0 : Method := { name := "<init>", desc := "()V", sig := { parameters := [], returnType := none }, accessFlags := 2, code := none }
def k4c1 : Code := { maxStack := 6, maxLocals := 20, code := jdk_29_method_45_code, exceptionTable := #[], attributes := #[] }
def k4m1 : Method := { name := "multiplyHigh", desc := "(JJ)J", sig := { parameters := [.long, .long], returnType := some .long }, accessFlags := 9, code := some k4c1 }
def k4c2 : Code := { maxStack := 4, maxLocals := 4, code := jdk_29_method_68_code, exceptionTable := #[], attributes := #[] }
def k4m2 : Method := { name := "max", desc := "(DD)D", sig := { parameters := [.double, .double], returnType := some .double }, accessFlags := 9, code := some k4c2 }
def k4c3 : Code := { maxStack := 4, maxLocals := 4, code := jdk_29_method_72_code, exceptionTable := #[], attributes := #[] }
def k4m3 : Method := { name := "min", desc := "(DD)D", sig := { parameters := [.double, .double], returnType := some .double }, accessFlags := 9, code := some k4c3 }
/-- java/lang/Math -/
def k4 : Class := { plain "java/lang/Math" (some 0) with
  accessFlags := 49
  interfaces := #[]
  cf := some (fileOf pool4 1 #[.nestMembers #[98]] #[{ accessFlags := 2, nameIndex := 7, descriptorIndex := 8, attributes := #[] }, { accessFlags := 9, nameIndex := 142, descriptorIndex := 121, attributes := #[] }, { accessFlags := 9, nameIndex := 198, descriptorIndex := 52, attributes := #[] }, { accessFlags := 9, nameIndex := 201, descriptorIndex := 52, attributes := #[] }] 49 4 #[] #[{ accessFlags := 25, nameIndex := 354, descriptorIndex := 339, attributes := #[] }, { accessFlags := 25, nameIndex := 358, descriptorIndex := 339, attributes := #[] }, { accessFlags := 25, nameIndex := 361, descriptorIndex := 339, attributes := #[] }, { accessFlags := 26, nameIndex := 364, descriptorIndex := 339, attributes := #[] }, { accessFlags := 26, nameIndex := 365, descriptorIndex := 339, attributes := #[] }, { accessFlags := 26, nameIndex := 172, descriptorIndex := 173, attributes := #[] }, { accessFlags := 26, nameIndex := 176, descriptorIndex := 173, attributes := #[] }, { accessFlags := 8, nameIndex := 344, descriptorIndex := 339, attributes := #[] }, { accessFlags := 8, nameIndex := 338, descriptorIndex := 339, attributes := #[] }, { accessFlags := 4120, nameIndex := 245, descriptorIndex := 246, attributes := #[] }])
  fields := #[{ name := "E", type := .double, accessFlags := 25, slot := 0, constantValue := 0 }, { name := "PI", type := .double, accessFlags := 25, slot := 1, constantValue := 0 }, { name := "TAU", type := .double, accessFlags := 25, slot := 2, constantValue := 0 }, { name := "DEGREES_TO_RADIANS", type := .double, accessFlags := 26, slot := 3, constantValue := 0 }, { name := "RADIANS_TO_DEGREES", type := .double, accessFlags := 26, slot := 4, constantValue := 0 }, { name := "negativeZeroFloatBits", type := .long, accessFlags := 26, slot := 5, constantValue := 0 }, { name := "negativeZeroDoubleBits", type := .long, accessFlags := 26, slot := 6, constantValue := 0 }, { name := "twoToTheDoubleScaleUp", type := .double, accessFlags := 8, slot := 7, constantValue := 0 }, { name := "twoToTheDoubleScaleDown", type := .double, accessFlags := 8, slot := 8, constantValue := 0 }, { name := "$assertionsDisabled", type := .boolean, accessFlags := 4120, slot := 9, constantValue := 0 }]
  methods := #[k4m0, k4m1, k4m2, k4m3]
  instanceTypes := #[]
  staticTypes := #[.double, .double, .double, .double, .double, .long, .long, .double, .double, .boolean]
  resolved := Array.replicate 460 none
  statics := none }

def pool5 : Array CpInfo := pool [(1, .class_ 2), (0, u "java/io/Serializable"), (0, .class_ 4), (0, u "java/lang/Object")] 2

/-- java/io/Serializable -/
def k5 : Class := { plain "java/io/Serializable" (some 0) with
  accessFlags := 1537
  interfaces := #[]
  cf := some (fileOf pool5 1 #[] #[] 1537 3 #[] #[])
  fields := #[]
  methods := #[]
  instanceTypes := #[]
  staticTypes := #[]
  resolved := Array.replicate 7 none
  statics := none }

def pool6 : Array CpInfo := pool [(2, .class_ 4), (1, u "java/lang/Object"), (0, u "<init>"), (0, u "()V"), (1, .class_ 10), (1, u "java/lang/Number"), (2, .class_ 14), (0, u "java/io/Serializable"), (0, u "serialVersionUID"), (0, u "J")] 20

def k6m0 : Method := { name := "<init>", desc := "()V", sig := { parameters := [], returnType := none }, accessFlags := 1, code := none }
/-- java/lang/Number -/
def k6 : Class := { plain "java/lang/Number" (some 0) with
  accessFlags := 1057
  interfaces := #[5]
  cf := some (fileOf pool6 8 #[] #[{ accessFlags := 1, nameIndex := 5, descriptorIndex := 6, attributes := #[] }] 1057 2 #[13] #[{ accessFlags := 26, nameIndex := 15, descriptorIndex := 16, attributes := #[] }])
  fields := #[{ name := "serialVersionUID", type := .long, accessFlags := 26, slot := 0, constantValue := 0 }]
  methods := #[k6m0]
  instanceTypes := #[]
  staticTypes := #[.long]
  resolved := Array.replicate 37 none
  statics := none }

def pool7 : Array CpInfo := pool [(1, .class_ 2), (0, u "java/lang/Comparable"), (0, .class_ 4), (0, u "java/lang/Object")] 7

/-- java/lang/Comparable -/
def k7 : Class := { plain "java/lang/Comparable" (some 0) with
  accessFlags := 1537
  interfaces := #[]
  cf := some (fileOf pool7 1 #[] #[] 1537 3 #[] #[])
  fields := #[]
  methods := #[]
  instanceTypes := #[]
  staticTypes := #[]
  resolved := Array.replicate 12 none
  statics := none }

def pool8 : Array CpInfo := pool [(1, .class_ 2), (0, u "java/lang/constant/Constable"), (0, .class_ 4), (0, u "java/lang/Object")] 6

/-- java/lang/constant/Constable -/
def k8 : Class := { plain "java/lang/constant/Constable" (some 0) with
  accessFlags := 1537
  interfaces := #[]
  cf := some (fileOf pool8 1 #[] #[] 1537 3 #[] #[])
  fields := #[]
  methods := #[]
  instanceTypes := #[]
  staticTypes := #[]
  resolved := Array.replicate 11 none
  statics := none }

def pool9 : Array CpInfo := pool [(1, .class_ 2), (0, u "java/lang/constant/ConstantDesc"), (0, .class_ 4), (0, u "java/lang/Object")] 32

/-- java/lang/constant/ConstantDesc -/
def k9 : Class := { plain "java/lang/constant/ConstantDesc" (some 0) with
  accessFlags := 1537
  interfaces := #[]
  cf := some (fileOf pool9 1 #[] #[] 1537 3 #[] #[])
  fields := #[]
  methods := #[]
  instanceTypes := #[]
  staticTypes := #[]
  resolved := Array.replicate 37 none
  statics := none }

def pool10 : Array CpInfo := pool [(1, .class_ 2), (0, u "java/lang/Double"), (46, u "(D)J"), (64, .class_ 116), (1, u "java/lang/Number"), (3, u "value"), (0, u "D"), (14, u "doubleToRawLongBits"), (36, u "TYPE"), (0, u "Ljava/lang/Class;"), (0, .class_ 176), (0, u "java/lang/Comparable"), (0, .class_ 178), (0, u "java/lang/constant/Constable"), (0, .class_ 180), (0, u "java/lang/constant/ConstantDesc"), (0, u "POSITIVE_INFINITY"), (3, u "NEGATIVE_INFINITY"), (2, u "NaN"), (2, u "MAX_VALUE"), (0, u "MIN_NORMAL"), (0, u "MIN_VALUE"), (2, u "SIZE"), (0, u "I"), (1, u "PRECISION"), (1, u "MAX_EXPONENT"), (1, u "MIN_EXPONENT"), (1, u "BYTES"), (3, u "serialVersionUID"), (0, u "J")] 79

def k10m0 : Method := { name := "doubleToRawLongBits", desc := "(D)J", sig := { parameters := [.double], returnType := some .long }, accessFlags := 265, code := none }
/-- java/lang/Double -/
def k10 : Class := { plain "java/lang/Double" (some 6) with
  accessFlags := 49
  interfaces := #[7, 8, 9]
  cf := some (fileOf pool10 1 #[] #[{ accessFlags := 265, nameIndex := 136, descriptorIndex := 49, attributes := #[] }] 49 114 #[175, 177, 179] #[{ accessFlags := 25, nameIndex := 181, descriptorIndex := 121, attributes := #[] }, { accessFlags := 25, nameIndex := 185, descriptorIndex := 121, attributes := #[] }, { accessFlags := 25, nameIndex := 188, descriptorIndex := 121, attributes := #[] }, { accessFlags := 25, nameIndex := 191, descriptorIndex := 121, attributes := #[] }, { accessFlags := 25, nameIndex := 192, descriptorIndex := 121, attributes := #[] }, { accessFlags := 25, nameIndex := 193, descriptorIndex := 121, attributes := #[] }, { accessFlags := 25, nameIndex := 196, descriptorIndex := 197, attributes := #[] }, { accessFlags := 25, nameIndex := 199, descriptorIndex := 197, attributes := #[] }, { accessFlags := 25, nameIndex := 201, descriptorIndex := 197, attributes := #[] }, { accessFlags := 25, nameIndex := 203, descriptorIndex := 197, attributes := #[] }, { accessFlags := 25, nameIndex := 205, descriptorIndex := 197, attributes := #[] }, { accessFlags := 25, nameIndex := 173, descriptorIndex := 174, attributes := #[] }, { accessFlags := 18, nameIndex := 120, descriptorIndex := 121, attributes := #[] }, { accessFlags := 26, nameIndex := 209, descriptorIndex := 210, attributes := #[] }])
  fields := #[{ name := "POSITIVE_INFINITY", type := .double, accessFlags := 25, slot := 0, constantValue := 0 }, { name := "NEGATIVE_INFINITY", type := .double, accessFlags := 25, slot := 1, constantValue := 0 }, { name := "NaN", type := .double, accessFlags := 25, slot := 2, constantValue := 0 }, { name := "MAX_VALUE", type := .double, accessFlags := 25, slot := 3, constantValue := 0 }, { name := "MIN_NORMAL", type := .double, accessFlags := 25, slot := 4, constantValue := 0 }, { name := "MIN_VALUE", type := .double, accessFlags := 25, slot := 5, constantValue := 0 }, { name := "SIZE", type := .int, accessFlags := 25, slot := 6, constantValue := 0 }, { name := "PRECISION", type := .int, accessFlags := 25, slot := 7, constantValue := 0 }, { name := "MAX_EXPONENT", type := .int, accessFlags := 25, slot := 8, constantValue := 0 }, { name := "MIN_EXPONENT", type := .int, accessFlags := 25, slot := 9, constantValue := 0 }, { name := "BYTES", type := .int, accessFlags := 25, slot := 10, constantValue := 0 }, { name := "TYPE", type := (.object "java/lang/Class"), accessFlags := 25, slot := 11, constantValue := 0 }, { name := "value", type := .double, accessFlags := 18, slot := 0, constantValue := 0 }, { name := "serialVersionUID", type := .long, accessFlags := 26, slot := 12, constantValue := 0 }]
  methods := #[k10m0]
  instanceTypes := #[.double]
  staticTypes := #[.double, .double, .double, .double, .double, .double, .int, .int, .int, .int, .int, (.object "java/lang/Class"), .long]
  resolved := Array.replicate 290 none
  statics := none }

def pool11 : Array CpInfo := pool [(1, u "java/lang/Cloneable"), (0, .class_ 1), (0, u "java/lang/Object"), (0, .class_ 3)] 3

/-- java/lang/Cloneable -/
def k11 : Class := { plain "java/lang/Cloneable" (some 0) with
  accessFlags := 1537
  interfaces := #[]
  cf := some (fileOf pool11 2 #[] #[] 1537 4 #[] #[])
  fields := #[]
  methods := #[]
  instanceTypes := #[]
  staticTypes := #[]
  resolved := Array.replicate 8 none
  statics := none }

/-- the primitive byte -/
def k12 : Class := { plain "byte" none with kind := .primitive 'B', accessFlags := 0x411 }
/-- [B -/
def k13 : Class := { plain "[B" (some 0) with kind := .array 12 .byte, interfaces := #[11, 5], accessFlags := 1041 }

/-- the primitive int -/
def k14 : Class := { plain "int" none with kind := .primitive 'I', accessFlags := 0x411 }
/-- [I -/
def k15 : Class := { plain "[I" (some 0) with kind := .array 14 .int, interfaces := #[11, 5], accessFlags := 1041 }

/-- the primitive long -/
def k16 : Class := { plain "long" none with kind := .primitive 'J', accessFlags := 0x411 }
/-- [J -/
def k17 : Class := { plain "[J" (some 0) with kind := .array 16 .long, interfaces := #[11, 5], accessFlags := 1041 }

def heap : Heap := #[]
def classes : Array Class := #[k0, k1, k2, k3, k4, k5, k6, k7, k8, k9, k10, k11, k12, k13, k14, k15, k16, k17]
def interned : List (Array UInt16 × Addr) := []
def slotsUsed : Nat := 0
def theMethod : MethodId := ⟨1, 1⟩
def args0 : Array Value := #[.int 5, .int 5, .int 5, .int 5]
def aboutOver (below : List Frame) : State where
  vm := { classes := classes, interned := interned.toArray }
  heap := heap
  slotsUsed := slotsUsed
  threads := #[{ frames := .invoking theMethod args0 :: below }]
def below0 : List Frame := [.native { method := ⟨0, 0⟩, args := #[] }]
def about1 : State := aboutOver below0
def p0 : Program := .bare "" "" ""
def e0 : Env := launch0.env 0 0 0
theorem w_frames : about1.frames = Frame.invoking theMethod args0 :: below0 := rfl
set_option maxRecDepth 65536 in
theorem w_args : argsFit about1.vm theMethod args0 = true := by decide +kernel
set_option maxRecDepth 65536 in
theorem w_heap : heapFits about1 = true := by decide +kernel
set_option maxRecDepth 65536 in
theorem w_runnable : about1.curStatus? = some .runnable := by decide +kernel
set_option maxRecDepth 65536 in
theorem w_alone : about1.alone = true := by decide +kernel
set_option maxRecDepth 65536 in
theorem w_named : about1.methodNamed? x = some theMethod := by decide +kernel
set_option maxRecDepth 65536 in
theorem w_hears : about1.hears theMethod below0 = true := by decide +kernel
set_option maxRecDepth 65536 in
theorem w_ripe : about1.ripe theMethod args0 below0 = true := by decide +kernel
theorem w_running : about1.status = .running := rfl
set_option maxRecDepth 65536 in
theorem w_room : about1.hasRoom e0.platform room_1 = true :=
  launch0.hasRoom_least _ room_1 (by decide +kernel) (by decide +kernel) (by decide +kernel) (by decide +kernel) (by decide +kernel) (by decide +kernel)
theorem allAtoms_all (ts : List Jvm.Cond) (a : Array Jvm.Value) (st : Jvm.State) : (allAtoms ts).before a st = ts.all (fun c => c.before a st) := by
  induction ts with
  | nil => rfl
  | cons c t ih =>
    show (Jvm.Cond.and c (allAtoms t)).before a st = _
    rw [Jvm.Cond.before_and, ih, List.all_cons]
def words1 : List Jvm.Cond := Jvm.Cond.code x code maxLocals ret :: tables_1
/-- a 'code' word, met by the world's own term for the bytes: nothing is compared byte by byte -/
theorem code_word {y : MethodName} {bytes : ByteArray} {mx : Nat} {rt : Option FieldType} {a : Array Value} {s : State} {m : MethodId} {meth : Method} {c : Code} (h1 : s.methodNamed? y = some m) (h2 : s.vm.method? m = some meth) (h3 : meth.code = some c) (h4 : c.code = bytes)
    (h5 : (c.maxLocals == mx && c.exceptionTable.isEmpty && decide (c.maxStack ≤ mostOperands) && decide (meth.sig.returnType = rt) && !meth.locks && decide (parseMethodDescriptor y.desc = some meth.sig)) = true) : (Jvm.Cond.code y bytes mx rt).before a s = true := by
  simp only [Bool.and_eq_true, beq_iff_eq, Bool.not_eq_true', decide_eq_true_eq] at h5
  obtain ⟨⟨⟨⟨⟨g1, g2⟩, g3⟩, g4⟩, g5⟩, g6⟩ := h5
  simp [Cond.before, Cond.holds, Cond.value, h1, h2, h3, h4, g1, g2, g3, g4, g5, g6]
def isCode : Jvm.Cond → Bool
  | .code _ _ _ _ => true
  | _ => false
theorem all_split {L : List Jvm.Cond} {P : Jvm.Cond → Bool} (h1 : L.all (fun c => isCode c || P c) = true) (h2 : ∀ c ∈ L.filter isCode, P c = true) : L.all P = true := by
  refine List.all_eq_true.mpr fun c hc => ?_
  have h := List.all_eq_true.mp h1 c hc
  rcases Bool.eq_false_or_eq_true (isCode c) with hi | hi
  · exact h2 c (List.mem_filter.mpr ⟨hc, hi⟩)
  · simpa [hi] using h
set_option maxRecDepth 65536 in
theorem w_c0 : (Jvm.Cond.code x code maxLocals ret).before args0 about1 = true := code_word (m := ⟨1, 1⟩) (meth := k1m1) (c := k1c1) (by decide +kernel) rfl rfl rfl (by decide +kernel)
set_option maxRecDepth 65536 in
theorem w_c1 : (Jvm.Cond.code ({ cls := "com/example/rill/rill/collectors/ExactMoments", name := "<init>", desc := "(Z)V" } : Jvm.MethodName) prog_39_method_1_code (2 : Nat) (Option.none : Option Jvm.ClassFile.FieldType)).before args0 about1 = true := code_word (m := ⟨2, 0⟩) (meth := k2m0) (c := k2c0) (by decide +kernel) rfl rfl rfl (by decide +kernel)
set_option maxRecDepth 65536 in
theorem w_c2 : (Jvm.Cond.code ({ cls := "java/lang/Object", name := "<init>", desc := "()V" } : Jvm.MethodName) object_method_1_code (1 : Nat) (Option.none : Option Jvm.ClassFile.FieldType)).before args0 about1 = true := code_word (m := ⟨0, 0⟩) (meth := k0m0) (c := k0c0) (by decide +kernel) rfl rfl rfl (by decide +kernel)
set_option maxRecDepth 65536 in
theorem w_c3 : (Jvm.Cond.code ({ cls := "com/example/rill/rill/collectors/FixedPointSum", name := "<init>", desc := "(I)V" } : Jvm.MethodName) prog_41_method_1_code (2 : Nat) (Option.none : Option Jvm.ClassFile.FieldType)).before args0 about1 = true := code_word (m := ⟨3, 0⟩) (meth := k3m0) (c := k3c0) (by decide +kernel) rfl rfl rfl (by decide +kernel)
set_option maxRecDepth 65536 in
theorem w_c4 : (Jvm.Cond.code ({ cls := "com/example/rill/rill/collectors/ExactMoments", name := "least", desc := "()D" } : Jvm.MethodName) prog_39_method_6_code (1 : Nat) (Option.some Jvm.ClassFile.FieldType.double)).before args0 about1 = true := code_word (m := ⟨2, 2⟩) (meth := k2m2) (c := k2c2) (by decide +kernel) rfl rfl rfl (by decide +kernel)
set_option maxRecDepth 65536 in
theorem w_c5 : (Jvm.Cond.code ({ cls := "com/example/rill/rill/collectors/ExactMoments", name := "add", desc := "(D)V" } : Jvm.MethodName) prog_39_method_2_code (12 : Nat) (Option.none : Option Jvm.ClassFile.FieldType)).before args0 about1 = true := code_word (m := ⟨2, 1⟩) (meth := k2m1) (c := k2c1) (by decide +kernel) rfl rfl rfl (by decide +kernel)
set_option maxRecDepth 65536 in
theorem w_c6 : (Jvm.Cond.code ({ cls := "java/lang/Math", name := "min", desc := "(DD)D" } : Jvm.MethodName) jdk_29_method_72_code (4 : Nat) (Option.some Jvm.ClassFile.FieldType.double)).before args0 about1 = true := code_word (m := ⟨4, 3⟩) (meth := k4m3) (c := k4c3) (by decide +kernel) rfl rfl rfl (by decide +kernel)
set_option maxRecDepth 65536 in
theorem w_c7 : (Jvm.Cond.code ({ cls := "java/lang/Math", name := "max", desc := "(DD)D" } : Jvm.MethodName) jdk_29_method_68_code (4 : Nat) (Option.some Jvm.ClassFile.FieldType.double)).before args0 about1 = true := code_word (m := ⟨4, 2⟩) (meth := k4m2) (c := k4c2) (by decide +kernel) rfl rfl rfl (by decide +kernel)
set_option maxRecDepth 65536 in
theorem w_c8 : (Jvm.Cond.code ({ cls := "com/example/rill/rill/collectors/FixedPointSum", name := "add", desc := "(ZJJI)V" } : Jvm.MethodName) prog_41_method_2_code (9 : Nat) (Option.none : Option Jvm.ClassFile.FieldType)).before args0 about1 = true := code_word (m := ⟨3, 1⟩) (meth := k3m1) (c := k3c1) (by decide +kernel) rfl rfl rfl (by decide +kernel)
set_option maxRecDepth 65536 in
theorem w_c9 : (Jvm.Cond.code ({ cls := "com/example/rill/rill/collectors/FixedPointSum", name := "addChunk", desc := "(ZJII)V" } : Jvm.MethodName) prog_41_method_3_code (12 : Nat) (Option.none : Option Jvm.ClassFile.FieldType)).before args0 about1 = true := code_word (m := ⟨3, 2⟩) (meth := k3m2) (c := k3c2) (by decide +kernel) rfl rfl rfl (by decide +kernel)
set_option maxRecDepth 65536 in
theorem w_c10 : (Jvm.Cond.code ({ cls := "java/lang/Math", name := "multiplyHigh", desc := "(JJ)J" } : Jvm.MethodName) jdk_29_method_45_code (20 : Nat) (Option.some Jvm.ClassFile.FieldType.long)).before args0 about1 = true := code_word (m := ⟨4, 1⟩) (meth := k4m1) (c := k4c1) (by decide +kernel) rfl rfl rfl (by decide +kernel)
def codes1 : List Jvm.Cond := [Jvm.Cond.code x code maxLocals ret, Jvm.Cond.code ({ cls := "com/example/rill/rill/collectors/ExactMoments", name := "<init>", desc := "(Z)V" } : Jvm.MethodName) prog_39_method_1_code (2 : Nat) (Option.none : Option Jvm.ClassFile.FieldType), Jvm.Cond.code ({ cls := "java/lang/Object", name := "<init>", desc := "()V" } : Jvm.MethodName) object_method_1_code (1 : Nat) (Option.none : Option Jvm.ClassFile.FieldType), Jvm.Cond.code ({ cls := "com/example/rill/rill/collectors/FixedPointSum", name := "<init>", desc := "(I)V" } : Jvm.MethodName) prog_41_method_1_code (2 : Nat) (Option.none : Option Jvm.ClassFile.FieldType), Jvm.Cond.code ({ cls := "com/example/rill/rill/collectors/ExactMoments", name := "least", desc := "()D" } : Jvm.MethodName) prog_39_method_6_code (1 : Nat) (Option.some Jvm.ClassFile.FieldType.double), Jvm.Cond.code ({ cls := "com/example/rill/rill/collectors/ExactMoments", name := "add", desc := "(D)V" } : Jvm.MethodName) prog_39_method_2_code (12 : Nat) (Option.none : Option Jvm.ClassFile.FieldType), Jvm.Cond.code ({ cls := "java/lang/Math", name := "min", desc := "(DD)D" } : Jvm.MethodName) jdk_29_method_72_code (4 : Nat) (Option.some Jvm.ClassFile.FieldType.double), Jvm.Cond.code ({ cls := "java/lang/Math", name := "max", desc := "(DD)D" } : Jvm.MethodName) jdk_29_method_68_code (4 : Nat) (Option.some Jvm.ClassFile.FieldType.double), Jvm.Cond.code ({ cls := "com/example/rill/rill/collectors/FixedPointSum", name := "add", desc := "(ZJJI)V" } : Jvm.MethodName) prog_41_method_2_code (9 : Nat) (Option.none : Option Jvm.ClassFile.FieldType), Jvm.Cond.code ({ cls := "com/example/rill/rill/collectors/FixedPointSum", name := "addChunk", desc := "(ZJII)V" } : Jvm.MethodName) prog_41_method_3_code (12 : Nat) (Option.none : Option Jvm.ClassFile.FieldType), Jvm.Cond.code ({ cls := "java/lang/Math", name := "multiplyHigh", desc := "(JJ)J" } : Jvm.MethodName) jdk_29_method_45_code (20 : Nat) (Option.some Jvm.ClassFile.FieldType.long)]
set_option maxRecDepth 65536 in
theorem codes_eq : words1.filter isCode = codes1 := rfl
theorem w_codes : ∀ c ∈ words1.filter isCode, c.before args0 about1 = true := by
  rw [codes_eq]
  intro c hc
  simp only [codes1, List.mem_cons, List.not_mem_nil, or_false] at hc
  rcases hc with rfl | rfl | rfl | rfl | rfl | rfl | rfl | rfl | rfl | rfl | rfl
  · exact w_c0
  · exact w_c1
  · exact w_c2
  · exact w_c3
  · exact w_c4
  · exact w_c5
  · exact w_c6
  · exact w_c7
  · exact w_c8
  · exact w_c9
  · exact w_c10
set_option maxRecDepth 65536 in
theorem w_t1 : (words1.take 24).all (fun c => isCode c || c.before args0 about1) = true := by decide +kernel
set_option maxRecDepth 65536 in
theorem w_t2 : ((words1.drop 24).take 24).all (fun c => isCode c || c.before args0 about1) = true := by decide +kernel
set_option maxRecDepth 65536 in
theorem w_t3 : (((words1.drop 24).drop 24).take 24).all (fun c => isCode c || c.before args0 about1) = true := by decide +kernel
set_option maxRecDepth 65536 in
theorem w_t4 : (((words1.drop 24).drop 24).drop 24).all (fun c => isCode c || c.before args0 about1) = true := by decide +kernel
theorem w_tables : (allAtoms (Jvm.Cond.code x code maxLocals ret :: tables_1)).before args0 about1 = true := by
  rw [allAtoms_all]
  show words1.all (fun c => c.before args0 about1) = true
  refine all_split ?_ w_codes
  rw [← List.take_append_drop 24 words1, List.all_append, w_t1, ← List.take_append_drop 24 (words1.drop 24), List.all_append, w_t2, ← List.take_append_drop 24 ((words1.drop 24).drop 24), List.all_append, w_t3, w_t4]
  rfl
set_option maxRecDepth 65536 in
theorem w_case : (Jvm.Cond.and given_1 narrow_1).before args0 about1 = true := by decide +kernel
theorem w_applies : (headSpec (Jvm.Cond.code x code maxLocals ret :: tables_1) room_1).applies x e0.platform about1 = true :=
  (Spec.applies_iff w_frames).mpr ⟨w_running, w_runnable, w_alone, w_named, w_hears, w_ripe, w_room, w_tables⟩
theorem atStart : AtStart classFile x code maxLocals ret World_1 tables_1 room_1 Calls_1 rest_1 Pre_1 launch0 p0 e0 about1 theMethod args0 below0 :=
  ⟨lists_1, trivial, launch0.admits_env _ _ _, launch0.least_env, fairChoices_fair.cas, fairChoices_fair.clock, w_frames, w_args, w_heap, w_applies, trivial, trivial, w_case⟩
end start1
theorem witness_1 : WitnessClaimed_1 := ⟨start1.p0, start1.e0, start1.about1, start1.theMethod, start1.args0, start1.below0, start1.atStart⟩
end Jvm.Pilot.@@N@@
