import JvmDerived
import JvmDerived.Pilot.@@N@@Statement
import JvmDerived.Pilot.@@N@@Code
set_option linter.unusedVariables false
set_option linter.unusedSimpArgs false
namespace Jvm.Pilot.@@N@@
namespace Own
open Jvm Jvm.ClassFile Sem Op Lib Jvm.Free Jvm.Stand Jvm.LawKit Jvm.RoadKit
/-! A WALK READ FORWARDS. 'Owe .. G T g': from the state T with the frame g on top the invocation comes back, and G holds of what it leaves. Each step's rule asks what is owed behind the step. -/
def Owe (tb : Tables) (e : Env) (below : List Frame) (G : Outcome → State → Prop) (T : State) (g : JFrame) : Prop := ∃ u o, Steps tb e below (T.setTop g) u ∧ u.status = .running ∧ Ended u below o ∧ G o u
theorem Owe.by {tb : Tables} {e : Env} {below : List Frame} {G : Outcome → State → Prop} {T T' : State} {g g' : JFrame} (k : ∀ t, Steps tb e below (T'.setTop g') t → Steps tb e below (T.setTop g) t) (h : Owe tb e below G T' g') : Owe tb e below G T g := by
  obtain ⟨u, o, h1, h2⟩ := h
  exact ⟨u, o, k _ h1, h2⟩
theorem Owe.cast {tb : Tables} {e : Env} {below : List Frame} {G : Outcome → State → Prop} {T : State} {g g' : JFrame} (q : g = g') (h : Owe tb e below G T g') : Owe tb e below G T g := q ▸ h
section Plain
variable {tb : Tables} [Ours tb] {e : Env} {below : List Frame} {G : Outcome → State → Prop} {T : State} {m : MethodId} {c : Code} {pc : Nat} {Ls : Array Slot} {st : List Value}
theorem Owe.aloadN (h : At T m c below) (hx : tb.exec = Jvm.exec) {k : Fin 4} {v : Value} (hd : decode c.code pc = .ok (.aload_n k, 1)) (hl : Ls[k.val]? = some (.val v)) (hv : v.isRef = true) (go : Owe tb e below G T (mkF m (pc + 1) Ls (v :: st))) : Owe tb e below G T (mkF m pc Ls st) := Owe.by (fun t k => XS.aloadN h hx rfl hd hl hv k) go
theorem Owe.aload (h : At T m c below) (hx : tb.exec = Jvm.exec) {k : Nat} {v : Value} (hd : decode c.code pc = .ok (.aload k, 2)) (hl : Ls[k]? = some (.val v)) (hv : v.isRef = true) (go : Owe tb e below G T (mkF m (pc + 2) Ls (v :: st))) : Owe tb e below G T (mkF m pc Ls st) := Owe.by (fun t k => XS.aload h hx rfl hd hl hv k) go
theorem Owe.iloadN (h : At T m c below) (hx : tb.exec = Jvm.exec) {k : Fin 4} {v : Int32} (hd : decode c.code pc = .ok (.iload_n k, 1)) (hl : Ls[k.val]? = some (.val (.int v))) (go : Owe tb e below G T (mkF m (pc + 1) Ls (.int v :: st))) : Owe tb e below G T (mkF m pc Ls st) := Owe.by (fun t k => XS.iloadN h hx rfl hd hl k) go
theorem Owe.iload (h : At T m c below) (hx : tb.exec = Jvm.exec) {k : Nat} {v : Int32} (hd : decode c.code pc = .ok (.iload k, 2)) (hl : Ls[k]? = some (.val (.int v))) (go : Owe tb e below G T (mkF m (pc + 2) Ls (.int v :: st))) : Owe tb e below G T (mkF m pc Ls st) := Owe.by (fun t k => XS.iload h hx rfl hd hl k) go
theorem Owe.iconst (h : At T m c below) (hx : tb.exec = Jvm.exec) {i : Int} (hd : decode c.code pc = .ok (.iconst i, 1)) {w : Int32} (hw : (Int32.ofInt i) = w) (go : Owe tb e below G T (mkF m (pc + 1) Ls (.int w :: st))) : Owe tb e below G T (mkF m pc Ls st) := by subst hw; exact Owe.by (fun t k => XS.iconst h hx rfl hd k) go
theorem Owe.bipush (h : At T m c below) (hx : tb.exec = Jvm.exec) {i : Int} (hd : decode c.code pc = .ok (.bipush i, 2)) {w : Int32} (hw : (Int8.ofInt i).toInt32 = w) (go : Owe tb e below G T (mkF m (pc + 2) Ls (.int w :: st))) : Owe tb e below G T (mkF m pc Ls st) := by subst hw; exact Owe.by (fun t k => XS.bipush h hx rfl hd k) go
theorem Owe.sipush (h : At T m c below) (hx : tb.exec = Jvm.exec) {i : Int} (hd : decode c.code pc = .ok (.sipush i, 3)) {w : Int32} (hw : (Int16.ofInt i).toInt32 = w) (go : Owe tb e below G T (mkF m (pc + 3) Ls (.int w :: st))) : Owe tb e below G T (mkF m pc Ls st) := by subst hw; exact Owe.by (fun t k => XS.sipush h hx rfl hd k) go
theorem Owe.aconstNull (h : At T m c below) (hx : tb.exec = Jvm.exec) (hd : decode c.code pc = .ok (.aconst_null, 1)) (go : Owe tb e below G T (mkF m (pc + 1) Ls (.null :: st))) : Owe tb e below G T (mkF m pc Ls st) := Owe.by (fun t k => XS.aconstNull h hx rfl hd k) go
theorem Owe.iadd (h : At T m c below) (hx : tb.exec = Jvm.exec) {x y : Int32} {rest : List Value} (hd : decode c.code pc = .ok (.iadd, 1)) (hs : st = .int y :: .int x :: rest) (go : Owe tb e below G T (mkF m (pc + 1) Ls (.int (x + y) :: rest))) : Owe tb e below G T (mkF m pc Ls st) := Owe.by (fun t k => XS.iadd h hx rfl hd hs k) go
theorem Owe.isub (h : At T m c below) (hx : tb.exec = Jvm.exec) {x y : Int32} {rest : List Value} (hd : decode c.code pc = .ok (.isub, 1)) (hs : st = .int y :: .int x :: rest) (go : Owe tb e below G T (mkF m (pc + 1) Ls (.int (x - y) :: rest))) : Owe tb e below G T (mkF m pc Ls st) := Owe.by (fun t k => XS.isub h hx rfl hd hs k) go
theorem Owe.imul (h : At T m c below) (hx : tb.exec = Jvm.exec) {x y : Int32} {rest : List Value} (hd : decode c.code pc = .ok (.imul, 1)) (hs : st = .int y :: .int x :: rest) (go : Owe tb e below G T (mkF m (pc + 1) Ls (.int (x * y) :: rest))) : Owe tb e below G T (mkF m pc Ls st) := Owe.by (fun t k => XS.imul h hx rfl hd hs k) go
theorem Owe.iand (h : At T m c below) (hx : tb.exec = Jvm.exec) {x y : Int32} {rest : List Value} (hd : decode c.code pc = .ok (.iand, 1)) (hs : st = .int y :: .int x :: rest) (go : Owe tb e below G T (mkF m (pc + 1) Ls (.int (x &&& y) :: rest))) : Owe tb e below G T (mkF m pc Ls st) := Owe.by (fun t k => XS.iand h hx rfl hd hs k) go
theorem Owe.ior (h : At T m c below) (hx : tb.exec = Jvm.exec) {x : Int32} {y : Int32} {rest : List Value} (hd : decode c.code pc = .ok (.ior, 1)) (hs : st = .int y :: .int x :: rest) (go : Owe tb e below G T (mkF m (pc + 1) Ls (.int (x ||| y) :: rest))) : Owe tb e below G T (mkF m pc Ls st) := Owe.by (fun t k => XS.ior h hx rfl hd hs k) go
theorem Owe.ixor (h : At T m c below) (hx : tb.exec = Jvm.exec) {x : Int32} {y : Int32} {rest : List Value} (hd : decode c.code pc = .ok (.ixor, 1)) (hs : st = .int y :: .int x :: rest) (go : Owe tb e below G T (mkF m (pc + 1) Ls (.int (x ^^^ y) :: rest))) : Owe tb e below G T (mkF m pc Ls st) := Owe.by (fun t k => XS.ixor h hx rfl hd hs k) go
theorem Owe.ishl (h : At T m c below) (hx : tb.exec = Jvm.exec) {x : Int32} {y : Int32} {rest : List Value} (hd : decode c.code pc = .ok (.ishl, 1)) (hs : st = .int y :: .int x :: rest) (go : Owe tb e below G T (mkF m (pc + 1) Ls (.int (x <<< (y &&& 31)) :: rest))) : Owe tb e below G T (mkF m pc Ls st) := Owe.by (fun t k => XS.ishl h hx rfl hd hs k) go
theorem Owe.ishr (h : At T m c below) (hx : tb.exec = Jvm.exec) {x : Int32} {y : Int32} {rest : List Value} (hd : decode c.code pc = .ok (.ishr, 1)) (hs : st = .int y :: .int x :: rest) (go : Owe tb e below G T (mkF m (pc + 1) Ls (.int (x >>> (y &&& 31)) :: rest))) : Owe tb e below G T (mkF m pc Ls st) := Owe.by (fun t k => XS.ishr h hx rfl hd hs k) go
theorem Owe.iushr (h : At T m c below) (hx : tb.exec = Jvm.exec) {x : Int32} {y : Int32} {rest : List Value} (hd : decode c.code pc = .ok (.iushr, 1)) (hs : st = .int y :: .int x :: rest) (go : Owe tb e below G T (mkF m (pc + 1) Ls (.int ((x.toUInt32 >>> (y &&& 31).toUInt32).toInt32) :: rest))) : Owe tb e below G T (mkF m pc Ls st) := Owe.by (fun t k => XS.iushr h hx rfl hd hs k) go
theorem Owe.irem (h : At T m c below) (hx : tb.exec = Jvm.exec) {x y : Int32} {rest : List Value} (hd : decode c.code pc = .ok (.irem, 1)) (hs : st = .int y :: .int x :: rest) (hy : y ≠ 0) (go : Owe tb e below G T (mkF m (pc + 1) Ls (.int (x - (x / y) * y) :: rest))) : Owe tb e below G T (mkF m pc Ls st) := Owe.by (fun t k => XS.irem h hx rfl hd hs hy k) go
theorem Owe.idiv (h : At T m c below) (hx : tb.exec = Jvm.exec) {x y : Int32} {rest : List Value} (hd : decode c.code pc = .ok (.idiv, 1)) (hs : st = .int y :: .int x :: rest) (hy : y ≠ 0) (go : Owe tb e below G T (mkF m (pc + 1) Ls (.int (x / y) :: rest))) : Owe tb e below G T (mkF m pc Ls st) := Owe.by (fun t k => XS.idiv h hx rfl hd hs hy k) go
theorem Owe.ineg (h : At T m c below) (hx : tb.exec = Jvm.exec) {x : Int32} {rest : List Value} (hd : decode c.code pc = .ok (.ineg, 1)) (hs : st = .int x :: rest) (go : Owe tb e below G T (mkF m (pc + 1) Ls (.int (-x) :: rest))) : Owe tb e below G T (mkF m pc Ls st) := Owe.by (fun t k => XS.ineg h hx rfl hd hs k) go
theorem Owe.iinc (h : At T m c below) (hx : tb.exec = Jvm.exec) {k : Nat} {cst : Int} {x : Int32} {l' : Array Slot} (hd : decode c.code pc = .ok (.iinc k cst, 3)) (hl : Ls[k]? = some (.val (.int x))) (hl' : storeLocals Ls k (.int (x + Int32.ofInt cst)) = some l') (go : Owe tb e below G T (mkF m (pc + 3) l' st)) : Owe tb e below G T (mkF m pc Ls st) := Owe.by (fun t k => XS.iinc h hx rfl hd hl hl' k) go
theorem Owe.dup (h : At T m c below) (hx : tb.exec = Jvm.exec) {x : Value} {rest : List Value} (hd : decode c.code pc = .ok (.dup, 1)) (hs : st = x :: rest) (hc : x.category = 1) (go : Owe tb e below G T (mkF m (pc + 1) Ls (x :: x :: rest))) : Owe tb e below G T (mkF m pc Ls st) := Owe.by (fun t k => XS.dup h hx rfl hd hs hc k) go
theorem Owe.pop (h : At T m c below) (hx : tb.exec = Jvm.exec) {x : Value} {rest : List Value} (hd : decode c.code pc = .ok (.pop, 1)) (hs : st = x :: rest) (hc : x.category = 1) (go : Owe tb e below G T (mkF m (pc + 1) Ls rest)) : Owe tb e below G T (mkF m pc Ls st) := Owe.by (fun t k => XS.pop h hx rfl hd hs hc k) go
theorem Owe.dupX1 (h : At T m c below) (hx : tb.exec = Jvm.exec) {x y : Value} {rest : List Value} (hd : decode c.code pc = .ok (.dup_x1, 1)) (hs : st = x :: y :: rest) (hc : x.category = 1) (hc2 : y.category = 1) (go : Owe tb e below G T (mkF m (pc + 1) Ls (x :: y :: x :: rest))) : Owe tb e below G T (mkF m pc Ls st) := Owe.by (fun t k => XS.dupX1 h hx rfl hd hs hc hc2 k) go
theorem Owe.dup2 (h : At T m c below) (hx : tb.exec = Jvm.exec) {x y : Value} {rest : List Value} (hd : decode c.code pc = .ok (.dup2, 1)) (hs : st = x :: y :: rest) (hc : x.category = 1) (hc' : y.category = 1) (go : Owe tb e below G T (mkF m (pc + 1) Ls (x :: y :: x :: y :: rest))) : Owe tb e below G T (mkF m pc Ls st) := Owe.by (fun t k => Jvm.Free.XT.dup2 h hx rfl hd hs hc hc' k) go
theorem Owe.istoreN (h : At T m c below) (hx : tb.exec = Jvm.exec) {k : Fin 4} {x : Int32} {rest : List Value} {l' : Array Slot} (hd : decode c.code pc = .ok (.istore_n k, 1)) (hs : st = .int x :: rest) (hl : storeLocals Ls k.val (.int x) = some l') (go : Owe tb e below G T (mkF m (pc + 1) l' rest)) : Owe tb e below G T (mkF m pc Ls st) := Owe.by (fun t k => XS.istoreN h hx rfl hd hs hl k) go
theorem Owe.istore (h : At T m c below) (hx : tb.exec = Jvm.exec) {k : Nat} {x : Int32} {rest : List Value} {l' : Array Slot} (hd : decode c.code pc = .ok (.istore k, 2)) (hs : st = .int x :: rest) (hl : storeLocals Ls k (.int x) = some l') (go : Owe tb e below G T (mkF m (pc + 2) l' rest)) : Owe tb e below G T (mkF m pc Ls st) := Owe.by (fun t k => XS.istore h hx rfl hd hs hl k) go
theorem Owe.astoreN (h : At T m c below) (hx : tb.exec = Jvm.exec) {k : Fin 4} {x : Value} {rest : List Value} {l' : Array Slot} (hd : decode c.code pc = .ok (.astore_n k, 1)) (hs : st = x :: rest) (hv : x.isRef = true) (hl : storeLocals Ls k.val x = some l') (go : Owe tb e below G T (mkF m (pc + 1) l' rest)) : Owe tb e below G T (mkF m pc Ls st) := Owe.by (fun t k => XS.astoreN h hx rfl hd hs hv hl k) go
theorem Owe.astore (h : At T m c below) (hx : tb.exec = Jvm.exec) {k : Nat} {x : Value} {rest : List Value} {l' : Array Slot} (hd : decode c.code pc = .ok (.astore k, 2)) (hs : st = x :: rest) (hv : x.isRef = true) (hl : storeLocals Ls k x = some l') (go : Owe tb e below G T (mkF m (pc + 2) l' rest)) : Owe tb e below G T (mkF m pc Ls st) := Owe.by (fun t k => XS.astore h hx rfl hd hs hv hl k) go
theorem Owe.goto (h : At T m c below) (hx : tb.exec = Jvm.exec) {o : Int} {pc' : Nat}  (hd : decode c.code pc = .ok (.goto o, 3)) (ho : 0 ≤ (pc : Int) + o) (hp : ((pc : Int) + o).toNat = pc') (go : Owe tb e below G T (mkF m pc' Ls st)) : Owe tb e below G T (mkF m pc Ls st) := Owe.by (fun t k => XS.goto h hx rfl rfl hd ho hp k) go
theorem Owe.ifYes (h : At T m c below) (hx : tb.exec = Jvm.exec) {cd : ClassFile.Cond} {x : Int32} {rest : List Value} {o : Int} {pc' : Nat}  (hd : decode c.code pc = .ok (.ifCond cd o, 3)) (hs : st = .int x :: rest) (hc : ifCond.holds cd x = true) (ho : 0 ≤ (pc : Int) + o) (hp : ((pc : Int) + o).toNat = pc') (go : Owe tb e below G T (mkF m pc' Ls rest)) : Owe tb e below G T (mkF m pc Ls st) := Owe.by (fun t k => XS.ifYes h hx rfl rfl hd hs hc ho hp k) go
theorem Owe.ifNo (h : At T m c below) (hx : tb.exec = Jvm.exec) {cd : ClassFile.Cond} {o : Int} {x : Int32} {rest : List Value} (hd : decode c.code pc = .ok (.ifCond cd o, 3)) (hs : st = .int x :: rest) (hc : ifCond.holds cd x = false) (go : Owe tb e below G T (mkF m (pc + 3) Ls rest)) : Owe tb e below G T (mkF m pc Ls st) := Owe.by (fun t k => XS.ifNo h hx rfl hd hs hc k) go
theorem Owe.icmpYes (h : At T m c below) (hx : tb.exec = Jvm.exec) {cd : ClassFile.Cond} {x y : Int32} {rest : List Value} {o : Int} {pc' : Nat}  (hd : decode c.code pc = .ok (.if_icmp cd o, 3)) (hs : st = .int y :: .int x :: rest) (hc : if_icmp.holds cd x y = true) (ho : 0 ≤ (pc : Int) + o) (hp : ((pc : Int) + o).toNat = pc') (go : Owe tb e below G T (mkF m pc' Ls rest)) : Owe tb e below G T (mkF m pc Ls st) := Owe.by (fun t k => XS.icmpYes h hx rfl rfl hd hs hc ho hp k) go
theorem Owe.icmpNo (h : At T m c below) (hx : tb.exec = Jvm.exec) {cd : ClassFile.Cond} {o : Int} {x y : Int32} {rest : List Value} (hd : decode c.code pc = .ok (.if_icmp cd o, 3)) (hs : st = .int y :: .int x :: rest) (hc : if_icmp.holds cd x y = false) (go : Owe tb e below G T (mkF m (pc + 3) Ls rest)) : Owe tb e below G T (mkF m pc Ls st) := Owe.by (fun t k => XS.icmpNo h hx rfl hd hs hc k) go
theorem Owe.ifnullYes (h : At T m c below) (hx : tb.exec = Jvm.exec) {rest : List Value} {o : Int} {pc' : Nat}  (hd : decode c.code pc = .ok (.ifnull o, 3)) (hs : st = .null :: rest) (ho : 0 ≤ (pc : Int) + o) (hp : ((pc : Int) + o).toNat = pc') (go : Owe tb e below G T (mkF m pc' Ls rest)) : Owe tb e below G T (mkF m pc Ls st) := Owe.by (fun t k => XS.ifnullYes h hx rfl rfl hd hs ho hp k) go
theorem Owe.ifnullNo (h : At T m c below) (hx : tb.exec = Jvm.exec) {o : Int} {b : Addr} {rest : List Value} (hd : decode c.code pc = .ok (.ifnull o, 3)) (hs : st = .ref b :: rest) (go : Owe tb e below G T (mkF m (pc + 3) Ls rest)) : Owe tb e below G T (mkF m pc Ls st) := Owe.by (fun t k => XS.ifnullNo h hx rfl hd hs k) go
theorem Owe.ifnonnullYes (h : At T m c below) (hx : tb.exec = Jvm.exec) {b : Addr} {rest : List Value} {o : Int} {pc' : Nat}  (hd : decode c.code pc = .ok (.ifnonnull o, 3)) (hs : st = .ref b :: rest) (ho : 0 ≤ (pc : Int) + o) (hp : ((pc : Int) + o).toNat = pc') (go : Owe tb e below G T (mkF m pc' Ls rest)) : Owe tb e below G T (mkF m pc Ls st) := Owe.by (fun t k => XS.ifnonnullYes h hx rfl rfl hd hs ho hp k) go
theorem Owe.ifnonnullNo (h : At T m c below) (hx : tb.exec = Jvm.exec) {o : Int} {rest : List Value} (hd : decode c.code pc = .ok (.ifnonnull o, 3)) (hs : st = .null :: rest) (go : Owe tb e below G T (mkF m (pc + 3) Ls rest)) : Owe tb e below G T (mkF m pc Ls st) := Owe.by (fun t k => XS.ifnonnullNo h hx rfl hd hs k) go
theorem Owe.acmpYes (h : At T m c below) (hx : tb.exec = Jvm.exec) {cd : ClassFile.ACond} {x y : Value} {rest : List Value} {o : Int} {pc' : Nat}  (hd : decode c.code pc = .ok (.if_acmp cd o, 3)) (hs : st = y :: x :: rest) (hx' : x.isRef = true) (hy' : y.isRef = true) (hc : Jvm.Free.XT.acmp cd x y = true) (ho : 0 ≤ (pc : Int) + o) (hp : ((pc : Int) + o).toNat = pc') (go : Owe tb e below G T (mkF m pc' Ls rest)) : Owe tb e below G T (mkF m pc Ls st) := Owe.by (fun t k => Jvm.Free.XT.acmpYes h hx rfl rfl hd hs hx' hy' hc ho hp k) go
theorem Owe.acmpNo (h : At T m c below) (hx : tb.exec = Jvm.exec) {cd : ClassFile.ACond} {o : Int} {x y : Value} {rest : List Value} (hd : decode c.code pc = .ok (.if_acmp cd o, 3)) (hs : st = y :: x :: rest) (hx' : x.isRef = true) (hy' : y.isRef = true) (hc : Jvm.Free.XT.acmp cd x y = false) (go : Owe tb e below G T (mkF m (pc + 3) Ls rest)) : Owe tb e below G T (mkF m pc Ls st) := Owe.by (fun t k => Jvm.Free.XT.acmpNo h hx rfl hd hs hx' hy' hc k) go
theorem Owe.ladd (h : At T m c below) (hx : tb.exec = Jvm.exec) {x : Int64} {y : Int64} {rest : List Value} (hd : decode c.code pc = .ok (.ladd, 1)) (hs : st = .long y :: .long x :: rest) (go : Owe tb e below G T (mkF m (pc + 1) Ls (.long (x + y) :: rest))) : Owe tb e below G T (mkF m pc Ls st) := Owe.by (fun t k => XS.ladd h hx rfl hd hs k) go
theorem Owe.lsub (h : At T m c below) (hx : tb.exec = Jvm.exec) {x : Int64} {y : Int64} {rest : List Value} (hd : decode c.code pc = .ok (.lsub, 1)) (hs : st = .long y :: .long x :: rest) (go : Owe tb e below G T (mkF m (pc + 1) Ls (.long (x - y) :: rest))) : Owe tb e below G T (mkF m pc Ls st) := Owe.by (fun t k => XS.lsub h hx rfl hd hs k) go
theorem Owe.lmul (h : At T m c below) (hx : tb.exec = Jvm.exec) {x : Int64} {y : Int64} {rest : List Value} (hd : decode c.code pc = .ok (.lmul, 1)) (hs : st = .long y :: .long x :: rest) (go : Owe tb e below G T (mkF m (pc + 1) Ls (.long (x * y) :: rest))) : Owe tb e below G T (mkF m pc Ls st) := Owe.by (fun t k => XS.lmul h hx rfl hd hs k) go
theorem Owe.land (h : At T m c below) (hx : tb.exec = Jvm.exec) {x : Int64} {y : Int64} {rest : List Value} (hd : decode c.code pc = .ok (.land, 1)) (hs : st = .long y :: .long x :: rest) (go : Owe tb e below G T (mkF m (pc + 1) Ls (.long (x &&& y) :: rest))) : Owe tb e below G T (mkF m pc Ls st) := Owe.by (fun t k => XS.land h hx rfl hd hs k) go
theorem Owe.lor (h : At T m c below) (hx : tb.exec = Jvm.exec) {x : Int64} {y : Int64} {rest : List Value} (hd : decode c.code pc = .ok (.lor, 1)) (hs : st = .long y :: .long x :: rest) (go : Owe tb e below G T (mkF m (pc + 1) Ls (.long (x ||| y) :: rest))) : Owe tb e below G T (mkF m pc Ls st) := Owe.by (fun t k => XS.lor h hx rfl hd hs k) go
theorem Owe.lxor (h : At T m c below) (hx : tb.exec = Jvm.exec) {x : Int64} {y : Int64} {rest : List Value} (hd : decode c.code pc = .ok (.lxor, 1)) (hs : st = .long y :: .long x :: rest) (go : Owe tb e below G T (mkF m (pc + 1) Ls (.long (x ^^^ y) :: rest))) : Owe tb e below G T (mkF m pc Ls st) := Owe.by (fun t k => XS.lxor h hx rfl hd hs k) go
theorem Owe.lshl (h : At T m c below) (hx : tb.exec = Jvm.exec) {x : Int64} {y : Int32} {rest : List Value} (hd : decode c.code pc = .ok (.lshl, 1)) (hs : st = .int y :: .long x :: rest) (go : Owe tb e below G T (mkF m (pc + 1) Ls (.long (x <<< (y &&& 0x3f).toInt64) :: rest))) : Owe tb e below G T (mkF m pc Ls st) := Owe.by (fun t k => XS.lshl h hx rfl hd hs k) go
theorem Owe.lshr (h : At T m c below) (hx : tb.exec = Jvm.exec) {x : Int64} {y : Int32} {rest : List Value} (hd : decode c.code pc = .ok (.lshr, 1)) (hs : st = .int y :: .long x :: rest) (go : Owe tb e below G T (mkF m (pc + 1) Ls (.long (x >>> (y &&& 0x3f).toInt64) :: rest))) : Owe tb e below G T (mkF m pc Ls st) := Owe.by (fun t k => XS.lshr h hx rfl hd hs k) go
theorem Owe.lushr (h : At T m c below) (hx : tb.exec = Jvm.exec) {x : Int64} {y : Int32} {rest : List Value} (hd : decode c.code pc = .ok (.lushr, 1)) (hs : st = .int y :: .long x :: rest) (go : Owe tb e below G T (mkF m (pc + 1) Ls (.long ((x.toUInt64 >>> (y &&& 0x3f).toInt64.toUInt64).toInt64) :: rest))) : Owe tb e below G T (mkF m pc Ls st) := Owe.by (fun t k => XS.lushr h hx rfl hd hs k) go
theorem Owe.lneg (h : At T m c below) (hx : tb.exec = Jvm.exec) {v : Int64} {rest : List Value} (hd : decode c.code pc = .ok (.lneg, 1)) (hs : st = .long v :: rest) (go : Owe tb e below G T (mkF m (pc + 1) Ls (.long (-v) :: rest))) : Owe tb e below G T (mkF m pc Ls st) := Owe.by (fun t k => XS.lneg h hx rfl hd hs k) go
theorem Owe.i2l (h : At T m c below) (hx : tb.exec = Jvm.exec) {v : Int32} {rest : List Value} (hd : decode c.code pc = .ok (.i2l, 1)) (hs : st = .int v :: rest) (go : Owe tb e below G T (mkF m (pc + 1) Ls (.long (v.toInt64) :: rest))) : Owe tb e below G T (mkF m pc Ls st) := Owe.by (fun t k => XS.i2l h hx rfl hd hs k) go
theorem Owe.l2i (h : At T m c below) (hx : tb.exec = Jvm.exec) {v : Int64} {rest : List Value} (hd : decode c.code pc = .ok (.l2i, 1)) (hs : st = .long v :: rest) (go : Owe tb e below G T (mkF m (pc + 1) Ls (.int (v.toInt32) :: rest))) : Owe tb e below G T (mkF m pc Ls st) := Owe.by (fun t k => XS.l2i h hx rfl hd hs k) go
theorem Owe.i2b (h : At T m c below) (hx : tb.exec = Jvm.exec) {v : Int32} {rest : List Value} (hd : decode c.code pc = .ok (.i2b, 1)) (hs : st = .int v :: rest) (go : Owe tb e below G T (mkF m (pc + 1) Ls (.int (v.toInt8.toInt32) :: rest))) : Owe tb e below G T (mkF m pc Ls st) := Owe.by (fun t k => XS.i2b h hx rfl hd hs k) go
theorem Owe.i2c (h : At T m c below) (hx : tb.exec = Jvm.exec) {v : Int32} {rest : List Value} (hd : decode c.code pc = .ok (.i2c, 1)) (hs : st = .int v :: rest) (go : Owe tb e below G T (mkF m (pc + 1) Ls (.int (v.toUInt32.toUInt16.toUInt32.toInt32) :: rest))) : Owe tb e below G T (mkF m pc Ls st) := Owe.by (fun t k => XS.i2c h hx rfl hd hs k) go
theorem Owe.i2s (h : At T m c below) (hx : tb.exec = Jvm.exec) {v : Int32} {rest : List Value} (hd : decode c.code pc = .ok (.i2s, 1)) (hs : st = .int v :: rest) (go : Owe tb e below G T (mkF m (pc + 1) Ls (.int (v.toInt16.toInt32) :: rest))) : Owe tb e below G T (mkF m pc Ls st) := Owe.by (fun t k => XS.i2s h hx rfl hd hs k) go
theorem Owe.lloadN (h : At T m c below) (hx : tb.exec = Jvm.exec) {k : Fin 4} {v : Int64} (hd : decode c.code pc = .ok (.lload_n k, 1)) (hl : Ls[k.val]? = some (.val (.long v))) (go : Owe tb e below G T (mkF m (pc + 1) Ls (.long v :: st))) : Owe tb e below G T (mkF m pc Ls st) := Owe.by (fun t k => XS.lloadN h hx rfl hd hl k) go
theorem Owe.lload (h : At T m c below) (hx : tb.exec = Jvm.exec) {k : Nat} {v : Int64} (hd : decode c.code pc = .ok (.lload k, 2)) (hl : Ls[k]? = some (.val (.long v))) (go : Owe tb e below G T (mkF m (pc + 2) Ls (.long v :: st))) : Owe tb e below G T (mkF m pc Ls st) := Owe.by (fun t k => XS.lload h hx rfl hd hl k) go
theorem Owe.lstoreN (h : At T m c below) (hx : tb.exec = Jvm.exec) {k : Fin 4} {x : Int64} {rest : List Value} {l' : Array Slot} (hd : decode c.code pc = .ok (.lstore_n k, 1)) (hs : st = .long x :: rest) (hl : storeLocals Ls k.val (.long x) = some l') (go : Owe tb e below G T (mkF m (pc + 1) l' rest)) : Owe tb e below G T (mkF m pc Ls st) := Owe.by (fun t k => XS.lstoreN h hx rfl hd hs hl k) go
theorem Owe.lstore (h : At T m c below) (hx : tb.exec = Jvm.exec) {k : Nat} {x : Int64} {rest : List Value} {l' : Array Slot} (hd : decode c.code pc = .ok (.lstore k, 2)) (hs : st = .long x :: rest) (hl : storeLocals Ls k (.long x) = some l') (go : Owe tb e below G T (mkF m (pc + 2) l' rest)) : Owe tb e below G T (mkF m pc Ls st) := Owe.by (fun t k => XS.lstore h hx rfl hd hs hl k) go
theorem Owe.lconst (h : At T m c below) (hx : tb.exec = Jvm.exec) {k : Fin 2} (hd : decode c.code pc = .ok (.lconst k, 1)) {w : Int64} (hw : (Int64.ofNat k) = w) (go : Owe tb e below G T (mkF m (pc + 1) Ls (.long w :: st))) : Owe tb e below G T (mkF m pc Ls st) := by subst hw; exact Owe.by (fun t k => XS.lconst h hx rfl hd k) go
theorem Owe.lcmp (h : At T m c below) (hx : tb.exec = Jvm.exec) {x y : Int64} {rest : List Value} (hd : decode c.code pc = .ok (.lcmp, 1)) (hs : st = .long y :: .long x :: rest) (go : Owe tb e below G T (mkF m (pc + 1) Ls (.int (lcmpW x y) :: rest))) : Owe tb e below G T (mkF m pc Ls st) := Owe.by (fun t k => XS.lcmp h hx rfl hd hs k) go
theorem Owe.tswIn (h : At T m c below) (hx : tb.exec = Jvm.exec) {dflt low high : Int} {offs : Array Int} {len : Nat} {o : Int} {pc' : Nat}  (hd : decode c.code pc = .ok (.tableswitch dflt low high offs, len)) {i : Int32} {rest : List Value} (hs : st = .int i :: rest) (hin : ¬ (i.toInt < low ∨ i.toInt > high)) (hoff : offs[(i.toInt - low).toNat]? = some o) (ho : 0 ≤ (pc : Int) + o) (hp : ((pc : Int) + o).toNat = pc') (go : Owe tb e below G T (mkF m pc' Ls rest)) : Owe tb e below G T (mkF m pc Ls st) := Owe.by (fun t k => XS.tswIn h hx rfl rfl hd hs hin hoff ho hp k) go
theorem Owe.tswOut (h : At T m c below) (hx : tb.exec = Jvm.exec) {dflt low high : Int} {offs : Array Int} {len : Nat} {pc' : Nat}  (hd : decode c.code pc = .ok (.tableswitch dflt low high offs, len)) {i : Int32} {rest : List Value} (hs : st = .int i :: rest) (hout : i.toInt < low ∨ i.toInt > high) (ho : 0 ≤ (pc : Int) + dflt) (hp : ((pc : Int) + dflt).toNat = pc') (go : Owe tb e below G T (mkF m pc' Ls rest)) : Owe tb e below G T (mkF m pc Ls st) := Owe.by (fun t k => XS.tswOut h hx rfl rfl hd hs hout ho hp k) go
theorem Owe.dload (h : At T m c below) (hx : tb.exec = Jvm.exec) {k : Nat} {v : UInt64} (hd : decode c.code pc = .ok (.dload k, 2)) (hl : Ls[k]? = some (.val (.double v))) (go : Owe tb e below G T (mkF m (pc + 2) Ls (.double v :: st))) : Owe tb e below G T (mkF m pc Ls st) := Owe.by (fun t k => XS.dload h hx rfl hd hl k) go
theorem Owe.dloadN (h : At T m c below) (hx : tb.exec = Jvm.exec) {k : Fin 4} {v : UInt64} (hd : decode c.code pc = .ok (.dload_n k, 1)) (hl : Ls[k.val]? = some (.val (.double v))) (go : Owe tb e below G T (mkF m (pc + 1) Ls (.double v :: st))) : Owe tb e below G T (mkF m pc Ls st) := Owe.by (fun t k => XS.dloadN h hx rfl hd hl k) go
theorem Owe.dstore (h : At T m c below) (hx : tb.exec = Jvm.exec) {k : Nat} {x : UInt64} {rest : List Value} {l' : Array Slot} (hd : decode c.code pc = .ok (.dstore k, 2)) (hs : st = .double x :: rest) (hl : storeLocals Ls k (.double x) = some l') (go : Owe tb e below G T (mkF m (pc + 2) l' rest)) : Owe tb e below G T (mkF m pc Ls st) := Owe.by (fun t k => XS.dstore h hx rfl hd hs hl k) go
theorem Owe.dstoreN (h : At T m c below) (hx : tb.exec = Jvm.exec) {k : Fin 4} {x : UInt64} {rest : List Value} {l' : Array Slot} (hd : decode c.code pc = .ok (.dstore_n k, 1)) (hs : st = .double x :: rest) (hl : storeLocals Ls k.val (.double x) = some l') (go : Owe tb e below G T (mkF m (pc + 1) l' rest)) : Owe tb e below G T (mkF m pc Ls st) := Owe.by (fun t k => XS.dstoreN h hx rfl hd hs hl k) go
theorem Owe.dconst0 (h : At T m c below) (hx : tb.exec = Jvm.exec) {v : UInt64} (hd : decode c.code pc = .ok (.dconst 0, 1)) (hv : FP.dconst0 = v) (go : Owe tb e below G T (mkF m (pc + 1) Ls (.double v :: st))) : Owe tb e below G T (mkF m pc Ls st) := Owe.by (fun t k => XS.dconst0 h hx rfl hd hv k) go
theorem Owe.dconst1 (h : At T m c below) (hx : tb.exec = Jvm.exec) {v : UInt64} (hd : decode c.code pc = .ok (.dconst 1, 1)) (hv : FP.dconst1 = v) (go : Owe tb e below G T (mkF m (pc + 1) Ls (.double v :: st))) : Owe tb e below G T (mkF m pc Ls st) := Owe.by (fun t k => XS.dconst1 h hx rfl hd hv k) go
theorem Owe.i2dS (h : At T m c below) (hx : tb.exec = Jvm.exec) {x : Int32} {v : UInt64} {rest : List Value} (hd : decode c.code pc = .ok (.i2d, 1)) (hs : st = .int x :: rest) (hv : FP.i2d x = v) (go : Owe tb e below G T (mkF m (pc + 1) Ls (.double v :: rest))) : Owe tb e below G T (mkF m pc Ls st) := Owe.by (fun t k => XS.i2dS h hx rfl hd hs hv k) go
theorem Owe.l2dS (h : At T m c below) (hx : tb.exec = Jvm.exec) {x : Int64} {v : UInt64} {rest : List Value} (hd : decode c.code pc = .ok (.l2d, 1)) (hs : st = .long x :: rest) (hv : FP.l2d x = v) (go : Owe tb e below G T (mkF m (pc + 1) Ls (.double v :: rest))) : Owe tb e below G T (mkF m pc Ls st) := Owe.by (fun t k => XS.l2dS h hx rfl hd hs hv k) go
theorem Owe.dcmpS (h : At T m c below) (hx : tb.exec = Jvm.exec) {o : CmpOp} {x y : UInt64} {v : Int32} {rest : List Value} (hd : decode c.code pc = .ok (.dcmp o, 1)) (hs : st = .double y :: .double x :: rest) (hv : cmpValue (FP.dcmp x y) o = v) (go : Owe tb e below G T (mkF m (pc + 1) Ls (.int v :: rest))) : Owe tb e below G T (mkF m pc Ls st) := Owe.by (fun t k => XS.dcmpS h hx rfl hd hs hv k) go
theorem Owe.daddS (h : At T m c below) (hx : tb.exec = Jvm.exec) {x y v : UInt64} {rest : List Value} (hd : decode c.code pc = .ok (.dadd, 1)) (hs : st = .double y :: .double x :: rest) (hn : Jvm.Free.Fl.NoNaN64 (FP.dadd x y)) (hv : FP.dadd x y = v) (go : Owe tb e below G T (mkF m (pc + 1) Ls (.double v :: rest))) : Owe tb e below G T (mkF m pc Ls st) := Owe.by (fun t k => XS.daddS h hx rfl hd hs hn hv k) go
theorem Owe.dmulS (h : At T m c below) (hx : tb.exec = Jvm.exec) {x y v : UInt64} {rest : List Value} (hd : decode c.code pc = .ok (.dmul, 1)) (hs : st = .double y :: .double x :: rest) (hn : Jvm.Free.Fl.NoNaN64 (FP.dmul x y)) (hv : FP.dmul x y = v) (go : Owe tb e below G T (mkF m (pc + 1) Ls (.double v :: rest))) : Owe tb e below G T (mkF m pc Ls st) := Owe.by (fun t k => XS.dmulS h hx rfl hd hs hn hv k) go
theorem Owe.ddivS (h : At T m c below) (hx : tb.exec = Jvm.exec) {x y v : UInt64} {rest : List Value} (hd : decode c.code pc = .ok (.ddiv, 1)) (hs : st = .double y :: .double x :: rest) (hn : Jvm.Free.Fl.NoNaN64 (FP.ddiv x y)) (hv : FP.ddiv x y = v) (go : Owe tb e below G T (mkF m (pc + 1) Ls (.double v :: rest))) : Owe tb e below G T (mkF m pc Ls st) := Owe.by (fun t k => XS.ddivS h hx rfl hd hs hn hv k) go
end Plain
section Heavy
variable {p : Program} {l : Launch} {e : Env} {R : Room} {s : State} {m : MethodId} {args : Array Value} {below : List Frame} {meth : Method} {c : Code} {T : State} {locs : List Loc} {cells slots : Nat} {Z : State} {a0 : Array Value} {h : Heap} {G : Outcome → State → Prop} {pc : Nat} {Ls : Array Slot} {st : List Value}
theorem Owe.ldcI (X : Stand p l e R s m args below meth c T locs cells slots) (hx : p.tables.exec = Jvm.exec) {own : String} {index : Nat} {v : Int32} (hown : s.vm.findClass own = some m.cls) (w : (Cond.constant own index v).before args s = true) (hd : decode c.code pc = .ok (.ldc index, 2)) (go : Owe p.tables e below G T (mkF m (pc + 2) Ls (.int v :: st))) : Owe p.tables e below G T (mkF m pc Ls st) :=
  Owe.by (X.ldcInt hx hown w (g := mkF m pc Ls st) rfl hd) go
theorem Owe.new (X : Stand p l e R s m args below meth c T locs cells slots) (hx : p.tables.exec = Jvm.exec) (hZ : Z.Warmed39 s.vm) {own C : String} {index n : Nat} (hown : s.vm.findClass own = some m.cls) (w : (Cond.classLink own index C).before a0 Z = true) (wi : (Cond.instantiable C n).before a0 Z = true) (wz : (Cond.initialized C).before a0 Z = true) (eT : T.heap = h) (hd : decode c.code pc = .ok (.new index, 3)) (hc : cells + 1 ≤ R.cells) (hl : slots + n ≤ R.slots)
    (go : ∀ (T' : State) (h' : Heap) (a : Addr), a = h.size → Stand p l e R s m args below meth c T' locs (cells + 1) (slots + n) → T'.heap = h' → Ext h h' → Exa Z h' a C → (∀ {O nm d : String} {ty : FieldType}, Laid Z a0 C O nm d → parseFieldDescriptor d = some ty → Fld Z h' a O nm d (defaultValue ty)) → Owe p.tables e below G T' (mkF m (pc + 3) Ls (.ref a :: st))) : Owe p.tables e below G T (mkF m pc Ls st) := by
  obtain ⟨T', h', X', e', E', A', D', -, st'⟩ := newO X hx hZ hown w wi wz eT (g := mkF m pc Ls st) rfl hd hc hl
  exact Owe.by st' (go T' h' _ rfl X' e' E' A' D')
theorem Owe.newarr (X : Stand p l e R s m args below meth c T locs cells slots) (hx : p.tables.exec = Jvm.exec) (hZ : Z.Warmed39 s.vm) {aty : ArrayType} (w : (Cond.arrayClass (newarray.typeOf aty)).before a0 Z = true) (eT : T.heap = h) (hd : decode c.code pc = .ok (.newarray aty, 2)) {n : Int32} {rest : List Value} (hs : st = .int n :: rest) (hn : ¬ n < 0) {cap : Nat} (hcap : n.toNatClampNeg ≤ cap) (hb : cap * 8 ≤ 536870912) (hc : cells + 1 ≤ R.cells) (hl : slots + cap ≤ R.slots)
    (go : ∀ (T' : State) (h' : Heap) (a : Addr) (k : ClassId), a = h.size → Stand p l e R s m args below meth c T' locs (cells + 1) (slots + cap) → T'.heap = h' → Ext h h' → Arv Z h' a k (newarray.typeOf aty) n [] (defaultValue (newarray.typeOf aty)) → Owe p.tables e below G T' (mkF m (pc + 2) Ls (.ref a :: rest))) : Owe p.tables e below G T (mkF m pc Ls st) := by
  obtain ⟨T', h', k, X', e', E', A', st'⟩ := newP X hx hZ w eT (g := mkF m pc Ls st) rfl hd hs hn hcap hb hc hl
  exact Owe.by st' (go T' h' _ k rfl X' e' E' (Arv.new A' hn))
theorem Owe.castore (X : Stand p l e R s m args below meth c T locs cells slots) (hx : p.tables.exec = Jvm.exec) (hZ : Z.Warmed39 s.vm) (eT : T.heap = h) {a : Addr} {k : ClassId} {n : Int32} {vs : List Value} {dv : Value} (V : Arv Z h a k .char n vs dv) {j x : Int32} (i : Nat) (hj : j.toNatClampNeg = i) (hi : i < vs.length) (hin : ¬ j < 0 ∧ j < n) (hd : decode c.code pc = .ok (.castore, 1)) {rest : List Value} (hs : st = .int x :: .int j :: .ref a :: rest)
    (go : ∀ (T' : State) (h' : Heap), Stand p l e R s m args below meth c T' (locs ++ [⟨a, j.toNatClampNeg⟩]) cells slots → T'.heap = h' → Wr h h' a j.toNatClampNeg (.int (nar .char x)) → Arv Z h' a k .char n (vs.set i (.int (nar .char x))) dv → Owe p.tables e below G T' (mkF m (pc + 1) Ls rest)) : Owe p.tables e below G T (mkF m pc Ls st) := by
  obtain ⟨cl, A, q, S, M, H, U⟩ := V
  obtain ⟨T', h', X', e', W', st'⟩ := stC X hx hZ eT A (j := j) (inb_of S hin) (g := mkF m pc Ls st) rfl hs hd
  exact Owe.by st' (go T' h' X' e' W' (Arv.set A q S M H U (fits_nar_char _) W' i hj hi))
theorem Owe.bastore (X : Stand p l e R s m args below meth c T locs cells slots) (hx : p.tables.exec = Jvm.exec) (hZ : Z.Warmed39 s.vm) (eT : T.heap = h) {a : Addr} {k : ClassId} {n : Int32} {vs : List Value} {dv : Value} (V : Arv Z h a k .byte n vs dv) {j x : Int32} (i : Nat) (hj : j.toNatClampNeg = i) (hi : i < vs.length) (hin : ¬ j < 0 ∧ j < n) (hd : decode c.code pc = .ok (.bastore, 1)) {rest : List Value} (hs : st = .int x :: .int j :: .ref a :: rest)
    (go : ∀ (T' : State) (h' : Heap), Stand p l e R s m args below meth c T' (locs ++ [⟨a, j.toNatClampNeg⟩]) cells slots → T'.heap = h' → Wr h h' a j.toNatClampNeg (.int (x.toInt8.toInt32)) → Arv Z h' a k .byte n (vs.set i (.int (x.toInt8.toInt32))) dv → Owe p.tables e below G T' (mkF m (pc + 1) Ls rest)) : Owe p.tables e below G T (mkF m pc Ls st) := by
  obtain ⟨cl, A, q, S, M, H, U⟩ := V
  obtain ⟨T', h', X', e', W', st'⟩ := stB X hx hZ eT A (j := j) (inb_of S hin) (g := mkF m pc Ls st) rfl hs hd
  exact Owe.by st' (go T' h' X' e' W' (Arv.set A q S M H U (fits_nar_byte _) W' i hj hi))
theorem Owe.caload (X : Stand p l e R s m args below meth c T locs cells slots) (hx : p.tables.exec = Jvm.exec) (hZ : Z.Warmed39 s.vm) (eT : T.heap = h) {a : Addr} {k : ClassId} {n : Int32} {vs : List Value} {dv : Value} (V : Arv Z h a k .char n vs dv) {j : Int32} {v : Value} (hin : ¬ j < 0 ∧ j < n) (hv : vs.getD j.toNatClampNeg dv = v) (hd : decode c.code pc = .ok (.caload, 1)) {rest : List Value} (hs : st = .int j :: .ref a :: rest)
    (go : Owe p.tables e below G T (mkF m (pc + 1) Ls (v :: rest))) : Owe p.tables e below G T (mkF m pc Ls st) := by
  obtain ⟨cl, A, q, S, M, H, U⟩ := V
  exact Owe.by (fun t k => X.caload hx (by rw [eT]; exact A.1) (State.isArrayOf_alike hZ.alike A.2.1) A.2.2 (inb_of S hin) (H.at (inb_of S hin) hv) (g := mkF m pc Ls st) rfl hs hd t k) go
theorem Owe.baload (X : Stand p l e R s m args below meth c T locs cells slots) (hx : p.tables.exec = Jvm.exec) (hZ : Z.Warmed39 s.vm) (eT : T.heap = h) {a : Addr} {k : ClassId} {n : Int32} {vs : List Value} {dv : Value} (V : Arv Z h a k .byte n vs dv) {j : Int32} {v : Value} (hin : ¬ j < 0 ∧ j < n) (hv : vs.getD j.toNatClampNeg dv = v) (hd : decode c.code pc = .ok (.baload, 1)) {rest : List Value} (hs : st = .int j :: .ref a :: rest)
    (go : Owe p.tables e below G T (mkF m (pc + 1) Ls (v :: rest))) : Owe p.tables e below G T (mkF m pc Ls st) := by
  obtain ⟨cl, A, q, S, M, H, U⟩ := V
  exact Owe.by (fun t k => X.baloadBytes hx (by rw [eT]; exact A.1) (State.isArrayOf_alike hZ.alike A.2.1) A.2.2 (inb_of S hin) (H.at (inb_of S hin) hv) (g := mkF m pc Ls st) rfl hs hd t k) go
theorem Owe.arrlen (X : Stand p l e R s m args below meth c T locs cells slots) (hx : p.tables.exec = Jvm.exec) (hZ : Z.Warmed39 s.vm) (eT : T.heap = h) {a : Addr} {k : ClassId} {ty : FieldType} {n : Int32} {vs : List Value} {dv : Value} (V : Arv Z h a k ty n vs dv) (hd : decode c.code pc = .ok (.arraylength, 1)) {rest : List Value} (hs : st = .ref a :: rest)
    (go : Owe p.tables e below G T (mkF m (pc + 1) Ls (.int n :: rest))) : Owe p.tables e below G T (mkF m pc Ls st) := by
  obtain ⟨cl, A, q, S, M, H, U⟩ := V
  refine Owe.by (fun t k => X.arraylength hx (by rw [eT]; exact A.1) (State.isArrayOf_alike hZ.alike A.2.1) (g := mkF m pc Ls st) rfl hs hd t ?_) go
  rw [len_of S M]; exact k
theorem Owe.getf (X : Stand p l e R s m args below meth c T locs cells slots) (hx : p.tables.exec = Jvm.exec) (hZ : Z.Warmed39 s.vm) {own R0 O n d host : String} {index : Nat} (hown : s.vm.findClass own = some m.cls) (w : (Cond.fieldLink own index R0 n d).before a0 Z = true ∨ (Cond.fieldLinkNest own index R0 n d host).before a0 Z = true) (via : Via Z R0 O n d) (eT : T.heap = h) {a : Addr} {v : Value} (F : Fld Z h a O n d v) (hd : decode c.code pc = .ok (.getfield index, 3)) {rest : List Value} (hs : st = .ref a :: rest)
    (go : ∀ T' : State, Stand p l e R s m args below meth c T' locs cells slots → T'.heap = h → Owe p.tables e below G T' (mkF m (pc + 3) Ls (v :: rest))) : Owe p.tables e below G T (mkF m pc Ls st) := by
  obtain ⟨T', X', e', st'⟩ := getF X hx hZ hown w via eT F (g := mkF m pc Ls st) rfl hs hd
  exact Owe.by st' (go T' X' e')
theorem Owe.gets (X : Stand p l e R s m args below meth c T locs cells slots) (hx : p.tables.exec = Jvm.exec) (hZ : Z.Warmed39 s.vm) {own R0 O n d : String} {index : Nat} (hown : s.vm.findClass own = some m.cls) (w : (Cond.fieldLink own index R0 n d).before a0 Z = true) (via : Via Z R0 O n d) (eT : T.heap = h) {v : Value} (F : Sta Z h O n d v) (hd : decode c.code pc = .ok (.getstatic index, 3))
    (go : ∀ T' : State, Stand p l e R s m args below meth c T' locs cells slots → T'.heap = h → Owe p.tables e below G T' (mkF m (pc + 3) Ls (v :: st))) : Owe p.tables e below G T (mkF m pc Ls st) := by
  obtain ⟨T', X', e', st'⟩ := getS X hx hZ (host := "") hown w via eT F (g := mkF m pc Ls st) rfl hd
  exact Owe.by st' (go T' X' e')
theorem Owe.putf (X : Stand p l e R s m args below meth c T locs cells slots) (hx : p.tables.exec = Jvm.exec) (hZ : Z.Warmed39 s.vm) {own R0 O n d host C : String} {index kk : Nat} {ty : FieldType} (hown : s.vm.findClass own = some m.cls) (w : (Cond.fieldLink own index R0 n d).before a0 Z = true ∨ (Cond.fieldLinkNest own index R0 n d host).before a0 Z = true) (via : Via Z R0 O n d) (eT : T.heap = h) {a : Addr} {v old : Value} (F : Fld Z h a O n d old) (E : Exa Z h a C)
    (L : (Cond.lays C O n d).before a0 Z = true ∨ ((Cond.laysFinal C O n d).before a0 Z = true ∧ own = O ∧ meth.name = "<init>")) (wi : (Cond.instantiable C kk).before a0 Z = true) (hty : parseFieldDescriptor d = some ty) (hn : narrow ty v = v) (hf : fits ty v = true) (hd : decode c.code pc = .ok (.putfield index, 3)) {rest : List Value} (hs : st = v :: .ref a :: rest)
    (go : ∀ (T' : State) (h' : Heap), Stand p l e R s m args below meth c T' (locs ++ [⟨a, Jvm.RoadKit.slotOf Z O n d⟩]) cells slots → T'.heap = h' → Wr h h' a (Jvm.RoadKit.slotOf Z O n d) v → Owe p.tables e below G T' (mkF m (pc + 3) Ls rest)) : Owe p.tables e below G T (mkF m pc Ls st) := by
  obtain ⟨T', h', X', e', W', st'⟩ := putF X hx hZ hown w via eT F E L wi hty hn hf (g := mkF m pc Ls st) rfl hs hd
  exact Owe.by st' (go T' h' X' e' W')
theorem Owe.objinit (X : Stand p l e R s m args below meth c T locs cells slots) (hx : p.tables.exec = Jvm.exec) (hZ : Z.Warmed39 s.vm) {own : String} {idx : Nat} (hown : s.vm.findClass own = some m.cls) (w1 : (Cond.methodLink own idx Lib.objectInit).before a0 Z = true) (w2 : (Cond.instanceMethod Lib.objectInit).before a0 Z = true) (w3 : (Cond.code Lib.objectInit ⟨#[0xb1]⟩ 1 none).before a0 Z = true) (eT : T.heap = h) (hsize : Ls.size = c.maxLocals) {a : Addr} {rest : List Value} (hs : st = .ref a :: rest) (hd : decode c.code pc = .ok (.invokespecial idx, 3)) (hf : 1 ≤ R.frames) {W : Nat} (hW : (rest.map fun v => v.category).sum ≤ W) (hl : W + 12 ≤ R.locals)
    (go : ∀ T' : State, Stand p l e R s m args below meth c T' locs cells slots → T'.heap = h → Owe p.tables e below G T' (mkF m (pc + 3) Ls rest)) : Owe p.tables e below G T (mkF m pc Ls st) := by
  obtain ⟨T', X', e', st'⟩ := initO X hx hZ hown w1 w2 w3 eT (g := mkF m pc Ls st) rfl hsize hs hd hf (W := W) (by show 2 * 0 + _ ≤ W; omega) hl
  exact Owe.by st' (go T' X' e')
theorem Owe.castY (X : Stand p l e R s m args below meth c T locs cells slots) (hx : p.tables.exec = Jvm.exec) (hZ : Z.Warmed39 s.vm) {own K : String} {index : Nat} (hown : s.vm.findClass own = some m.cls) (w : (Cond.classLink own index K).before a0 Z = true) (eT : T.heap = h) {a : Addr} (F : Ins Z h a K true) (hd : decode c.code pc = .ok (.checkcast index, 3)) {rest : List Value} (hs : st = .ref a :: rest)
    (go : ∀ T' : State, Stand p l e R s m args below meth c T' locs cells slots → T'.heap = h → Owe p.tables e below G T' (mkF m (pc + 3) Ls st)) : Owe p.tables e below G T (mkF m pc Ls st) := by
  obtain ⟨T', X', e', st'⟩ := Jvm.RoadKit.castY X hx hZ hown w eT F (g := mkF m pc Ls st) rfl hs hd
  exact Owe.by st' (go T' X' e')
theorem Owe.instY (X : Stand p l e R s m args below meth c T locs cells slots) (hx : p.tables.exec = Jvm.exec) (hZ : Z.Warmed39 s.vm) {own K : String} {index : Nat} (hown : s.vm.findClass own = some m.cls) (w : (Cond.classLink own index K).before a0 Z = true) (eT : T.heap = h) {a : Addr} (F : Ins Z h a K true) (hd : decode c.code pc = .ok (.instanceof index, 3)) {rest : List Value} (hs : st = .ref a :: rest)
    (go : ∀ T' : State, Stand p l e R s m args below meth c T' locs cells slots → T'.heap = h → Owe p.tables e below G T' (mkF m (pc + 3) Ls (.int 1 :: rest))) : Owe p.tables e below G T (mkF m pc Ls st) := by
  obtain ⟨T', X', e', st'⟩ := Jvm.RoadKit.instY X hx hZ hown w eT F (g := mkF m pc Ls st) rfl hs hd
  exact Owe.by st' (go T' X' e')
theorem Owe.instNo (X : Stand p l e R s m args below meth c T locs cells slots) (hx : p.tables.exec = Jvm.exec) (hZ : Z.Warmed39 s.vm) {own K C : String} {index : Nat} (hown : s.vm.findClass own = some m.cls) (w : (Cond.classLink own index K).before a0 Z = true) (eT : T.heap = h) {a : Addr} (E : Exa Z h a C) (F : ∃ c t, Z.vm.findClass C = some c ∧ Z.vm.findClass K = some t ∧ Z.vm.assignable c t = false) (hd : decode c.code pc = .ok (.instanceof index, 3)) {rest : List Value} (hs : st = .ref a :: rest)
    (go : ∀ T' : State, Stand p l e R s m args below meth c T' locs cells slots → T'.heap = h → Owe p.tables e below G T' (mkF m (pc + 3) Ls (.int 0 :: rest))) : Owe p.tables e below G T (mkF m pc Ls st) := by
  obtain ⟨T', X', e', st'⟩ := Jvm.RoadKit.instNo X hx hZ hown w eT E F (g := mkF m pc Ls st) rfl hs hd
  exact Owe.by st' (go T' X' e')
theorem Owe.instNull (X : Stand p l e R s m args below meth c T locs cells slots) (hx : p.tables.exec = Jvm.exec) {index : Nat} (hd : decode c.code pc = .ok (.instanceof index, 3)) {rest : List Value} (hs : st = .null :: rest) (go : Owe p.tables e below G T (mkF m (pc + 3) Ls (.int 0 :: rest))) : Owe p.tables e below G T (mkF m pc Ls st) :=
  Owe.by (Jvm.Stand.instanceofNull X hx (g := mkF m pc Ls st) rfl hs hd) go
theorem Owe.aaload (X : Stand p l e R s m args below meth c T locs cells slots) (hx : p.tables.exec = Jvm.exec) (hZ : Z.Warmed39 s.vm) (eT : T.heap = h) {a : Addr} {cl : Cell} {ty : FieldType} (A : Jvm.RoadKit.Arr Z h a cl ty) (hty : ty.isReference = true) {j : Int32} {v : Value} (hin : ¬ (j < 0 ∨ cl.slots.size ≤ j.toNatClampNeg)) (hv : cl.slots[j.toNatClampNeg]? = some v) (hd : decode c.code pc = .ok (.aaload, 1)) {rest : List Value} (hs : st = .int j :: .ref a :: rest)
    (go : Owe p.tables e below G T (mkF m (pc + 1) Ls (v :: rest))) : Owe p.tables e below G T (mkF m pc Ls st) :=
  Owe.by (fun t k => X.aaload hx (by rw [eT]; exact A.1) (State.isArrayOf_alike hZ.alike A.2.1) hty A.2.2 hin hv (g := mkF m pc Ls st) rfl hs hd t k) go
theorem Owe.aaloadV (X : Stand p l e R s m args below meth c T locs cells slots) (hx : p.tables.exec = Jvm.exec) (hZ : Z.Warmed39 s.vm) (eT : T.heap = h) {a : Addr} {k : ClassId} {ty : FieldType} {n : Int32} {vs : List Value} {dv : Value} (V : Arv Z h a k ty n vs dv) (hty : ty.isReference = true) {j : Int32} {v : Value} (hin : ¬ j < 0 ∧ j < n) (hv : vs.getD j.toNatClampNeg dv = v) (hd : decode c.code pc = .ok (.aaload, 1)) {rest : List Value} (hs : st = .int j :: .ref a :: rest)
    (go : Owe p.tables e below G T (mkF m (pc + 1) Ls (v :: rest))) : Owe p.tables e below G T (mkF m pc Ls st) := by
  obtain ⟨cl, A, q, S, M, H, U⟩ := V
  exact Owe.aaload X hx hZ eT A hty (inb_of S hin) (H.at (inb_of S hin) hv) hd hs go
theorem Owe.ldc2L (X : Stand p l e R s m args below meth c T locs cells slots) (hx : p.tables.exec = Jvm.exec) {own : String} {index : Nat} {v : Int64} (hown : s.vm.findClass own = some m.cls) (w : (Cond.constantLong own index v).before args s = true) (hd : decode c.code pc = .ok (.ldc2_w index, 3)) (go : Owe p.tables e below G T (mkF m (pc + 3) Ls (.long v :: st))) : Owe p.tables e below G T (mkF m pc Ls st) :=
  Owe.by (X.ldc2Long hx hown w (g := mkF m pc Ls st) rfl hd) go
theorem Owe.clone (X : Stand p l e R s m args below meth c T locs cells slots) (hx : p.tables.exec = Jvm.exec) (hZ : Z.Warmed39 s.vm) {own ad : String} {index : Nat} (hown : s.vm.findClass own = some m.cls) (w1 : (Cond.methodLink own index ⟨ad, "clone", "()Ljava/lang/Object;"⟩).before a0 Z = true) (w2 : (Cond.sameMethod ad "java/lang/Object" "clone" "()Ljava/lang/Object;").before a0 Z = true) (w3 : (Cond.native ⟨"java/lang/Object", "clone", "()Ljava/lang/Object;"⟩).before a0 Z = true)
    (w4 : (Cond.instanceMethod ⟨"java/lang/Object", "clone", "()Ljava/lang/Object;"⟩).before a0 Z = true) (w5 : (Cond.selects ad ⟨ad, "clone", "()Ljava/lang/Object;"⟩ ⟨"java/lang/Object", "clone", "()Ljava/lang/Object;"⟩).before a0 Z = true) (w6 : (Cond.castable ad "java/lang/Cloneable").before a0 Z = true)
    (eT : T.heap = h) {a : Addr} {k : ClassId} {ty : FieldType} {n : Int32} {vs : List Value} {dv : Value} (V : Arv Z h a k ty n vs dv) (E : Exa Z h a ad) (hsize : Ls.size = c.maxLocals) {rest : List Value} (hs : st = .ref a :: rest) (hd : decode c.code pc = .ok (.invokevirtual index, 3))
    (hf : 1 ≤ R.frames) {W cap : Nat} (hW : (rest.map fun v => v.category).sum ≤ W) (hl : W + 14 ≤ R.locals) (hcap : n.toNatClampNeg ≤ cap) (hc : cells + 1 ≤ R.cells) (hsl : slots + cap ≤ R.slots)
    (go : ∀ (T' : State) (h' : Heap) (b : Addr), b = h.size → Stand p l e R s m args below meth c T' locs (cells + 1) (slots + cap) → T'.heap = h' → Ext h h' → Arv Z h' b k ty n vs dv → Exa Z h' b ad → Owe p.tables e below G T' (mkF m (pc + 3) Ls (.ref b :: rest))) : Owe p.tables e below G T (mkF m pc Ls st) := by
  obtain ⟨T', h', X', e', E', A', B', st'⟩ := cloneH X hx hZ hown w1 w2 w3 w4 w5 w6 eT V.arh E (g := mkF m pc Ls st) rfl hsize hs hd hf (W := W) (by show 2 * 0 + _ ≤ W; omega) hl hcap hc hsl
  exact Owe.by st' (go T' h' _ rfl X' e' E' A' B')
/-! calls by a contract in the Back form of 'backOf' and of the pasted String laws -/
variable {y z : MethodName} {as' : Array Value} {Q : Option Value → Heap → List Loc → Prop} {W kc ks : Nat}
theorem Owe.special (X : Stand p l e R s m args below meth c T locs cells slots) (hx : p.tables.exec = Jvm.exec) {own : String} {index : Nat} (hy1 : y.name = "<init>") (hown : s.vm.findClass own = some m.cls) (hlink : (Cond.methodLink own index y).before args s = true) (hinst : (Cond.instanceMethod y).before args s = true) {bytes : ByteArray} {maxL : Nat} (hcode : (Cond.code y bytes maxL none).before args s = true) (hy : y.cls ≠ "java/lang/invoke/MethodHandle" ∧ y.cls ≠ "java/lang/invoke/VarHandle")
    (hK : Back l R p e below s args y 3 W (fun A a => a = as' ∧ A.U.heap = h ∧ A.cells + kc ≤ R.cells ∧ A.slots + ks ≤ R.slots) (fun A _ v B => ∃ L, Q v B.U.heap L ∧ B.locs = A.locs ++ L ∧ B.cells = A.cells + kc ∧ B.slots = A.slots + ks))
    (hsize : Ls.size = c.maxLocals) {a : Addr} {argsL rest : List Value} (hlen : ∀ sig, parseMethodDescriptor y.desc = some sig → argsL.length = sig.parameters.length) (hs : st = argsL.reverse ++ .ref a :: rest) (hW : (rest.map fun v => v.category).sum ≤ W) (hd : decode c.code pc = .ok (.invokespecial index, 3))
    (has : (.ref a :: argsL).toArray = as') (eT : T.heap = h) (hc : cells + kc ≤ R.cells) (hl : slots + ks ≤ R.slots)
    (go : ∀ (T' : State) (v : Option Value) (L : List Loc), Stand p l e R s m args below meth c T' (locs ++ L) (cells + kc) (slots + ks) → Q v T'.heap L → Owe p.tables e below G T' (mkF m (pc + 3) Ls (v.toList ++ rest))) : Owe p.tables e below G T (mkF m pc Ls st) := by
  obtain ⟨v, _, ⟨T', L', k', n'⟩, -, X', ⟨L, hQ, l', y', z'⟩, st'⟩ := X.specialBack hx hy1 hown hlink hinst hcode hy hK (g := mkF m pc Ls st) rfl hsize (Steps.refl _) hlen hs (by show 2 * 0 + _ ≤ W; omega) hd (fun _ _ => ⟨has, eT, hc, hl⟩)
  dsimp only [Pt.U, Pt.locs, Pt.cells, Pt.slots] at X' l' y' z' st' hQ
  subst l' y' z'
  exact Owe.by (fun t k => st'.trans k) (go T' v L X' hQ)
theorem Owe.specialRef (X : Stand p l e R s m args below meth c T locs cells slots) (hx : p.tables.exec = Jvm.exec) (hZ : Z.Warmed39 s.vm) {own : String} {index : Nat} (hy1 : y.name = "<init>") (hown : s.vm.findClass own = some m.cls) (href : (Cond.methodRef own index y).before a0 Z = true) (hinst : (Cond.instanceMethod y).before a0 Z = true) {bytes : ByteArray} {maxL : Nat} (hcode : (Cond.code y bytes maxL none).before a0 Z = true) (hy : y.cls ≠ "java/lang/invoke/MethodHandle" ∧ y.cls ≠ "java/lang/invoke/VarHandle")
    (hK : Back l R p e below s args y 3 W (fun A a => a = as' ∧ A.U.heap = h ∧ A.cells + kc ≤ R.cells ∧ A.slots + ks ≤ R.slots) (fun A _ v B => ∃ L, Q v B.U.heap L ∧ B.locs = A.locs ++ L ∧ B.cells = A.cells + kc ∧ B.slots = A.slots + ks))
    (hsize : Ls.size = c.maxLocals) {a : Addr} {argsL rest : List Value} (hlen : ∀ sig, parseMethodDescriptor y.desc = some sig → argsL.length = sig.parameters.length) (hs : st = argsL.reverse ++ .ref a :: rest) (hW : (rest.map fun v => v.category).sum ≤ W) (hd : decode c.code pc = .ok (.invokespecial index, 3))
    (has : (.ref a :: argsL).toArray = as') (eT : T.heap = h) (hc : cells + kc ≤ R.cells) (hl : slots + ks ≤ R.slots)
    (go : ∀ (T' : State) (v : Option Value) (L : List Loc), Stand p l e R s m args below meth c T' (locs ++ L) (cells + kc) (slots + ks) → Q v T'.heap L → Owe p.tables e below G T' (mkF m (pc + 3) Ls (v.toList ++ rest))) : Owe p.tables e below G T (mkF m pc Ls st) := by
  have hU : Z.Warmed39 T.vm := wtrans hZ X.warmed
  obtain ⟨obj, methO, hnO, hmO, hstO, habO⟩ := Cond.instanceMethod_spec hinst
  obtain ⟨methO', cO, hmO', hcO, hbO, hlO, -, hlockO, -, hsigO⟩ := Cond.code_spec hnO hcode
  cases hmO.symm.trans hmO'
  obtain ⟨kO, hkO, hnameO⟩ := className_of_methodNamed hnO
  obtain ⟨hnameMO, hdescO⟩ := name_of_methodNamed hnO hmO
  have href' := Cond.methodRef_warmed39 (vm' := T.vm) hU hnO hy href
  have hownT : (Z.setVm T.vm).vm.findClass own = some m.cls := by show T.vm.findClass own = _; rw [X.warmed.alike.findClass]; exact hown
  have hnT : (Z.setVm T.vm).methodNamed? y = some obj := by rw [State.methodNamed?_setVm hU.alike]; exact hnO
  obtain ⟨m', c', hf, hready, hfind, hnr⟩ := Cond.methodRef_named e hownT href'
  have hfo := State.methodFound?_of_named hnT hy
  cases hfo.symm.trans hf
  cases (findClass_of_methodNamed hnT).symm.trans hfind
  obtain ⟨kO₂, hkO₂, heO₂⟩ := hU.alike.2.2 _ _ hkO
  have hmO₂ : T.vm.method? obj = some methO := by rw [hU.alike.method?]; exact hmO
  have hfound : lookupSpecial T.vm obj.cls "<init>" methO.desc = .method obj := by
    rw [hU.alike.lookupSpecial, hdescO, ← hy1]; exact lookupSpecial_of_named hnO hmO hstO
  obtain ⟨v, ⟨T', L', k', n'⟩, X', ⟨L, hQ, l', y', z'⟩, st'⟩ := hK m meth c ⟨T, locs, cells, slots⟩ (mkF m pc Ls rest) (.invokespecial index) obj (.ref a :: argsL).toArray X rfl hsize hd (by show 2 * 0 + (rest.map fun v => v.category).sum ≤ W; omega) hnT ⟨has, eT, hc, hl⟩
  dsimp only [Pt.U, Pt.locs, Pt.cells, Pt.slots] at X' l' y' z' st' hQ
  subst l' y' z'
  refine Owe.by (fun t k => ?_) (go T' v L X' hQ)
  have hstep : ∀ target, (∀ acts, Steps p.tables e below (doInvoke e (T.setTop (mkF m pc Ls rest)) acts obj (.ref a :: argsL).toArray).1 target) → Steps p.tables e below (T.setTop (mkF m pc Ls st)) target := fun target hrest => by
    jvm_step X.here [hx, hd, invokespecial.wp_init (e := e) (s := T) (k := kO₂) (meth := methO) (m := obj) (a := a) (args := argsL) (rest := rest) (f := mkF m pc Ls st)
      X.here.top hnr hready hkO₂ hmO₂ (by rw [hnameMO]; exact hy1) hstO habO hfound (hlen _ hsigO) hs]
    exact hrest
  exact hstep _ fun acts => by rw [doInvoke_state]; exact st'.trans k
theorem Owe.virt (X : Stand p l e R s m args below meth c T locs cells slots) (hx : p.tables.exec = Jvm.exec) (hZ : Z.Warmed39 s.vm) {own C : String} {index : Nat} (hown : s.vm.findClass own = some m.cls) (hlink : (Cond.methodLink own index y).before args s = true) (hdecl : (Cond.declares y).before args s = true) (hsel : (Cond.selects C y z).before args s = true) (hinst : (Cond.instanceMethod z).before args s = true) (hnf : NotFace s y) (hy : y.cls ≠ "java/lang/invoke/MethodHandle" ∧ y.cls ≠ "java/lang/invoke/VarHandle")
    (hK : Back l R p e below s args z 3 W (fun A a => a = as' ∧ A.U.heap = h ∧ A.cells + kc ≤ R.cells ∧ A.slots + ks ≤ R.slots) (fun A _ v B => ∃ L, Q v B.U.heap L ∧ B.locs = A.locs ++ L ∧ B.cells = A.cells + kc ∧ B.slots = A.slots + ks))
    (hsize : Ls.size = c.maxLocals) {a : Addr} {argsL rest : List Value} (E : Exa Z h a C) (hlen : ∀ sig, parseMethodDescriptor y.desc = some sig → argsL.length = sig.parameters.length) (hs : st = argsL.reverse ++ .ref a :: rest) (hW : (rest.map fun v => v.category).sum ≤ W) (hd : decode c.code pc = .ok (.invokevirtual index, 3))
    (has : (.ref a :: argsL).toArray = as') (eT : T.heap = h) (hc : cells + kc ≤ R.cells) (hl : slots + ks ≤ R.slots)
    (go : ∀ (T' : State) (v : Option Value) (L : List Loc), Stand p l e R s m args below meth c T' (locs ++ L) (cells + kc) (slots + ks) → Q v T'.heap L → Owe p.tables e below G T' (mkF m (pc + 3) Ls (v.toList ++ rest))) : Owe p.tables e below G T (mkF m pc Ls st) := by
  obtain ⟨cq, kq, qa, qb, qc⟩ := isOf hZ eT E
  obtain ⟨v, _, ⟨T', L', k', n'⟩, -, X', ⟨L, hQ, l', y', z'⟩, st'⟩ := X.virtualBack hx hown hlink hdecl hnf hsel hinst hy hK qa qc (g := mkF m pc Ls st) rfl hsize (Steps.refl _) hlen hs (by show 2 * 0 + _ ≤ W; omega) hd (fun _ _ => ⟨has, eT, hc, hl⟩)
  dsimp only [Pt.U, Pt.locs, Pt.cells, Pt.slots] at X' l' y' z' st' hQ
  subst l' y' z'
  exact Owe.by (fun t k => st'.trans k) (go T' v L X' hQ)
theorem Owe.virtUp (X : Stand p l e R s m args below meth c T locs cells slots) (hx : p.tables.exec = Jvm.exec) (hZ : Z.Warmed39 s.vm) {own C owner : String} {index : Nat} (hown : s.vm.findClass own = some m.cls) (hlink : (Cond.methodLink own index y).before args s = true) (hsame : (Cond.sameMethod y.cls owner y.name y.desc).before args s = true) (hdecl : (Cond.declares ⟨owner, y.name, y.desc⟩).before args s = true) (howner : owner ≠ "java/lang/invoke/MethodHandle" ∧ owner ≠ "java/lang/invoke/VarHandle") (hsel : (Cond.selects C y z).before args s = true) (hinst : (Cond.instanceMethod z).before args s = true)
    (hK : Back l R p e below s args z 3 W (fun A a => a = as' ∧ A.U.heap = h ∧ A.cells + kc ≤ R.cells ∧ A.slots + ks ≤ R.slots) (fun A _ v B => ∃ L, Q v B.U.heap L ∧ B.locs = A.locs ++ L ∧ B.cells = A.cells + kc ∧ B.slots = A.slots + ks))
    (hsize : Ls.size = c.maxLocals) {a : Addr} {argsL rest : List Value} (E : Exa Z h a C) (hlen : ∀ sig, parseMethodDescriptor y.desc = some sig → argsL.length = sig.parameters.length) (hs : st = argsL.reverse ++ .ref a :: rest) (hW : (rest.map fun v => v.category).sum ≤ W) (hd : decode c.code pc = .ok (.invokevirtual index, 3))
    (has : (.ref a :: argsL).toArray = as') (eT : T.heap = h) (hc : cells + kc ≤ R.cells) (hl : slots + ks ≤ R.slots)
    (go : ∀ (T' : State) (v : Option Value) (L : List Loc), Stand p l e R s m args below meth c T' (locs ++ L) (cells + kc) (slots + ks) → Q v T'.heap L → Owe p.tables e below G T' (mkF m (pc + 3) Ls (v.toList ++ rest))) : Owe p.tables e below G T (mkF m pc Ls st) := by
  obtain ⟨cq, kq, qa, qb, qc⟩ := isOf hZ eT E
  obtain ⟨v, _, ⟨T', L', k', n'⟩, -, X', ⟨L, hQ, l', y', z'⟩, st'⟩ := X.virtualBackUp hx hown hlink hsame hdecl howner hsel hinst hK qa qc (g := mkF m pc Ls st) rfl hsize (Steps.refl _) hlen hs (by show 2 * 0 + _ ≤ W; omega) hd (fun _ _ => ⟨has, eT, hc, hl⟩)
  dsimp only [Pt.U, Pt.locs, Pt.cells, Pt.slots] at X' l' y' z' st' hQ
  subst l' y' z'
  exact Owe.by (fun t k => st'.trans k) (go T' v L X' hQ)
theorem Owe.stat (X : Stand p l e R s m args below meth c T locs cells slots) (hx : p.tables.exec = Jvm.exec) {own : String} {index : Nat} {bytes : ByteArray} {maxL : Nat} {ret : Option FieldType} (hown : s.vm.findClass own = some m.cls) (hlink : (Cond.methodLink own index y).before args s = true) (hstat : (Cond.static y).before args s = true) (hinit : (Cond.initialized y.cls).before args s = true) (hcode : (Cond.code y bytes maxL ret).before args s = true) (hy : y.cls ≠ "java/lang/invoke/MethodHandle" ∧ y.cls ≠ "java/lang/invoke/VarHandle")
    (hK : Back l R p e below s args y 3 W (fun A a => a = as' ∧ A.U.heap = h ∧ A.cells + kc ≤ R.cells ∧ A.slots + ks ≤ R.slots) (fun A _ v B => ∃ L, Q v B.U.heap L ∧ B.locs = A.locs ++ L ∧ B.cells = A.cells + kc ∧ B.slots = A.slots + ks))
    (hsize : Ls.size = c.maxLocals) {argsL rest : List Value} (hlen : ∀ sig, parseMethodDescriptor y.desc = some sig → argsL.length = sig.parameters.length) (hs : st = argsL.reverse ++ rest) (hW : (rest.map fun v => v.category).sum ≤ W) (hd : decode c.code pc = .ok (.invokestatic index, 3))
    (has : argsL.toArray = as') (eT : T.heap = h) (hc : cells + kc ≤ R.cells) (hl : slots + ks ≤ R.slots)
    (go : ∀ (T' : State) (v : Option Value) (L : List Loc), Stand p l e R s m args below meth c T' (locs ++ L) (cells + kc) (slots + ks) → Q v T'.heap L → Owe p.tables e below G T' (mkF m (pc + 3) Ls (v.toList ++ rest))) : Owe p.tables e below G T (mkF m pc Ls st) := by
  obtain ⟨v, _, ⟨T', L', k', n'⟩, -, X', ⟨L, hQ, l', y', z'⟩, st'⟩ := Jvm.LawKit.callS X hx hown hlink hstat hinit hcode hy hK (g := mkF m pc Ls st) rfl hsize hlen hs (by show 2 * 0 + _ ≤ W; omega) hd (fun _ _ => ⟨has, eT, hc, hl⟩)
  dsimp only [Pt.U, Pt.locs, Pt.cells, Pt.slots] at X' l' y' z' st' hQ
  subst l' y' z'
  exact Owe.by st' (go T' v L X' hQ)
/-! the end: it returns -/
theorem Owe.retN (X : Stand p l e R s m args below meth c T locs cells slots) (hx : p.tables.exec = Jvm.exec) (hlk : meth.locks = false) {z : Int32} {t : FieldType} {rest : List Value} (hret : meth.sig.returnType = some t) (ht : t = .boolean ∨ t = .byte ∨ t = .char ∨ t = .short) (hd : decode c.code pc = .ok (.ireturn, 1)) (hs : st = .int z :: rest)
    (go : ∀ fs : List Frame, FrameEnd s (.returned (some (.int (nar t z)))) (T.setFrames fs) locs cells slots → G (.returned (some (.int (nar t z)))) (T.setFrames fs)) : Owe p.tables e below G T (mkF m pc Ls st) := by
  subst hs
  obtain ⟨fs, hr, hrun, hended, hW, hsame⟩ := X.leave (v := some (.int (nar t z))) (fun h => by rw [hret] at h; cases h) hlk
  exact ⟨_, _, Jvm.RoadKit.retN X hx hret ht hd hr, hrun, hended, go fs ⟨⟨_, rfl⟩, hW, hsame⟩⟩
theorem Owe.retI (X : Stand p l e R s m args below meth c T locs cells slots) (hx : p.tables.exec = Jvm.exec) (hlk : meth.locks = false) {z : Int32} {rest : List Value} (hret : meth.sig.returnType = some .int) (hd : decode c.code pc = .ok (.ireturn, 1)) (hs : st = .int z :: rest)
    (go : ∀ fs : List Frame, FrameEnd s (.returned (some (.int z))) (T.setFrames fs) locs cells slots → G (.returned (some (.int z))) (T.setFrames fs)) : Owe p.tables e below G T (mkF m pc Ls st) := by
  subst hs
  obtain ⟨fs, hr, hrun, hended, hW, hsame⟩ := X.leave (v := some (.int z)) (fun h => by rw [hret] at h; cases h) hlk
  have hm' : T.vm.method? m = some meth := X.method'
  have hn : narrow .int (.int z) = .int z := rfl
  refine ⟨_, _, ?_, hrun, hended, go fs ⟨⟨_, rfl⟩, hW, hsame⟩⟩
  show Steps p.tables e below (T.setTop { method := m, pc := pc, locals := Ls, stack := _ :: rest, locked := none }) _
  jvm_step X.here [X.here.top, hx, hd, hm', hret, hn]
  first | (intro acts; rw [hr _ acts rfl rfl rfl]) | rw [hr _ _ rfl rfl rfl]
  exact Steps.refl _
theorem Owe.retR (X : Stand p l e R s m args below meth c T locs cells slots) (hx : p.tables.exec = Jvm.exec) (hlk : meth.locks = false) {w : Value} {t : FieldType} {rest : List Value} (hret : meth.sig.returnType = some t) (hn : narrow t w = w) (ht : t.isReference = true) (hw : w.isRef = true) (hd : decode c.code pc = .ok (.areturn, 1)) (hs : st = w :: rest)
    (go : ∀ fs : List Frame, FrameEnd s (.returned (some w)) (T.setFrames fs) locs cells slots → G (.returned (some w)) (T.setFrames fs)) : Owe p.tables e below G T (mkF m pc Ls st) := by
  subst hs
  obtain ⟨fs, hr, hrun, hended, hW, hsame⟩ := X.leave (v := some w) (fun h => by rw [hret] at h; cases h) hlk
  have hm' : T.vm.method? m = some meth := X.method'
  refine ⟨_, _, ?_, hrun, hended, go fs ⟨⟨_, rfl⟩, hW, hsame⟩⟩
  show Steps p.tables e below (T.setTop { method := m, pc := pc, locals := Ls, stack := _ :: rest, locked := none }) _
  jvm_step X.here [X.here.top, hx, hd, hm', hret, hn, hw]
  try (refine ⟨ht, ?_⟩)
  first | (intro acts; rw [hr _ acts rfl rfl rfl]) | rw [hr _ _ rfl rfl rfl]
  exact Steps.refl _
theorem Owe.ret0 (X : Stand p l e R s m args below meth c T locs cells slots) (hx : p.tables.exec = Jvm.exec) (hlk : meth.locks = false) (hret : meth.sig.returnType = none) (hd : decode c.code pc = .ok (.return_, 1)) (hs : st = [])
    (go : ∀ fs : List Frame, FrameEnd s (.returned none) (T.setFrames fs) locs cells slots → G (.returned none) (T.setFrames fs)) : Owe p.tables e below G T (mkF m pc Ls st) := by
  subst hs
  obtain ⟨fs, hr, hrun, hended, hW, hsame⟩ := X.leave (v := none) (fun _ => rfl) hlk
  exact ⟨_, _, X.returnOut hx hret hd hr, hrun, hended, go fs ⟨⟨_, rfl⟩, hW, hsame⟩⟩
end Heavy
theorem frameMono {s t : State} {o : Outcome} {L : List Loc} {k n k' n' : Nat} (h : FrameEnd s o t L k n) (hk : k ≤ k') (hn : n ≤ n') : FrameEnd s o t L k' n' := ⟨h.1, h.2.1, h.2.2.mono hk hn⟩
end Own
end Jvm.Pilot.@@N@@
namespace Jvm.Pilot.@@N@@
namespace Own
open Jvm Jvm.ClassFile Sem Op Lib Jvm.Free Jvm.Stand Jvm.LawKit Jvm.RoadKit
/-! WALKS THAT MAY LOAD A STRING CONSTANT COLD: the Stand is over 's.setVm vm0', 'hS' says what has come since the true start s -/
section Cold
variable {p : Program} {l : Launch} {e : Env} {R : Room} {s : State} {m : MethodId} {args : Array Value} {below : List Frame} {meth : Method} {c : Code} {T : State} {locs : List Loc} {cells slots : Nat} {Z : State} {a0 : Array Value} {h : Heap} {G : Outcome → State → Prop} {pc : Nat} {Ls : Array Slot} {st : List Value} {vm0 : Vm} {k0 : Nat} {EL : List (String × Nat)}
theorem coldMono {s t : State} {o : Outcome} {L : List Loc} {k n k' n' : Nat} (h : ReturnedEndW s o t L k n) (hk : k ≤ k') (hn : n ≤ n') : ReturnedEndW s o t L k' n' := ⟨h.1, h.2.1, h.2.2.1, h.2.2.2.mono hk hn⟩
theorem Owe.ldcO (X : Stand p l e R (s.setVm vm0) m args below meth c T locs cells slots) (hx : p.tables.exec = Jvm.exec) (hZ : Z.Warmed39 (s.setVm vm0).vm) (hS : s.Since vm0 k0) (hEL : EW Z a0 EL) (H : CHv Z EL vm0 h) {own text : String} {index : Nat} (hown : (s.setVm vm0).vm.findClass own = some m.cls) (w : (Cond.stringLink own index text).before a0 Z = true) (wS : ∀ a ∈ Bundle.stringAtoms, a.before a0 Z = true) (eT : T.heap = h) (hk : k0 ≤ h.size) (hd : decode c.code pc = .ok (.ldc index, 2)) {n : Nat} (hn : 4 * text.toList.length ≤ n) (hbig : n ≤ 536870912) (hc : cells + 2 ≤ R.cells) (hl : slots + (n + 4) ≤ R.slots)
    (go : ∀ (a : Addr) (T' : State) (h' : Heap) (k1 : Nat), Stand p l e R (s.setVm T'.vm) m args below meth c T' locs (cells + 2) (slots + (n + 4)) → T'.heap = h' → Ext h h' → s.Since T'.vm k1 → k1 ≤ h'.size → Z.Warmed39 (s.setVm T'.vm).vm → (s.setVm T'.vm).vm.findClass own = some m.cls → CHr Z EL vm0 h T'.vm h' → Lit (s.setVm T'.vm) own index a → Owe p.tables e below G T' (mkF m (pc + 2) Ls (.ref a :: st))) : Owe p.tables e below G T (mkF m pc Ls st) := by
  obtain ⟨a, T', h', k1, X', e', E', hS', hk', hZ', hown', hC', L', st'⟩ := ldcOH X hx hZ hown w wS eT hS hk hEL H (g := mkF m pc Ls st) rfl hd hn hbig hc hl
  exact Owe.by st' (go a T' h' k1 X' e' E' hS' hk' hZ' hown' hC' L')
theorem Owe.ldcV (X : Stand p l e R (s.setVm vm0) m args below meth c T locs cells slots) (hx : p.tables.exec = Jvm.exec) (hZ : Z.Warmed39 (s.setVm vm0).vm) (hS : s.Since vm0 k0) (hEL : EW Z a0 EL) (H : CHv Z EL vm0 h) {own text : String} {index : Nat} (hmem : (own, index) ∈ EL) (hown : (s.setVm vm0).vm.findClass own = some m.cls) (w : (Cond.stringLink own index text).before a0 Z = true) (wS : ∀ a ∈ Bundle.stringAtoms, a.before a0 Z = true) (eT : T.heap = h) (hk : k0 ≤ h.size)
    {vs : List Value} {z : Int32} (ht : (∀ c ∈ text.toList, c.toNat < 256) ∧ text.toList.map (fun c => Value.int (Jvm.Lit.byteI c.toNat.toUInt16)) = vs) (hz : ¬ z < 0) (hlv : z.toNatClampNeg = vs.length) (hd : decode c.code pc = .ok (.ldc index, 2)) {n : Nat} (hn : 4 * text.toList.length ≤ n) (hbig : n ≤ 536870912) (hc : cells + 2 ≤ R.cells) (hl : slots + (n + 4) ≤ R.slots)
    (go : ∀ (a : Addr) (T' : State) (h' : Heap) (k1 : Nat) (b : Addr) (k : ClassId), Stand p l e R (s.setVm T'.vm) m args below meth c T' locs (cells + 2) (slots + (n + 4)) → T'.heap = h' → Ext h h' → s.Since T'.vm k1 → k1 ≤ h'.size → Z.Warmed39 (s.setVm T'.vm).vm → (s.setVm T'.vm).vm.findClass own = some m.cls →
      Exa Z h' a "java/lang/String" → Fld Z h' a "java/lang/String" "coder" "B" (.int 0) → Fld Z h' a "java/lang/String" "value" "[B" (.ref b) → Arv Z h' b k .byte z vs (.int 0) → CHr Z EL vm0 h T'.vm h' → Lit (s.setVm T'.vm) own index a → (∀ x, Safe Z EL T'.vm h' x → x ≠ a ∧ x ≠ b) → Owe p.tables e below G T' (mkF m (pc + 2) Ls (.ref a :: st))) : Owe p.tables e below G T (mkF m pc Ls st) := by
  obtain ⟨a, T', h', k1, b, k, X', e', E', hS', hk', hZ', hown', r1, r2, r3, r4, -, -, r7, r8, r9, st'⟩ := ldcCH X hx hZ hown w wS eT hS hk hEL hmem H ht hz hlv (g := mkF m pc Ls st) rfl hd hn hbig hc hl
  exact Owe.by st' (go a T' h' k1 b k X' e' E' hS' hk' hZ' hown' r1 r2 r3 r4 r7 r8 r9)
theorem Owe.ldcA (X : Stand p l e R (s.setVm vm0) m args below meth c T locs cells slots) (hx : p.tables.exec = Jvm.exec) (hZ : Z.Warmed39 (s.setVm vm0).vm) {own text : String} {index : Nat} (hown : (s.setVm vm0).vm.findClass own = some m.cls) (w : (Cond.stringLink own index text).before a0 Z = true) {a : Addr} (L : Lit (s.setVm vm0) own index a) (hd : decode c.code pc = .ok (.ldc index, 2)) (go : Owe p.tables e below G T (mkF m (pc + 2) Ls (.ref a :: st))) : Owe p.tables e below G T (mkF m pc Ls st) :=
  Owe.by (ldcAgain X hx hZ hown w L (g := mkF m pc Ls st) rfl hd) go
variable {y z : MethodName} {as' : Array Value} {Q : Option Value → Heap → List Loc → Prop} {W kc ks : Nat}
theorem Owe.specialS (X : Stand p l e R (s.setVm vm0) m args below meth c T locs cells slots) (hx : p.tables.exec = Jvm.exec) (hZ : Z.Warmed39 (s.setVm vm0).vm) (hS : s.Since vm0 k0) (hk : k0 ≤ h.size) {own : String} {index : Nat} (hy1 : y.name = "<init>") (hown : (s.setVm vm0).vm.findClass own = some m.cls) (hlink : (Cond.methodLink own index y).before args (s.setVm vm0) = true) (hinst : (Cond.instanceMethod y).before args (s.setVm vm0) = true) {bytes : ByteArray} {maxL : Nat} (hcode : (Cond.code y bytes maxL none).before args (s.setVm vm0) = true) (hy : y.cls ≠ "java/lang/invoke/MethodHandle" ∧ y.cls ≠ "java/lang/invoke/VarHandle")
    (hK : BackS l R p e below (s.setVm vm0) args y 3 W (fun A a => a = as' ∧ A.U.heap = h ∧ A.cells + kc ≤ R.cells ∧ A.slots + ks ≤ R.slots) (fun A _ v B => ∃ L, Q v B.U.heap L ∧ B.locs = A.locs ++ L ∧ B.cells = A.cells + kc ∧ B.slots = A.slots + ks ∧ CHr Z EL vm0 h B.U.vm B.U.heap))
    (hsize : Ls.size = c.maxLocals) {a : Addr} {argsL rest : List Value} (hlen : ∀ sig, parseMethodDescriptor y.desc = some sig → argsL.length = sig.parameters.length) (hs : st = argsL.reverse ++ .ref a :: rest) (hW : (rest.map fun v => v.category).sum ≤ W) (hd : decode c.code pc = .ok (.invokespecial index, 3))
    (has : (.ref a :: argsL).toArray = as') (eT : T.heap = h) (hc : cells + kc ≤ R.cells) (hl : slots + ks ≤ R.slots)
    (go : ∀ (T' : State) (v : Option Value) (L : List Loc), Stand p l e R (s.setVm T'.vm) m args below meth c T' (locs ++ L) (cells + kc) (slots + ks) → s.Since T'.vm T'.heap.size → Z.Warmed39 (s.setVm T'.vm).vm → (s.setVm T'.vm).vm.findClass own = some m.cls → CHr Z EL vm0 h T'.vm T'.heap → Q v T'.heap L → Owe p.tables e below G T' (mkF m (pc + 3) Ls (v.toList ++ rest))) : Owe p.tables e below G T (mkF m pc Ls st) := by
  obtain ⟨v, _, ⟨T', L', k', n'⟩, -, X', hS', hg', ⟨L, hQ, l', y', z', hC'⟩, st'⟩ := X.specialBackS hx hy1 hown hlink hinst hcode hy hK (g := mkF m pc Ls st) rfl hsize (Steps.refl _) hlen hs (by show 2 * 0 + _ ≤ W; omega) hd (fun _ _ => ⟨has, eT, hc, hl⟩)
  dsimp only [Pt.U, Pt.locs, Pt.cells, Pt.slots] at X' l' y' z' st' hQ hS' hg' hC'
  subst l' y' z'
  exact Owe.by (fun t k => st'.trans k) (go T' v L X' (hS.trans hS' (Nat.le_trans hk (eT ▸ hg'))) (State.Warmed39.trans (t := s.setVm vm0) hZ hS'.1) (by rw [show (s.setVm T'.vm).vm = T'.vm from rfl, hS'.1.alike.findClass]; exact hown) hC' hQ)
theorem Owe.virtS (X : Stand p l e R (s.setVm vm0) m args below meth c T locs cells slots) (hx : p.tables.exec = Jvm.exec) (hZ : Z.Warmed39 (s.setVm vm0).vm) (hS : s.Since vm0 k0) (hk : k0 ≤ h.size) {own C : String} {index : Nat} (hown : (s.setVm vm0).vm.findClass own = some m.cls) (hlink : (Cond.methodLink own index y).before args (s.setVm vm0) = true) (hdecl : (Cond.declares y).before args (s.setVm vm0) = true) (hsel : (Cond.selects C y z).before args (s.setVm vm0) = true) (hinst : (Cond.instanceMethod z).before args (s.setVm vm0) = true) (hnf : NotFace (s.setVm vm0) y) (hy : y.cls ≠ "java/lang/invoke/MethodHandle" ∧ y.cls ≠ "java/lang/invoke/VarHandle")
    (hK : BackS l R p e below (s.setVm vm0) args z 3 W (fun A a => a = as' ∧ A.U.heap = h ∧ A.cells + kc ≤ R.cells ∧ A.slots + ks ≤ R.slots) (fun A _ v B => ∃ L, Q v B.U.heap L ∧ B.locs = A.locs ++ L ∧ B.cells = A.cells + kc ∧ B.slots = A.slots + ks ∧ CHr Z EL vm0 h B.U.vm B.U.heap))
    (hsize : Ls.size = c.maxLocals) {a : Addr} {argsL rest : List Value} (E : Exa Z h a C) (hlen : ∀ sig, parseMethodDescriptor y.desc = some sig → argsL.length = sig.parameters.length) (hs : st = argsL.reverse ++ .ref a :: rest) (hW : (rest.map fun v => v.category).sum ≤ W) (hd : decode c.code pc = .ok (.invokevirtual index, 3))
    (has : (.ref a :: argsL).toArray = as') (eT : T.heap = h) (hc : cells + kc ≤ R.cells) (hl : slots + ks ≤ R.slots)
    (go : ∀ (T' : State) (v : Option Value) (L : List Loc), Stand p l e R (s.setVm T'.vm) m args below meth c T' (locs ++ L) (cells + kc) (slots + ks) → s.Since T'.vm T'.heap.size → Z.Warmed39 (s.setVm T'.vm).vm → (s.setVm T'.vm).vm.findClass own = some m.cls → CHr Z EL vm0 h T'.vm T'.heap → Q v T'.heap L → Owe p.tables e below G T' (mkF m (pc + 3) Ls (v.toList ++ rest))) : Owe p.tables e below G T (mkF m pc Ls st) := by
  obtain ⟨cq, kq, qa, qb, qc⟩ := isOf hZ eT E
  obtain ⟨v, _, ⟨T', L', k', n'⟩, -, X', hS', hg', ⟨L, hQ, l', y', z', hC'⟩, st'⟩ := X.virtualBackS hx hown hlink hdecl hnf hsel hinst hy hK qa qc (g := mkF m pc Ls st) rfl hsize (Steps.refl _) hlen hs (by show 2 * 0 + _ ≤ W; omega) hd (fun _ _ => ⟨has, eT, hc, hl⟩)
  dsimp only [Pt.U, Pt.locs, Pt.cells, Pt.slots] at X' l' y' z' st' hQ hS' hg' hC'
  subst l' y' z'
  exact Owe.by (fun t k => st'.trans k) (go T' v L X' (hS.trans hS' (Nat.le_trans hk (eT ▸ hg'))) (State.Warmed39.trans (t := s.setVm vm0) hZ hS'.1) (by rw [show (s.setVm T'.vm).vm = T'.vm from rfl, hS'.1.alike.findClass]; exact hown) hC' hQ)
theorem Owe.statS (X : Stand p l e R (s.setVm vm0) m args below meth c T locs cells slots) (hx : p.tables.exec = Jvm.exec) (hZ : Z.Warmed39 (s.setVm vm0).vm) (hS : s.Since vm0 k0) (hk : k0 ≤ h.size) {own : String} {index : Nat} {bytes : ByteArray} {maxL : Nat} {ret : Option FieldType} (hown : (s.setVm vm0).vm.findClass own = some m.cls) (hlink : (Cond.methodLink own index y).before args (s.setVm vm0) = true) (hstat : (Cond.static y).before args (s.setVm vm0) = true) (hinit : (Cond.initialized y.cls).before args (s.setVm vm0) = true) (hcode : (Cond.code y bytes maxL ret).before args (s.setVm vm0) = true) (hy : y.cls ≠ "java/lang/invoke/MethodHandle" ∧ y.cls ≠ "java/lang/invoke/VarHandle")
    (hK : BackS l R p e below (s.setVm vm0) args y 3 W (fun A a => a = as' ∧ A.U.heap = h ∧ A.cells + kc ≤ R.cells ∧ A.slots + ks ≤ R.slots) (fun A _ v B => ∃ L, Q v B.U.heap L ∧ B.locs = A.locs ++ L ∧ B.cells = A.cells + kc ∧ B.slots = A.slots + ks ∧ CHr Z EL vm0 h B.U.vm B.U.heap))
    (hsize : Ls.size = c.maxLocals) {argsL rest : List Value} (hlen : ∀ sig, parseMethodDescriptor y.desc = some sig → argsL.length = sig.parameters.length) (hs : st = argsL.reverse ++ rest) (hW : (rest.map fun v => v.category).sum ≤ W) (hd : decode c.code pc = .ok (.invokestatic index, 3))
    (has : argsL.toArray = as') (eT : T.heap = h) (hc : cells + kc ≤ R.cells) (hl : slots + ks ≤ R.slots)
    (go : ∀ (T' : State) (v : Option Value) (L : List Loc), Stand p l e R (s.setVm T'.vm) m args below meth c T' (locs ++ L) (cells + kc) (slots + ks) → s.Since T'.vm T'.heap.size → Z.Warmed39 (s.setVm T'.vm).vm → (s.setVm T'.vm).vm.findClass own = some m.cls → CHr Z EL vm0 h T'.vm T'.heap → Q v T'.heap L → Owe p.tables e below G T' (mkF m (pc + 3) Ls (v.toList ++ rest))) : Owe p.tables e below G T (mkF m pc Ls st) := by
  obtain ⟨v, _, ⟨T', L', k', n'⟩, -, X', hS', hg', ⟨L, hQ, l', y', z', hC'⟩, st'⟩ := callSS X hx hown hlink hstat hinit hcode hy hK (g := mkF m pc Ls st) rfl hsize hlen hs (by show 2 * 0 + _ ≤ W; omega) hd (fun _ _ => ⟨has, eT, hc, hl⟩)
  dsimp only [Pt.U, Pt.locs, Pt.cells, Pt.slots] at X' l' y' z' st' hQ hS' hg' hC'
  subst l' y' z'
  exact Owe.by (fun t k => st'.trans k) (go T' v L X' (hS.trans hS' (Nat.le_trans hk (eT ▸ hg'))) (State.Warmed39.trans (t := s.setVm vm0) hZ hS'.1) (by rw [show (s.setVm T'.vm).vm = T'.vm from rfl, hS'.1.alike.findClass]; exact hown) hC' hQ)
theorem Owe.retNW (X : Stand p l e R (s.setVm vm0) m args below meth c T locs cells slots) (hx : p.tables.exec = Jvm.exec) (hS : s.Since vm0 k0) (eT : T.heap = h) (hk : k0 ≤ h.size) (hlk : meth.locks = false) {z : Int32} {t : FieldType} {rest : List Value} (hret : meth.sig.returnType = some t) (ht : t = .boolean ∨ t = .byte ∨ t = .char ∨ t = .short) (hd : decode c.code pc = .ok (.ireturn, 1)) (hs : st = .int z :: rest)
    (go : ∀ fs : List Frame, ReturnedEndW s (.returned (some (.int (nar t z)))) (T.setFrames fs) locs cells slots → G (.returned (some (.int (nar t z)))) (T.setFrames fs)) : Owe p.tables e below G T (mkF m pc Ls st) := by
  subst hs
  obtain ⟨fs, hr, hrun, hended, hE⟩ := X.leaveW hS (eT ▸ hk) (v := some (.int (nar t z))) (fun h => by rw [hret] at h; cases h) hlk
  exact ⟨_, _, Jvm.RoadKit.retN X hx hret ht hd hr, hrun, hended, go fs hE⟩
theorem Owe.retRW (X : Stand p l e R (s.setVm vm0) m args below meth c T locs cells slots) (hx : p.tables.exec = Jvm.exec) (hS : s.Since vm0 k0) (eT : T.heap = h) (hk : k0 ≤ h.size) (hlk : meth.locks = false) {w : Value} {t : FieldType} {rest : List Value} (hret : meth.sig.returnType = some t) (hn : narrow t w = w) (ht : t.isReference = true) (hw : w.isRef = true) (hd : decode c.code pc = .ok (.areturn, 1)) (hs : st = w :: rest)
    (go : ∀ fs : List Frame, ReturnedEndW s (.returned (some w)) (T.setFrames fs) locs cells slots → G (.returned (some w)) (T.setFrames fs)) : Owe p.tables e below G T (mkF m pc Ls st) := by
  subst hs
  obtain ⟨fs, hr, hrun, hended, hE⟩ := X.leaveW hS (eT ▸ hk) (v := some w) (fun h => by rw [hret] at h; cases h) hlk
  have hm' : T.vm.method? m = some meth := X.method'
  refine ⟨_, _, ?_, hrun, hended, go fs hE⟩
  show Steps p.tables e below (T.setTop { method := m, pc := pc, locals := Ls, stack := _ :: rest, locked := none }) _
  jvm_step X.here [X.here.top, hx, hd, hm', hret, hn, hw]
  try (refine ⟨ht, ?_⟩)
  first | (intro acts; rw [hr _ acts rfl rfl rfl]) | rw [hr _ _ rfl rfl rfl]
  exact Steps.refl _
theorem Owe.ret0W (X : Stand p l e R (s.setVm vm0) m args below meth c T locs cells slots) (hx : p.tables.exec = Jvm.exec) (hS : s.Since vm0 k0) (eT : T.heap = h) (hk : k0 ≤ h.size) (hlk : meth.locks = false) (hret : meth.sig.returnType = none) (hd : decode c.code pc = .ok (.return_, 1)) (hs : st = [])
    (go : ∀ fs : List Frame, ReturnedEndW s (.returned none) (T.setFrames fs) locs cells slots → G (.returned none) (T.setFrames fs)) : Owe p.tables e below G T (mkF m pc Ls st) := by
  subst hs
  obtain ⟨fs, hr, hrun, hended, hE⟩ := X.leaveW hS (eT ▸ hk) (v := none) (fun _ => rfl) hlk
  exact ⟨_, _, X.returnOut hx hret hd hr, hrun, hended, go fs hE⟩
end Cold
end Own
end Jvm.Pilot.@@N@@
namespace Jvm.Pilot.@@N@@
namespace Own
open Jvm Jvm.ClassFile Sem Op Lib Jvm.Free Jvm.Stand Jvm.LawKit Jvm.RoadKit
section
variable {p : Program} {l : Launch} {e : Env} {R R' : Room} {s Z : State} {m : MethodId} {args a0 : Array Value} {below : List Frame} {meth : Method} {c : Code} {T : State} {locs : List Loc} {cells slots : Nat} {G : Outcome → State → Prop} {pc : Nat} {Ls : Array Slot} {st : List Value} {h : Heap}
theorem Owe.rawBits (X : Stand p l e R s m args below meth c T locs cells slots) (hx : p.tables.exec = Jvm.exec) (hZ : Z.Warmed39 s.vm) {own : String} {index : Nat} (hown : s.vm.findClass own = some m.cls) (w1 : (Cond.methodLink own index doubleToRawLongBitsName).before a0 Z = true) (w2 : (Cond.native doubleToRawLongBitsName).before a0 Z = true) (w3 : (Cond.static doubleToRawLongBitsName).before a0 Z = true) (w4 : (Cond.initialized "java/lang/Double").before a0 Z = true) (eT : T.heap = h) (hsize : Ls.size = c.maxLocals) {b : UInt64} {rest : List Value} (hs : st = .double b :: rest) (hd : decode c.code pc = .ok (.invokestatic index, 3))
    (hf : 1 ≤ R.frames) {W : Nat} (hW : (rest.map fun v => v.category).sum ≤ W) (hl : W + (nativeFrameWords "java/lang/Double" "doubleToRawLongBits" 2 + 11) ≤ R.locals)
    (go : ∀ T' : State, Stand p l e R s m args below meth c T' locs cells slots → T'.heap = h → Owe p.tables e below G T' (mkF m (pc + 3) Ls (.long b.toInt64 :: rest))) : Owe p.tables e below G T (mkF m pc Ls st) := by
  obtain ⟨vm', X', st'⟩ := X.doubleToRawLongBits hx hown (mvT hZ w1) (mvT hZ w2) (mvT hZ w3) (mvT hZ w4) (g := mkF m pc Ls st) rfl hsize hs hd hf (by show 2 * 0 + (rest.map fun v => v.category).sum + _ ≤ R.locals; omega)
  exact Owe.by st' (go _ X' eT)
theorem Owe.maxD (X : Stand p l e R s m args below meth c T locs cells slots) (hx : p.tables.exec = Jvm.exec) (hZ : Z.Warmed39 s.vm) {own : String} {index ml : Nat} {bytes : ByteArray} (hown : s.vm.findClass own = some m.cls) (w1 : (Cond.methodLink own index NT.mathMax64N).before a0 Z = true) (w2 : (Cond.static NT.mathMax64N).before a0 Z = true) (w3 : (Cond.initialized "java/lang/Math").before a0 Z = true) (w4 : (Cond.code NT.mathMax64N bytes ml (some .double)).before a0 Z = true) (eT : T.heap = h) {a b : UInt64} (ha : FP.dIsNaN a = false) (hb : FP.dIsNaN b = false) (hsize : Ls.size = c.maxLocals) {rest : List Value} (hs : st = .double b :: .double a :: rest) (hd : decode c.code pc = .ok (.invokestatic index, 3))
    (hf : 1 ≤ R.frames) {W : Nat} (hW : (rest.map fun v => v.category).sum ≤ W) (hl : W + (ml + 11) ≤ R.locals)
    (go : ∀ T' : State, Stand p l e R s m args below meth c T' locs cells slots → T'.heap = h → Owe p.tables e below G T' (mkF m (pc + 3) Ls (.double (Native.java_lang_Math.nans.pick64 true a b) :: rest))) : Owe p.tables e below G T (mkF m pc Ls st) := by
  have c4 : (Cond.code NT.mathMax64N bytes ml (some .double)).before args s = true := mvT hZ w4
  obtain ⟨mk, hnamed⟩ := Cond.code_named c4
  obtain ⟨methM, cM, hmethM, -, -, -, -, -, -, hsigM⟩ := Cond.code_spec hnamed c4
  obtain ⟨v, vm1, B, hW1, X', ⟨hB, hv⟩, st'⟩ := Stand.staticBack (args := args) X hx hown (mvT hZ w1) (mvT hZ w2) (mvT hZ w3) hnamed hmethM hsigM (by decide) (NT.Max64.pays c4 (mvT hZ w2) hf hl) (g := mkF m pc Ls st) rfl hsize (Steps.refl _) (argsL := [.double a, .double b]) (rest := rest) (lenOf NT.mathMax64_desc rfl) hs (by show 2 * 0 + (rest.map fun v => v.category).sum ≤ W; omega) hd (fun vm1 _ => ⟨(a, b), rfl, ha, hb⟩)
  have hv' := hv (a, b) ⟨rfl, ha, hb⟩
  subst hv' hB
  exact Owe.by (fun t k => st'.trans k) (go _ X' eT)
theorem Owe.minD (X : Stand p l e R s m args below meth c T locs cells slots) (hx : p.tables.exec = Jvm.exec) (hZ : Z.Warmed39 s.vm) {own : String} {index ml : Nat} {bytes : ByteArray} (hown : s.vm.findClass own = some m.cls) (w1 : (Cond.methodLink own index NT.mathMin64N).before a0 Z = true) (w2 : (Cond.static NT.mathMin64N).before a0 Z = true) (w3 : (Cond.initialized "java/lang/Math").before a0 Z = true) (w4 : (Cond.code NT.mathMin64N bytes ml (some .double)).before a0 Z = true) (eT : T.heap = h) {a b : UInt64} (ha : FP.dIsNaN a = false) (hb : FP.dIsNaN b = false) (hsize : Ls.size = c.maxLocals) {rest : List Value} (hs : st = .double b :: .double a :: rest) (hd : decode c.code pc = .ok (.invokestatic index, 3))
    (hf : 1 ≤ R.frames) {W : Nat} (hW : (rest.map fun v => v.category).sum ≤ W) (hl : W + (ml + 11) ≤ R.locals)
    (go : ∀ T' : State, Stand p l e R s m args below meth c T' locs cells slots → T'.heap = h → Owe p.tables e below G T' (mkF m (pc + 3) Ls (.double (Native.java_lang_Math.nans.pick64 false a b) :: rest))) : Owe p.tables e below G T (mkF m pc Ls st) := by
  have c4 : (Cond.code NT.mathMin64N bytes ml (some .double)).before args s = true := mvT hZ w4
  obtain ⟨mk, hnamed⟩ := Cond.code_named c4
  obtain ⟨methM, cM, hmethM, -, -, -, -, -, -, hsigM⟩ := Cond.code_spec hnamed c4
  obtain ⟨v, vm1, B, hW1, X', ⟨hB, hv⟩, st'⟩ := Stand.staticBack (args := args) X hx hown (mvT hZ w1) (mvT hZ w2) (mvT hZ w3) hnamed hmethM hsigM (by decide) (NT.Min64.pays c4 (mvT hZ w2) hf hl) (g := mkF m pc Ls st) rfl hsize (Steps.refl _) (argsL := [.double a, .double b]) (rest := rest) (lenOf NT.mathMin64_desc rfl) hs (by show 2 * 0 + (rest.map fun v => v.category).sum ≤ W; omega) hd (fun vm1 _ => ⟨(a, b), rfl, ha, hb⟩)
  have hv' := hv (a, b) ⟨rfl, ha, hb⟩
  subst hv' hB
  exact Owe.by (fun t k => st'.trans k) (go _ X' eT)
theorem Owe.absD (X : Stand p l e R s m args below meth c T locs cells slots) (hx : p.tables.exec = Jvm.exec) (hZ : Z.Warmed39 s.vm) {own : String} {index ml : Nat} {bytes : ByteArray} (hown : s.vm.findClass own = some m.cls) (w1 : (Cond.methodLink own index NT.mathAbs64N).before a0 Z = true) (w2 : (Cond.static NT.mathAbs64N).before a0 Z = true) (w3 : (Cond.initialized "java/lang/Math").before a0 Z = true) (w4 : (Cond.code NT.mathAbs64N bytes ml (some .double)).before a0 Z = true) (eT : T.heap = h) {a : UInt64} (ha : a &&& 0x7fffffffffffffff ≤ 0x7ff0000000000000) (hsize : Ls.size = c.maxLocals) {rest : List Value} (hs : st = .double a :: rest) (hd : decode c.code pc = .ok (.invokestatic index, 3))
    (hf : 1 ≤ R.frames) {W : Nat} (hW : (rest.map fun v => v.category).sum ≤ W) (hl : W + (ml + 11) ≤ R.locals)
    (go : ∀ T' : State, Stand p l e R s m args below meth c T' locs cells slots → T'.heap = h → Owe p.tables e below G T' (mkF m (pc + 3) Ls (.double (a &&& 0x7fffffffffffffff) :: rest))) : Owe p.tables e below G T (mkF m pc Ls st) := by
  have c4 : (Cond.code NT.mathAbs64N bytes ml (some .double)).before args s = true := mvT hZ w4
  obtain ⟨mk, hnamed⟩ := Cond.code_named c4
  obtain ⟨methM, cM, hmethM, -, -, -, -, -, -, hsigM⟩ := Cond.code_spec hnamed c4
  obtain ⟨v, vm1, B, hW1, X', ⟨hB, hv⟩, st'⟩ := Stand.staticBack (args := args) X hx hown (mvT hZ w1) (mvT hZ w2) (mvT hZ w3) hnamed hmethM hsigM (by decide) (NT.Abs64.pays c4 (mvT hZ w2) hf hl) (g := mkF m pc Ls st) rfl hsize (Steps.refl _) (argsL := [.double a]) (rest := rest) (lenOf NT.mathAbs64_desc rfl) hs (by show 2 * 0 + (rest.map fun v => v.category).sum ≤ W; omega) hd (fun vm1 _ => ⟨a, rfl, ha⟩)
  have hv' := hv a ⟨rfl, ha⟩
  subst hv' hB
  exact Owe.by (fun t k => st'.trans k) (go _ X' eT)
theorem Owe.laloadA (X : Stand p l e R s m args below meth c T locs cells slots) (hx : p.tables.exec = Jvm.exec) (hZ : Z.Warmed39 s.vm) (eT : T.heap = h) {a : Addr} {k : ClassId} {n : Int32} {vs : List Value} {dv : Value} (V : Arv Z h a k .long n vs dv) {j : Int32} (hin : ¬ j < 0 ∧ j < n) (hd : decode c.code pc = .ok (.laload, 1)) {rest : List Value} (hs : st = .int j :: .ref a :: rest)
    (go : ∀ x : Int64, Owe p.tables e below G T (mkF m (pc + 1) Ls (.long x :: rest))) : Owe p.tables e below G T (mkF m pc Ls st) := by
  obtain ⟨cl, A, q, S, M, H, U⟩ := V
  have hb := inb_of S hin
  have hf := U j.toNatClampNeg (Nat.lt_of_not_le fun z => hb (Or.inr z))
  obtain ⟨x, hv⟩ : ∃ x, vs.getD j.toNatClampNeg dv = .long x := by
    cases hq : vs.getD j.toNatClampNeg dv <;> rw [hq] at hf <;> first | exact ⟨_, rfl⟩ | (cases hf; done)
  exact Owe.by (fun t k => X.laload hx (by rw [eT]; exact A.1) (State.isArrayOf_alike hZ.alike A.2.1) A.2.2 hb (H.at hb hv) (g := mkF m pc Ls st) rfl hs hd t k) (go x)
theorem Owe.lastoreA (X : Stand p l e R s m args below meth c T locs cells slots) (hx : p.tables.exec = Jvm.exec) (hZ : Z.Warmed39 s.vm) (eT : T.heap = h) {a : Addr} {k : ClassId} {n : Int32} {vs : List Value} {dv : Value} (V : Arv Z h a k .long n vs dv) {j : Int32} {x : Int64} (hin : ¬ j < 0 ∧ j < n) (hd : decode c.code pc = .ok (.lastore, 1)) {rest : List Value} (hs : st = .long x :: .int j :: .ref a :: rest)
    (go : ∀ (T' : State) (h' : Heap) (vs' : List Value), Stand p l e R s m args below meth c T' (locs ++ [⟨a, j.toNatClampNeg⟩]) cells slots → T'.heap = h' → Wr h h' a j.toNatClampNeg (.long x) → Arv Z h' a k .long n vs' dv → Owe p.tables e below G T' (mkF m (pc + 1) Ls rest)) : Owe p.tables e below G T (mkF m pc Ls st) := by
  obtain ⟨cl, A, q, S, M, H, U⟩ := V.pad (pad_rep vs dv n.toNatClampNeg)
  have hb := inb_of S hin
  have hlt : j.toNatClampNeg < cl.slots.size := Nat.lt_of_not_le fun z => hb (Or.inr z)
  obtain ⟨X', st'⟩ := X.lastore hx (by rw [eT]; exact A.1) (State.isArrayOf_alike hZ.alike A.2.1) A.2.2 hb (g := mkF m pc Ls st) rfl hs hd
  have W' : Wr h (T.setCell a (cl.setSlot j.toNatClampNeg (.long x))).heap a j.toNatClampNeg (.long x) := ⟨cl, A.1, A.plain, hlt, by rw [← eT]; rfl⟩
  exact Owe.by st' (go _ _ _ X' rfl W' (Arv.set A q S M H U rfl W' _ rfl (by simp; omega)))
theorem Owe.virtP (X : Stand p l e R s m args below meth c T locs cells slots) (hx : p.tables.exec = Jvm.exec) (hZ : Z.Warmed39 s.vm) {y : MethodName} {as' : Array Value} {Q : Option Value → Heap → List Loc → Prop} {W kc ks : Nat} {own C : String} {index ni maxL : Nat} {bytes : ByteArray} {ret : Option FieldType} (hown : s.vm.findClass own = some m.cls) (hlink : (Cond.methodLink own index y).before args s = true) (hinst : (Cond.instanceMethod y).before args s = true) (hpriv : (Cond.privateMethod y).before args s = true) (hcode : (Cond.code y bytes maxL ret).before args s = true) (hi : (Cond.instantiable y.cls ni).before args s = true) (hy : y.cls ≠ "java/lang/invoke/MethodHandle" ∧ y.cls ≠ "java/lang/invoke/VarHandle")
    (hK : Back l R p e below s args y 3 W (fun A a => a = as' ∧ A.U.heap = h ∧ A.cells + kc ≤ R.cells ∧ A.slots + ks ≤ R.slots) (fun A _ v B => ∃ L, Q v B.U.heap L ∧ B.locs = A.locs ++ L ∧ B.cells = A.cells + kc ∧ B.slots = A.slots + ks))
    (hsize : Ls.size = c.maxLocals) {a : Addr} {argsL rest : List Value} (E : Exa Z h a C) (hlen : ∀ sig, parseMethodDescriptor y.desc = some sig → argsL.length = sig.parameters.length) (hs : st = argsL.reverse ++ .ref a :: rest) (hW : (rest.map fun v => v.category).sum ≤ W) (hd : decode c.code pc = .ok (.invokevirtual index, 3))
    (has : (.ref a :: argsL).toArray = as') (eT : T.heap = h) (hc : cells + kc ≤ R.cells) (hl : slots + ks ≤ R.slots)
    (go : ∀ (T' : State) (v : Option Value) (L : List Loc), Stand p l e R s m args below meth c T' (locs ++ L) (cells + kc) (slots + ks) → Q v T'.heap L → Owe p.tables e below G T' (mkF m (pc + 3) Ls (v.toList ++ rest))) : Owe p.tables e below G T (mkF m pc Ls st) := by
  obtain ⟨cq, kq, qa, qb, ⟨cell, g1, g2, g3⟩⟩ := isOf hZ eT E
  obtain ⟨mk, methM, hnamed, hmethM, hstM, habM⟩ := Cond.instanceMethod_spec hinst
  obtain ⟨methM', cM, hmethM', -, -, -, -, -, -, hsigM⟩ := Cond.code_spec hnamed hcode
  cases hmethM.symm.trans hmethM'
  obtain ⟨cI, kI, i1, i2, -, i4, -⟩ := Cond.instantiable_spec hi
  cases (findClass_of_methodNamed hnamed).symm.trans i1
  have hni : kI.isInterface = false := (Bool.or_eq_false_iff.mp i4).1
  have hselP : selectMethod e.platform s.vm cell.cls mk = .method mk := selectMethod_private hmethM (Cond.privateMethod_at hpriv mk methM hnamed hmethM)
  obtain ⟨vm₁, X₁, hstep₁⟩ := X.invokevirtual hx hown hlink hnamed hmethM hstM i2 hni hy (a := a) (cell := cell) g1 (fun q z => by rw [z] at g3; cases g3) hselP hmethM habM i2 hni (g := mkF m pc Ls st) rfl (argsL := argsL) (rest := rest) (hlen _ hsigM) hs hd
  obtain ⟨v, ⟨T', L', k', n'⟩, X', ⟨L, hQ, l', y', z'⟩, st'⟩ := hK m meth c ⟨T.setVm vm₁, locs, cells, slots⟩ (mkF m pc Ls rest) (.invokevirtual index) mk (.ref a :: argsL).toArray X₁ rfl hsize hd (by show 2 * 0 + (rest.map fun v => v.category).sum ≤ W; omega) (X₁.named hnamed) ⟨has, eT, hc, hl⟩
  dsimp only [Pt.U, Pt.locs, Pt.cells, Pt.slots] at X' l' y' z' st' hQ
  subst l' y' z'
  exact Owe.by (fun t k => hstep₁ _ fun acts => by rw [doInvoke_state]; exact st'.trans k) (go T' v L X' hQ)
theorem Owe.ldc2D (X : Stand p l e R s m args below meth c T locs cells slots) (hx : p.tables.exec = Jvm.exec) {own : String} {index : Nat} {v : UInt64} (hown : s.vm.findClass own = some m.cls) (w : (Cond.constantDouble own index v).before args s = true) (hd : decode c.code pc = .ok (.ldc2_w index, 3)) (go : Owe p.tables e below G T (mkF m (pc + 3) Ls (.double v :: st))) : Owe p.tables e below G T (mkF m pc Ls st) :=
  Owe.by (X.ldc2DoubleC hx hown w (g := mkF m pc Ls st) rfl hd) go
theorem Owe.retJ (X : Stand p l e R s m args below meth c T locs cells slots) (hx : p.tables.exec = Jvm.exec) (hlk : meth.locks = false) {z : Int64} {rest : List Value} (hret : meth.sig.returnType = some .long) (hd : decode c.code pc = .ok (.lreturn, 1)) (hs : st = .long z :: rest)
    (go : ∀ fs : List Frame, FrameEnd s (.returned (some (.long z))) (T.setFrames fs) locs cells slots → G (.returned (some (.long z))) (T.setFrames fs)) : Owe p.tables e below G T (mkF m pc Ls st) := by
  subst hs
  obtain ⟨fs, hr, hrun, hended, hW, hsame⟩ := X.leave (v := some (.long z)) (fun h => by rw [hret] at h; cases h) hlk
  have hm' : T.vm.method? m = some meth := X.method'
  have hn : narrow .long (.long z) = .long z := rfl
  refine ⟨_, _, ?_, hrun, hended, go fs ⟨⟨_, rfl⟩, hW, hsame⟩⟩
  show Steps p.tables e below (T.setTop { method := m, pc := pc, locals := Ls, stack := _ :: rest, locked := none }) _
  jvm_step X.here [X.here.top, hx, hd, hm', hret, hn]
  first | (intro acts; rw [hr _ acts rfl rfl rfl]) | rw [hr _ _ rfl rfl rfl]
  exact Steps.refl _
theorem Owe.retD (X : Stand p l e R s m args below meth c T locs cells slots) (hx : p.tables.exec = Jvm.exec) (hlk : meth.locks = false) {z : UInt64} {rest : List Value} (hret : meth.sig.returnType = some .double) (hd : decode c.code pc = .ok (.dreturn, 1)) (hs : st = .double z :: rest)
    (go : ∀ fs : List Frame, FrameEnd s (.returned (some (.double z))) (T.setFrames fs) locs cells slots → G (.returned (some (.double z))) (T.setFrames fs)) : Owe p.tables e below G T (mkF m pc Ls st) := by
  subst hs
  obtain ⟨fs, hr, hrun, hended, hW, hsame⟩ := X.leave (v := some (.double z)) (fun h => by rw [hret] at h; cases h) hlk
  have hm' : T.vm.method? m = some meth := X.method'
  have hn : narrow .double (.double z) = .double z := rfl
  refine ⟨_, _, ?_, hrun, hended, go fs ⟨⟨_, rfl⟩, hW, hsame⟩⟩
  show Steps p.tables e below (T.setTop { method := m, pc := pc, locals := Ls, stack := _ :: rest, locked := none }) _
  jvm_step X.here [X.here.top, hx, hd, hm', hret, hn]
  first | (intro acts; rw [hr _ acts rfl rfl rfl]) | rw [hr _ _ rfl rfl rfl]
  exact Steps.refl _
end
end Own
end Jvm.Pilot.@@N@@
namespace Jvm.Pilot.@@N@@
namespace Own
open Jvm Jvm.FP.Core Jvm.LawKit Jvm.RoadKit Jvm.Free Op Sem
theorem signed_mul' (s : Bool) (a b : Nat) : signed s (a * b) = signed s a * (b : Int) := by cases s <;> simp [signed, Int.neg_mul]
theorem whole_up {i : Int} {s : Bool} {c : Nat} {q : Int} (k : Nat) (h : Whole i (.fin s c q)) : Whole (i * ((2 ^ k : Nat) : Int)) (.fin s c (q + k)) := by
  have h' : signed s (c * 2 ^ q.toNat) = i * ((2 ^ (-q).toNat : Nat) : Int) := h
  show signed s (c * 2 ^ (q + k).toNat) = i * ((2 ^ k : Nat) : Int) * ((2 ^ (-(q + k)).toNat : Nat) : Int)
  rw [signed_mul'] at h' ⊢
  by_cases hq : 0 ≤ q
  · rw [show (-q).toNat = 0 by omega] at h'
    rw [show (q + k).toNat = q.toNat + k by omega, show (-(q + k)).toNat = 0 by omega, Nat.pow_add, Int.natCast_mul, ← Int.mul_assoc, h']
    simp
  · rw [show q.toNat = 0 by omega] at h'
    by_cases hk : (-q).toNat ≤ k
    · rw [show (-(q + k)).toNat = 0 by omega, show k = (-q).toNat + (q + k).toNat by omega]
      rw [show (q + (((-q).toNat + (q + k).toNat : Nat) : Int)).toNat = (q + k).toNat by omega, Nat.pow_add (2) ((-q).toNat), Int.natCast_mul, ← Int.mul_assoc, ← h']
      simp
    · rw [show (q + k).toNat = 0 by omega, Int.mul_assoc, ← Int.natCast_mul, ← Nat.pow_add, show k + (-(q + k)).toNat = (-q).toNat by omega]
      exact h'
theorem whole_down {i : Int} {s : Bool} {c : Nat} {q : Int} (k : Nat) (h : Whole i (.fin s c q)) : Whole i (.fin s (c * 2 ^ k) (q - k)) := by
  have h' : signed s (c * 2 ^ q.toNat) = i * ((2 ^ (-q).toNat : Nat) : Int) := h
  show signed s (c * 2 ^ k * 2 ^ (q - k).toNat) = i * ((2 ^ (-(q - k)).toNat : Nat) : Int)
  by_cases hq : (k : Int) ≤ q
  · rw [Nat.mul_assoc, ← Nat.pow_add, show k + (q - k).toNat = q.toNat by omega, show (-(q - k)).toNat = (-q).toNat by omega]; exact h'
  · rw [show (q - k).toNat = 0 by omega, Nat.pow_zero, Nat.mul_one]
    by_cases h0 : 0 ≤ q
    · rw [show (-q).toNat = 0 by omega] at h'
      rw [show k = q.toNat + (-(q - k)).toNat by omega, Nat.pow_add, ← Nat.mul_assoc, signed_mul', h']
      rw [show (-(q - ((q.toNat + (-(q - k)).toNat : Nat) : Int))).toNat = (-(q - k)).toNat by omega]
      simp
    · rw [show q.toNat = 0 by omega, Nat.pow_zero, Nat.mul_one] at h'
      rw [signed_mul', h', show (-(q - k)).toNat = (-q).toNat + k by omega, Nat.pow_add, Int.natCast_mul, Int.mul_assoc]
/-- four times the datum is the whole number i -/
def Q4 (i : Int) : Datum → Prop
  | .fin s c q => Whole i (.fin s c (q + 2))
  | _ => False
theorem Q4.of_whole {i : Int} {d : Datum} (h : Whole i d) : Q4 (4 * i) d := by
  cases d with
  | nan => exact h.elim
  | inf => exact h.elim
  | fin s c q => have := whole_up 2 h; rw [Int.mul_comm] at this; exact this
def sh : Datum → Datum
  | .fin s c q => .fin s c (q + 2)
  | d => d
theorem Q4.sum {i j : Int} {x y : Datum} (hx : Q4 i x) (hy : Q4 j y) : Q4 (i + j) (exactSum x y) := by
  cases x with
  | nan => exact hx.elim
  | inf => exact hx.elim
  | fin s c q =>
  cases y with
  | nan => exact hy.elim
  | inf => exact hy.elim
  | fin t d r =>
    have h := whole_sum (x := .fin s c (q + 2)) (y := .fin t d (r + 2)) hx hy
    have e : min (q + 2) (r + 2) = min q r + 2 := by omega
    simp only [exactSum, sumUnits, inUnits, e] at h
    rw [show q + 2 - (min q r + 2) = q - min q r by omega, show r + 2 - (min q r + 2) = r - min q r by omega] at h
    exact h
theorem Q4.round {i : Int} {d : Datum} (h : Q4 i d) (hi : i.natAbs ≤ 2 ^ 53) : Q4 i (round b64 d) := by
  cases d with
  | nan => exact h.elim
  | inf => exact h.elim
  | fin s c q =>
    by_cases h0 : c = 0
    · subst h0
      have hz : i = 0 := by
        have h' : signed s (0 * 2 ^ (q + 2).toNat) = i * ((2 ^ (-(q + 2)).toNat : Nat) : Int) := h
        have p := Nat.two_pow_pos (-(q + 2)).toNat
        rw [Nat.zero_mul] at h'
        have z : signed s 0 = 0 := by cases s <;> rfl
        rw [z] at h'
        rcases Int.mul_eq_zero.mp h'.symm with e | e
        · exact e
        · omega
      subst hz
      show Q4 0 (roundRatio b64 s 0 1 q)
      simp only [roundRatio, if_true]
      show signed s (0 * _) = 0 * _
      rw [Nat.zero_mul, Int.zero_mul]; cases s <;> rfl
    · have hf : Good b64 := good_b64
      obtain ⟨c', q', hfit, hv⟩ := natFit hf (by unfold Wide; decide) s (n := i.natAbs) hi
      have hw : Whole i (.fin s c (q + 2)) := h
      have hR : FP.Core.round b64 (.fin s c (q + 2)) = .fin s c' q' := by rw [round_whole hw, roundRatio_exact hf (by decide) hfit hv]
      have hw' : Whole i (.fin s c' q') := by
        have := whole_round hf (by unfold Wide; decide) hi hw
        rwa [hR] at this
      have u1 := whole_units hw (e := min (q + 2) q') (by omega)
      have u2 := whole_units hw' (e := min (q + 2) q') (by omega)
      have p2 : ((2 ^ (min (q + 2) q').toNat : Nat) : Int) ≠ 0 := by
        have := Nat.two_pow_pos (min (q + 2) q').toNat; omega
      have ue := Int.eq_of_mul_eq_mul_right p2 (u1.trans u2.symm)
      have un : inUnits c (q + 2) (min (q + 2) q') = inUnits c' q' (min (q + 2) q') := by
        have z := congrArg Int.natAbs ue
        have na : ∀ n : Nat, (signed s n).natAbs = n := fun n => by cases s <;> simp [signed]
        rwa [na, na] at z
      unfold inUnits at un
      have hc' : c' ≠ 0 := fun z => by
        rw [z, Nat.zero_mul] at un
        have p := Nat.two_pow_pos (q + 2 - min (q + 2) q').toNat
        rcases Nat.mul_eq_zero.mp un with e | e <;> omega
      have hne : i.natAbs ≠ 0 := fun z => by
        rw [z, Nat.zero_mul, Nat.mul_one] at hv
        have p := Nat.two_pow_pos (q' - 0).toNat
        rcases Nat.mul_eq_zero.mp hv.symm with e | e <;> omega
      obtain ⟨f1, f2, f3, f4⟩ := hfit
      have hp : b64.p = 53 := rfl
      have hqm : b64.qmin = -1074 := by decide
      have hqx : b64.qmax = 971 := by decide
      have hlow : -60 ≤ q' := by
        refine Int.not_lt.mp fun hlt => ?_
        rw [show (q' - 0).toNat = 0 by omega, Nat.pow_zero, Nat.mul_one, Nat.mul_one] at hv
        have m1 : 2 ^ 60 ≤ 2 ^ (0 - q').toNat := Nat.pow_le_pow_right (by decide) (by omega)
        have m2 : 1 * 2 ^ 60 ≤ i.natAbs * 2 ^ (0 - q').toNat := Nat.mul_le_mul (by omega) m1
        rw [hv] at m2
        rw [hp] at f1
        have : (2 : Nat) ^ 53 < 1 * 2 ^ 60 := by decide
        omega
      have hfit2 : FP.Core.fits b64 (.fin s c' (q' - 2)) := ⟨f1, by omega, by omega, .inr (f4.resolve_left (by omega))⟩
      have hE : FP.Core.round b64 (.fin s c q) = .fin s c' (q' - 2) := by
        refine roundRatio_exact hf (by decide) hfit2 ?_
        rw [Nat.mul_one]
        by_cases hm : q + 2 ≤ q'
        · rw [show min (q + 2) q' = q + 2 by omega] at un
          rw [show (q + 2 - (q + 2)).toNat = 0 by omega, Nat.pow_zero, Nat.mul_one] at un
          rw [show (q - (q' - 2)).toNat = 0 by omega, Nat.pow_zero, Nat.mul_one, un, show (q' - 2 - q).toNat = (q' - (q + 2)).toNat by omega]
        · rw [show min (q + 2) q' = q' by omega] at un
          rw [show (q' - q').toNat = 0 by omega, Nat.pow_zero, Nat.mul_one] at un
          rw [show (q' - 2 - q).toNat = 0 by omega, Nat.pow_zero, Nat.mul_one, ← un, show (q - (q' - 2)).toNat = (q + 2 - q').toNat by omega]
      rw [hE]
      show Whole i (.fin s c' (q' - 2 + 2))
      rw [show q' - 2 + 2 = q' by omega]
      exact hw'
theorem val_fin {x : UInt64} {i : Int} (h : Whole i (val64 x)) : ∃ s c q, val64 x = .fin s c q := by
  cases e : val64 x with
  | nan => rw [e] at h; exact h.elim
  | inf => rw [e] at h; exact h.elim
  | fin s c q => exact ⟨s, c, q, rfl⟩
/-- x / 2^(e-2), four times: x * 2^(4-e) -/
theorem Q4.div {x S : UInt64} {i : Int} {e : Nat} (he : e ≤ 4) (hS : val64 S = .fin false (2 ^ 52) ((e : Int) - 54)) (h : Whole i (val64 x)) (hi : (i * ((2 ^ (4 - e) : Nat) : Int)).natAbs ≤ 2 ^ 53) : Q4 (i * ((2 ^ (4 - e) : Nat) : Int)) (val64 (ddiv x S)) := by
  obtain ⟨s, c, q, hx⟩ := val_fin h
  rw [val64_ddiv, hx, hS]
  rw [hx] at h
  have hne : (2 : Nat) ^ 52 ≠ 0 := by decide
  simp only [quotient, hne, if_false, Bool.bne_false]
  have e1 : roundRatio b64 s c (2 ^ 52) (q - ((e : Int) - 54)) = FP.Core.round b64 (.fin s c (q + 2 - e)) := by
    refine roundRatio_congr (by decide) (by decide) ?_
    rw [Nat.mul_one, show (q - ((e : Int) - 54) - (q + 2 - e)).toNat = 52 by omega, show (q + 2 - e - (q - ((e : Int) - 54))).toNat = 0 by omega, Nat.pow_zero, Nat.mul_one]
  rw [e1]
  refine Q4.round ?_ hi
  have := whole_up (4 - e) h
  show Whole _ (.fin s c (q + 2 - e + 2))
  rw [show q + 2 - (e : Int) + 2 = q + ((4 - e : Nat) : Int) by omega]
  exact this
theorem Q4.add {x y : UInt64} {i j : Int} (hx : Q4 i (val64 x)) (hy : Q4 j (val64 y)) (hi : (i + j).natAbs ≤ 2 ^ 53) : Q4 (i + j) (val64 (dadd x y)) := by
  rw [val64_dadd]; exact Q4.round (Q4.sum hx hy) hi
theorem mul_whole {x y : UInt64} {i j : Int} (hx : Whole i (val64 x)) (hy : Whole j (val64 y)) (hi : (i * j).natAbs ≤ 2 ^ 53) : Whole (i * j) (val64 (dmul x y)) := by
  rw [val64_dmul]; exact whole_round good_b64 (by unfold Wide; decide) hi (whole_product hx hy)
theorem four_val : val64 (4616189618054758400 : UInt64) = .fin false (2 ^ 52) (-50) := by decide +kernel
theorem Q4.four {x : UInt64} {i : Int} (h : Q4 i (val64 x)) (hi : i.natAbs ≤ 2 ^ 53) : Whole i (val64 (dmul x (4616189618054758400 : UInt64))) := by
  rw [val64_dmul, four_val]
  refine whole_round good_b64 (by unfold Wide; decide) hi ?_
  cases e : val64 x with
  | nan => rw [e] at h; exact h.elim
  | inf => rw [e] at h; exact h.elim
  | fin s c q =>
    rw [e] at h
    have := whole_down 52 h
    show Whole i (.fin (s != false) (c * 2 ^ 52) (q + -50))
    rw [Bool.bne_false, show q + -50 = q + 2 - ((52 : Nat) : Int) by omega]
    exact this
theorem cmp_eq {x y : UInt64} {i : Int} (hx : Whole i (val64 x)) (hy : Whole i (val64 y)) : dcmp x y = some .eq := by
  have := order_whole hx hy
  rw [show compare i i = Ordering.eq by simp [compare, compareOfLessAndEq]] at this
  exact this
theorem own_iw (x : Int32) : Whole x.toInt (val64 (FP.i2d x)) := by
  have e : x.toInt64.toInt = x.toInt := Int32.toInt_toInt64 x
  have r := rng32 x
  have h : Whole x.toInt64.toInt (val64 (l2d x.toInt64)) := l2d_whole (by unfold Small53; rw [e]; omega)
  rw [e] at h
  rw [i2d_w]; exact h
theorem nn_whole {x : UInt64} {i : Int} (h : Whole i (val64 x)) : FP.dIsNaN x = false := (notNaN_iff x).mpr fun e => by rw [e] at h; exact h
theorem nn_q4 {x : UInt64} {i : Int} (h : Q4 i (val64 x)) : FP.dIsNaN x = false := (notNaN_iff x).mpr fun e => by rw [e] at h; exact h
theorem own_prod (u p : Int32) (hp : 0 ≤ p.toInt ∧ p.toInt ≤ 1023) : -2199023255552 ≤ u.toInt * p.toInt ∧ u.toInt * p.toInt ≤ 2199023255552 := by
  have r := rng32 u
  have a1 : u.toInt * p.toInt ≤ 2147483648 * 1023 := by
    calc u.toInt * p.toInt ≤ 2147483648 * p.toInt := Int.mul_le_mul_of_nonneg_right (by omega) hp.1
      _ ≤ 2147483648 * 1023 := by omega
  have a2 : -2147483648 * p.toInt ≤ u.toInt * p.toInt := Int.mul_le_mul_of_nonneg_right (by omega) hp.1
  constructor <;> omega
theorem own_res {S : UInt64} {e : Nat} (he : e ≤ 4) (hS : val64 S = .fin false (2 ^ 52) ((e : Int) - 54)) (d u b p t : Int32) (hp : 0 ≤ p.toInt ∧ p.toInt ≤ 1023) (ht : 0 ≤ t.toInt ∧ t.toInt ≤ 1023) :
    FP.dIsNaN (FP.ddiv (FP.i2d d) S) = false ∧ FP.dIsNaN (FP.dmul (FP.i2d u) (FP.i2d p)) = false ∧ FP.dIsNaN (FP.dadd (FP.ddiv (FP.i2d d) S) (FP.dmul (FP.i2d u) (FP.i2d p))) = false ∧ FP.dIsNaN (FP.dmul (FP.i2d b) (FP.i2d t)) = false ∧
    FP.dIsNaN (FP.dadd (FP.dadd (FP.ddiv (FP.i2d d) S) (FP.dmul (FP.i2d u) (FP.i2d p))) (FP.dmul (FP.i2d b) (FP.i2d t))) = false ∧
    FP.dIsNaN (FP.dmul (FP.dadd (FP.dadd (FP.ddiv (FP.i2d d) S) (FP.dmul (FP.i2d u) (FP.i2d p))) (FP.dmul (FP.i2d b) (FP.i2d t))) 4616189618054758400) = false ∧
    ∀ r : Int64, r.toInt = d.toInt * ((2 ^ (4 - e) : Nat) : Int) + 4 * (u.toInt * p.toInt) + 4 * (b.toInt * t.toInt) →
      FP.dcmp (FP.dmul (FP.dadd (FP.dadd (FP.ddiv (FP.i2d d) S) (FP.dmul (FP.i2d u) (FP.i2d p))) (FP.dmul (FP.i2d b) (FP.i2d t))) 4616189618054758400) (FP.l2d r) = some .eq := by
  have b1 := own_prod u p hp
  have b2 := own_prod b t ht
  have rd := rng32 d
  have bd : -34359738368 ≤ d.toInt * ((2 ^ (4 - e) : Nat) : Int) ∧ d.toInt * ((2 ^ (4 - e) : Nat) : Int) ≤ 34359738368 := by
    have : e = 0 ∨ e = 1 ∨ e = 2 ∨ e = 3 ∨ e = 4 := by omega
    rcases this with rfl | rfl | rfl | rfl | rfl <;> simp <;> omega
  have hA : Q4 _ (val64 (FP.ddiv (FP.i2d d) S)) := Q4.div he hS (own_iw d) (by omega)
  have hB : Whole _ (val64 (FP.dmul (FP.i2d u) (FP.i2d p))) := mul_whole (own_iw u) (own_iw p) (by omega)
  have hC : Whole _ (val64 (FP.dmul (FP.i2d b) (FP.i2d t))) := mul_whole (own_iw b) (own_iw t) (by omega)
  have hM : Q4 _ (val64 (FP.dadd (FP.ddiv (FP.i2d d) S) (FP.dmul (FP.i2d u) (FP.i2d p)))) := Q4.add hA (Q4.of_whole hB) (by omega)
  have hG : Q4 _ (val64 (FP.dadd (FP.dadd (FP.ddiv (FP.i2d d) S) (FP.dmul (FP.i2d u) (FP.i2d p))) (FP.dmul (FP.i2d b) (FP.i2d t)))) := Q4.add hM (Q4.of_whole hC) (by omega)
  have hF : Whole _ (val64 (FP.dmul (FP.dadd (FP.dadd (FP.ddiv (FP.i2d d) S) (FP.dmul (FP.i2d u) (FP.i2d p))) (FP.dmul (FP.i2d b) (FP.i2d t))) 4616189618054758400)) := Q4.four hG (by omega)
  refine ⟨nn_q4 hA, nn_whole hB, nn_q4 hM, nn_whole hC, nn_q4 hG, nn_whole hF, fun r hr => ?_⟩
  have hL : Whole r.toInt (val64 (l2d r)) := l2d_whole (by unfold Small53; omega)
  rw [hr] at hL
  exact cmp_eq hF hL
theorem own_s0 : val64 (FP.ddiv (FP.i2d (1 : Int32)) (4616189618054758400 : UInt64)) = .fin false (2 ^ 52) (((0 : Nat) : Int) - 54) := by decide +kernel
theorem own_s1 : val64 (FP.ddiv (FP.i2d (2 : Int32)) (4616189618054758400 : UInt64)) = .fin false (2 ^ 52) (((1 : Nat) : Int) - 54) := by decide +kernel
theorem own_s2 : val64 (FP.ddiv (FP.i2d (4 : Int32)) (4616189618054758400 : UInt64)) = .fin false (2 ^ 52) (((2 : Nat) : Int) - 54) := by decide +kernel
theorem own_s3 : val64 (FP.ddiv (FP.i2d (8 : Int32)) (4616189618054758400 : UInt64)) = .fin false (2 ^ 52) (((3 : Nat) : Int) - 54) := by decide +kernel
theorem own_s4 : val64 (FP.ddiv (FP.i2d (16 : Int32)) (4616189618054758400 : UInt64)) = .fin false (2 ^ 52) (((4 : Nat) : Int) - 54) := by decide +kernel
theorem own_rg (x : Int32) : 0 ≤ (x &&& (1023 : Int32)).toInt ∧ (x &&& (1023 : Int32)).toInt ≤ 1023 := by
  have h := c_mask x (1023 : Int32) 10 (by decide) (by decide)
  omega
theorem own_k (x : Int32) : ∃ k : Fin 1024, (x &&& (1023 : Int32)) = Int32.ofNat k.val := by
  have h := own_rg x
  refine ⟨⟨(x &&& (1023 : Int32)).toInt.toNat, by omega⟩, ?_⟩
  apply Int32.toInt_inj.mp
  rw [Int32.toInt_ofNat_of_lt (by show (x &&& (1023 : Int32)).toInt.toNat < _; omega)]
  show _ = (((x &&& (1023 : Int32)).toInt.toNat : Nat) : Int)
  omega
theorem own_t1 : ∀ k : Fin 1024, FP.i2d (Int32.ofNat k.val) &&& 0x7fffffffffffffff ≤ 0x7ff0000000000000 := by decide +kernel
theorem own_t2 : ∀ k : Fin 1024, ¬ (0 : Int32) < (cmpValue (FP.dcmp (FP.i2d (Int32.ofNat k.val) &&& 0x7fffffffffffffff) (9218868437227405311 : UInt64)) .l) := by decide +kernel
theorem own_t3 : ∀ k : Fin 1024, ¬ (cmpValue (FP.dcmp (FP.i2d (Int32.ofNat k.val)) (0 : UInt64)) .l) < (0 : Int32) := by decide +kernel
theorem own_hab (x : Int32) : FP.i2d (x &&& (1023 : Int32)) &&& 0x7fffffffffffffff ≤ 0x7ff0000000000000 := by obtain ⟨k, e⟩ := own_k x; rw [e]; exact own_t1 k
theorem own_hinf (x : Int32) : ¬ (0 : Int32) < (cmpValue (FP.dcmp (FP.i2d (x &&& (1023 : Int32)) &&& 0x7fffffffffffffff) (9218868437227405311 : UInt64)) .l) := by obtain ⟨k, e⟩ := own_k x; rw [e]; exact own_t2 k
theorem own_hge (x : Int32) : ¬ (cmpValue (FP.dcmp (FP.i2d (x &&& (1023 : Int32))) (0 : UInt64)) .l) < (0 : Int32) := by obtain ⟨k, e⟩ := own_k x; rw [e]; exact own_t3 k
theorem own_c0 {x y : UInt64} (h : FP.dcmp x y = some .eq) : (cmpValue (FP.dcmp x y) .l) = (0 : Int32) := by rw [h]; rfl
theorem own_bd {d : Int32} (e : Nat) (he : e ≤ 4) : -34359738368 ≤ d.toInt * ((2 ^ (4 - e) : Nat) : Int) ∧ d.toInt * ((2 ^ (4 - e) : Nat) : Int) ≤ 34359738368 := by
  have rd := rng32 d
  have : e = 0 ∨ e = 1 ∨ e = 2 ∨ e = 3 ∨ e = 4 := by omega
  rcases this with rfl | rfl | rfl | rfl | rfl <;> simp <;> omega
theorem own_ref {d u b p t : Int32} {k : Int64} {K : Int} (hp : 0 ≤ p.toInt ∧ p.toInt ≤ 1023) (ht : 0 ≤ t.toInt ∧ t.toInt ≤ 1023) (hk : k.toInt = K) (hb : -34359738368 ≤ d.toInt * K ∧ d.toInt * K ≤ 34359738368) :
    (((d.toInt64 * k) + ((4 : Int64) * u.toInt64) * p.toInt64) + ((4 : Int64) * b.toInt64) * t.toInt64).toInt = d.toInt * K + 4 * (u.toInt * p.toInt) + 4 * (b.toInt * t.toInt) := by
  have b1 := own_prod u p hp
  have b2 := own_prod b t ht
  have e4 : (4 : Int64).toInt = 4 := rfl
  have ru := rng32 u; have rb := rng32 b
  have ed := Int32.toInt_toInt64 d; have eu := Int32.toInt_toInt64 u; have eb := Int32.toInt_toInt64 b; have ep := Int32.toInt_toInt64 p; have et := Int32.toInt_toInt64 t
  have m1 := c_lmul d.toInt64 k; rw [ed, hk] at m1
  have m2 := c_lmul (4 : Int64) u.toInt64; rw [e4, eu] at m2
  have r2 := rng64 ((4 : Int64) * u.toInt64)
  have k2 : ((4 : Int64) * u.toInt64).toInt = 4 * u.toInt := by omega
  have m3 := c_lmul ((4 : Int64) * u.toInt64) p.toInt64; rw [k2, ep, Int.mul_assoc] at m3
  have m4 := c_lmul (4 : Int64) b.toInt64; rw [e4, eb] at m4
  have r4 := rng64 ((4 : Int64) * b.toInt64)
  have k4 : ((4 : Int64) * b.toInt64).toInt = 4 * b.toInt := by omega
  have m5 := c_lmul ((4 : Int64) * b.toInt64) t.toInt64; rw [k4, et, Int.mul_assoc] at m5
  have r1 := rng64 (d.toInt64 * k); have r3 := rng64 ((4 : Int64) * u.toInt64 * p.toInt64); have r5 := rng64 ((4 : Int64) * b.toInt64 * t.toInt64)
  have a1 := c_ladd (d.toInt64 * k) ((4 : Int64) * u.toInt64 * p.toInt64)
  have a2 := c_ladd (d.toInt64 * k + (4 : Int64) * u.toInt64 * p.toInt64) ((4 : Int64) * b.toInt64 * t.toInt64)
  have r6 := rng64 (d.toInt64 * k + (4 : Int64) * u.toInt64 * p.toInt64)
  have r7 := rng64 (d.toInt64 * k + (4 : Int64) * u.toInt64 * p.toInt64 + (4 : Int64) * b.toInt64 * t.toInt64)
  generalize d.toInt * K = X at *
  generalize u.toInt * p.toInt = Y at *
  generalize b.toInt * t.toInt = W at *
  omega
end Own
end Jvm.Pilot.@@N@@
namespace Jvm.Pilot.@@N@@
open Jvm Jvm.ClassFile Sem Op Lib Jvm.Free Jvm.Stand Jvm.LawKit Jvm.RoadKit Bundle Jvm.Pilot.@@N@@.Jvm.D Jvm.Pilot.@@N@@.Own
theorem own_dconst0 : FP.dconst0 = (0 : UInt64) := by decide +kernel
abbrev Hw (Z : State) (a0 : Array Value) : Prop := ∀ d ∈ tables_1, d.before a0 Z = true
theorem wd {Z : State} {a0 : Array Value} (hw : Hw Z a0) (i : Nat) {d : Jvm.Cond} (h : tables_1[i]? = some d := by rfl) : d.before a0 Z = true := hw d (List.mem_of_getElem? h)
theorem nb {a b : Nat} (h : Nat.ble a b = true) : a ≤ b := Nat.le_of_ble_eq_true h
abbrev MF (l : Launch) (Z : State) (y : MethodName) (bytes : ByteArray) (maxL : Nat) (ret : Option FieldType) (ws : List Jvm.Cond) (RT : Room) (as' : Array Value) (h0 : Heap) (Q : Option Value → Heap → List Loc → Prop) : Prop :=
  MetFree l y (head1 (Jvm.Cond.code y bytes maxL ret :: ws) RT) (fun a U => a = as' ∧ Z.Warmed39 U.vm ∧ U.heap = h0) (fun _ _ _ _ _ => True) (fun _ U o U' => ∃ v L, o = .returned v ∧ Q v U'.heap L ∧ FrameEnd U o U' L RT.cells RT.slots)
theorem MF.of {l : Launch} {Z : State} {y : MethodName} {bytes : ByteArray} {maxL : Nat} {ret : Option FieldType} {ws : List Jvm.Cond} {RT : Room} {as' : Array Value} {h0 : Heap} {Q : Option Value → Heap → List Loc → Prop} {Ls : Array Slot} (pn : plainFor y = true) (ef : ∀ m, entryFrame m as' maxL = mkF m 0 Ls [])
    (k : ∀ (p : Program) (e : Env) (s : State) (m : MethodId) (below : List Frame) (meth : Method) (c : Code) (s₁ : State) (G : Outcome → State → Prop), Stand p l e RT s m as' below meth c s₁ [] 0 0 → s₁.heap = h0 → p.tables.exec = Jvm.exec → c.code = bytes → c.maxLocals = maxL → s.vm.findClass y.cls = some m.cls → meth.name = y.name → meth.locks = false → meth.sig.returnType = ret → Z.Warmed39 s.vm → s.methodNamed? y = some m →
      (∀ o u, (∃ v L, o = .returned v ∧ Q v u.heap L ∧ FrameEnd s o u L RT.cells RT.slots) → G o u) → Owe p.tables e below G s₁ (mkF m 0 Ls [])) : MF l Z y bytes maxL ret ws RT as' h0 Q := by
  refine MetFree.of_bodySF pn hisR ?_
  intro p e s m args below meth c s₁ Bd hml hP hK
  obtain ⟨rfl, hZ, hh⟩ := hP
  obtain ⟨u, o, h1, h2, h3, h4⟩ := k p e s m below meth c s₁ (fun o u => ∃ v L, o = .returned v ∧ Q v u.heap L ∧ FrameEnd s o u L RT.cells RT.slots) (Stand.of_body Bd) (by rw [← hh, Bd.state]; rfl) Bd.exec Bd.bytes hml (findClass_of_methodNamed Bd.named) (name_of_methodNamed Bd.named Bd.method).1 (BodyLoose.notSynchronized Bd) Bd.returns hZ Bd.named (fun _ _ q => q)
  exact ⟨u, o, castTop (ef m) h1, h2, h3, h4⟩
theorem and255_chars (x : Int32) : ¬ nar .char ((x &&& (255 : Int32)).toUInt32.toUInt16.toUInt32.toInt32) < 0 ∧ ¬ (255 : Int32) < nar .char ((x &&& (255 : Int32)).toUInt32.toUInt16.toUInt32.toInt32) := by
  have t : ∀ k : Fin 256, ¬ nar .char ((Int32.ofNat k.val).toUInt32.toUInt16.toUInt32.toInt32) < 0 ∧ ¬ (255 : Int32) < nar .char ((Int32.ofNat k.val).toUInt32.toUInt16.toUInt32.toInt32) := by decide +kernel
  have h : (x &&& 255).toBitVec.toNat < 256 := by
    simp only [Int32.toBitVec_and, BitVec.toNat_and]
    exact Nat.lt_succ_of_le Nat.and_le_right
  have e : (x &&& 255) = Int32.ofNat (x &&& 255).toBitVec.toNat := by
    apply Int32.toBitVec_inj.mp
    show _ = BitVec.ofNat 32 _
    rw [BitVec.ofNat_toNat]; simp
  rw [e]
  exact t ⟨_, h⟩
theorem own_narrow_ref {v : Value} {t : FieldType} (h : v.isRef = true) (ht : t.isReference = true) : narrow t v = v := by cases t <;> first | (cases ht; done) | (cases v <;> first | rfl | (cases h; done))
theorem own_fits_ref {v : Value} {t : FieldType} (h : v.isRef = true) (ht : t.isReference = true) : fits t v = true := by cases t <;> first | (cases ht; done) | (cases v <;> first | rfl | (cases h; done))
theorem own_cat_ref {v : Value} (h : v.isRef = true) : v.category = 1 := by cases v <;> first | rfl | (cases h; done)
theorem own_rem5 (x : Int32) : ((x &&& (2147483647 : Int32)) - ((x &&& (2147483647 : Int32)) / (5 : Int32)) * (5 : Int32)) = (0 : Int32) ∨ ((x &&& (2147483647 : Int32)) - ((x &&& (2147483647 : Int32)) / (5 : Int32)) * (5 : Int32)) = (1 : Int32) ∨ ((x &&& (2147483647 : Int32)) - ((x &&& (2147483647 : Int32)) / (5 : Int32)) * (5 : Int32)) = (2 : Int32) ∨ ((x &&& (2147483647 : Int32)) - ((x &&& (2147483647 : Int32)) / (5 : Int32)) * (5 : Int32)) = (3 : Int32) ∨ ((x &&& (2147483647 : Int32)) - ((x &&& (2147483647 : Int32)) / (5 : Int32)) * (5 : Int32)) = (4 : Int32) := by
  have h0 := c_and x (2147483647 : Int32) (by decide)
  generalize (x &&& (2147483647 : Int32)) = k at h0 ⊢
  have h1 := (c_idiv k (5 : Int32) 5 (by decide) (by decide)).1 h0.1
  have h2 := c_imul (k / (5 : Int32)) (5 : Int32)
  have h3 := c_isub k (k / (5 : Int32) * (5 : Int32))
  have r1 := rng32 (k / (5 : Int32) * (5 : Int32)); have r2 := rng32 (k - k / (5 : Int32) * (5 : Int32)); have r3 := rng32 k
  rw [h1, show ((5 : Int32)).toInt = 5 from rfl] at h2
  have e : (k - k / (5 : Int32) * (5 : Int32)).toInt = 0 ∨ (k - k / (5 : Int32) * (5 : Int32)).toInt = 1 ∨ (k - k / (5 : Int32) * (5 : Int32)).toInt = 2 ∨ (k - k / (5 : Int32) * (5 : Int32)).toInt = 3 ∨ (k - k / (5 : Int32) * (5 : Int32)).toInt = 4 := by omega
  simp only [← Int32.toInt_inj]
  exact e
def own_EL : List (String × Nat) := []
theorem own_ew {Z : State} {a0 : Array Value} (hw : ∀ d ∈ tables_1, d.before a0 Z = true) : EW Z a0 own_EL := EW.nil
theorem own_sa : ∀ d ∈ Bundle.stringAtoms, d ∈ tables_1 := by decide +kernel
theorem own_wS {Z : State} {a0 : Array Value} (hw : ∀ d ∈ tables_1, d.before a0 Z = true) : ∀ a ∈ Bundle.stringAtoms, a.before a0 Z = true := fun d hd => hw d (own_sa d hd)
theorem own_safe_null {Z : State} {EL : List (String × Nat)} {vm : Vm} {h : Heap} {x : Addr} (hal : Z.vm.Alike vm) (E : Exa Z h x "java/lang/String") (F : Fld Z h x "java/lang/String" "value" "[B" .null) : Safe Z EL vm h x := fun B => by
  obtain ⟨p, -, u, a, -, q, -, S, rfl | rfl⟩ := B
  · obtain ⟨cS, ⟨⟨s1, -, -, ⟨c1, k1, i1, f1, -⟩, -, -, -, v1, -⟩, -⟩, -⟩ := S
    obtain ⟨cell, cf, k, i, f, h1, h2, -, -, -, -, h7⟩ := F
    cases h1.symm.trans (show h[q.sa]? = some q.sC from s1)
    obtain ⟨k3, e3, -⟩ := State.fieldFound?_setVm (s := Z) hal h2
    have e4 := (show (Wst Z vm h).fieldFound? _ _ _ = _ from e3).symm.trans f1
    simp only [Option.some.injEq, Prod.mk.injEq] at e4
    rw [e4.2.2.2, v1] at h7
    cases h7
  · obtain ⟨cell, k, e1, e2, e3, -, -⟩ := E
    cases (show h[q.sd]? = some q.SA from S.hd).symm.trans e1
    obtain ⟨cS, -, -, f, -⟩ := S
    have f' : Z.vm.findClass "[B" = some q.SA.cls := by rw [← hal.findClass]; exact f
    obtain ⟨k1, q1, q2⟩ := Vm.findClass_spec f'
    obtain ⟨k2, q3, q4⟩ := Vm.findClass_spec e2
    cases q1.symm.trans q3
    exact absurd (q2.symm.trans q4) (by decide)
theorem own_safe_nil {Z : State} {vm : Vm} {h : Heap} {x : Addr} : Safe Z own_EL vm h x := fun B => by
  obtain ⟨p, hp, -⟩ := B
  cases hp
abbrev Y0 : MethodName := ⟨"java/lang/Double", "isInfinite", "(D)Z"⟩
abbrev Y1 : MethodName := ⟨"com/example/pickwright/pickwright/PickingTimes", "requireTime", "(DLjava/lang/String;)V"⟩
abbrev Y2 : MethodName := ⟨"com/example/pickwright/pickwright/PickingTimes", "<init>", "(DDD)V"⟩
abbrev Y3 : MethodName := ⟨"com/example/pickwright/pickwright/PickingTimes", "time", "(DDD)D"⟩
theorem pd_0 : parseMethodDescriptor "(D)Z" = some ⟨[.double], some .boolean⟩ := by decide +kernel
theorem pd_1 : parseMethodDescriptor "(DLjava/lang/String;)V" = some ⟨[.double, (.object "java/lang/String")], none⟩ := by decide +kernel
theorem pd_2 : parseMethodDescriptor "(DDD)V" = some ⟨[.double, .double, .double], none⟩ := by decide +kernel
theorem pd_3 : parseMethodDescriptor "(DDD)D" = some ⟨[.double, .double, .double], some .double⟩ := by decide +kernel
theorem d0_0 : decode jdk_117_method_7_code 0 = .ok (.dload_n 0, 1) := by decide +kernel
theorem d0_1 : decode jdk_117_method_7_code 1 = .ok (.invokestatic 38, 3) := by decide +kernel
theorem d0_4 : decode jdk_117_method_7_code 4 = .ok (.ldc2_w 111, 3) := by decide +kernel
theorem d0_7 : decode jdk_117_method_7_code 7 = .ok (.dcmp .l, 1) := by decide +kernel
theorem d0_8 : decode jdk_117_method_7_code 8 = .ok (.ifCond .le 7, 3) := by decide +kernel
theorem d0_11 : decode jdk_117_method_7_code 11 = .ok (.iconst 1, 1) := by decide +kernel
theorem d0_12 : decode jdk_117_method_7_code 12 = .ok (.goto 4, 3) := by decide +kernel
theorem d0_15 : decode jdk_117_method_7_code 15 = .ok (.iconst 0, 1) := by decide +kernel
theorem d0_16 : decode jdk_117_method_7_code 16 = .ok (.ireturn, 1) := by decide +kernel
theorem pn_0 : plainName "java/lang/Double" = true := by first | (simp [plainName, overriddenIn]; done) | decide +kernel
theorem ef_isi (m : MethodId) (x0 : UInt64)  : entryFrame m #[(.double x0)] 2 = mkF m 0 #[.val (.double x0), .second] [] := by first | (simp [entryFrame, mkF, argsToLocals, Value.category]; done) | rfl
def Qisi (Z : State) (x1 : UInt64) (h0 : Heap) (n0 : Nat) (v : Option Value) (h : Heap) (L : List Loc) : Prop := v = some (.int (0 : Int32)) ∧ Fr n0 L ∧ h = h0
set_option maxRecDepth 65536 in
set_option maxHeartbeats 40000000 in
theorem rmisi (l : Launch) (Z : State) (a0 : Array Value) (hw : Hw Z a0) (ws : List Jvm.Cond) (x1 : UInt64) (h0 : Heap) (n0 : Nat) (Z0 : n0 ≤ h0.size) (hab : x1 &&& 0x7fffffffffffffff ≤ 0x7ff0000000000000) (hinf : ¬ (0 : Int32) < (cmpValue (FP.dcmp (x1 &&& 0x7fffffffffffffff) (9218868437227405311 : UInt64)) .l)) :
    MF l Z Y0 jdk_117_method_7_code 2 (some .boolean) ws ({ frames := 1, cells := 0, slots := 0, locals := 14 } : Room) #[(.double x1)] h0 (Qisi Z x1 h0 n0) := by
  refine MF.of (plainFor_of_name pn_0) (fun m => ef_isi m x1) ?_
  intro p e s m below meth c s₁ G X0 e0 hx hby hml hown hnm hlk hrt hZ hnd hG
  have N0 := Fr.nil n0
  refine Owe.dloadN X0.here hx (hb hby d0_0) rfl ?_
  refine Owe.absD X0 hx hZ hown (wd hw 15) (wd hw 16) (wd hw 17) (wd hw 18) e0 hab (by rw [hml]; rfl) rfl (hb hby d0_1) (by decide) (W := 0) (nb rfl) (by decide) fun T1 X1 e1 => ?_
  refine Owe.ldc2D X1 hx (v := (9218868437227405311 : UInt64)) hown (mvT hZ (wd hw 19)) (hb hby d0_4) ?_
  refine Owe.dcmpS X1.here hx (hb hby d0_7) rfl rfl ?_
  refine Owe.ifYes X1.here hx (hb hby d0_8) rfl ((if0 _ _).trans (flt hinf).2.2.2) (pc' := 15) (by decide) (by decide) ?_
  refine Owe.iconst X1.here hx (hb hby d0_15) (w := (0 : Int32)) rfl ?_
  refine Owe.retN X1 hx hlk (t := .boolean) hrt (by simp) (hb hby d0_16) rfl fun fs hE => ?_
  refine hG _ _ ⟨_, _, rfl, ?_, frameMono hE (by decide) (by decide)⟩
  show Qisi Z x1 h0 n0 _ T1.heap _
  rw [e1]
  exact ⟨rfl, N0, rfl⟩
theorem d1_0 : decode prog_20_method_2_code 0 = .ok (.dload_n 0, 1) := by decide +kernel
theorem d1_1 : decode prog_20_method_2_code 1 = .ok (.dconst 0, 1) := by decide +kernel
theorem d1_2 : decode prog_20_method_2_code 2 = .ok (.dcmp .l, 1) := by decide +kernel
theorem d1_3 : decode prog_20_method_2_code 3 = .ok (.ifCond .lt 10, 3) := by decide +kernel
theorem d1_6 : decode prog_20_method_2_code 6 = .ok (.dload_n 0, 1) := by decide +kernel
theorem d1_7 : decode prog_20_method_2_code 7 = .ok (.invokestatic 7, 3) := by decide +kernel
theorem d1_10 : decode prog_20_method_2_code 10 = .ok (.ifCond .eq 17, 3) := by decide +kernel
theorem d1_13 : decode prog_20_method_2_code 13 = .ok (.new 13, 3) := by decide +kernel
theorem d1_16 : decode prog_20_method_2_code 16 = .ok (.dup, 1) := by decide +kernel
theorem d1_17 : decode prog_20_method_2_code 17 = .ok (.aload_n 2, 1) := by decide +kernel
theorem d1_18 : decode prog_20_method_2_code 18 = .ok (.invokedynamic 40, 5) := by decide +kernel
theorem d1_23 : decode prog_20_method_2_code 23 = .ok (.invokespecial 17, 3) := by decide +kernel
theorem d1_26 : decode prog_20_method_2_code 26 = .ok (.athrow, 1) := by decide +kernel
theorem d1_27 : decode prog_20_method_2_code 27 = .ok (.return_, 1) := by decide +kernel
theorem pn_1 : plainName "com/example/pickwright/pickwright/PickingTimes" = true := by first | (simp [plainName, overriddenIn]; done) | decide +kernel
theorem ef_req (m : MethodId) (x0 : UInt64) (x1 : Addr)  : entryFrame m #[(.double x0), (.ref x1)] 3 = mkF m 0 #[.val (.double x0), .second, .val (.ref x1)] [] := by first | (simp [entryFrame, mkF, argsToLocals, Value.category]; done) | rfl
def Qreq (Z : State) (x1 : UInt64) (a2 : Addr) (h0 : Heap) (n0 : Nat) (v : Option Value) (h : Heap) (L : List Loc) : Prop := v = none ∧ Fr n0 L ∧ h = h0
set_option maxRecDepth 65536 in
set_option maxHeartbeats 40000000 in
theorem rmreq (l : Launch) (Z : State) (a0 : Array Value) (hw : Hw Z a0) (ws : List Jvm.Cond) (x1 : UInt64) (a2 : Addr) (h0 : Heap) (n0 : Nat) (Z0 : n0 ≤ h0.size) (hab : x1 &&& 0x7fffffffffffffff ≤ 0x7ff0000000000000) (hinf : ¬ (0 : Int32) < (cmpValue (FP.dcmp (x1 &&& 0x7fffffffffffffff) (9218868437227405311 : UInt64)) .l)) (hge : ¬ (cmpValue (FP.dcmp x1 (0 : UInt64)) .l) < (0 : Int32)) :
    MF l Z Y1 prog_20_method_2_code 3 none ws ({ frames := 2, cells := 0, slots := 0, locals := 28 } : Room) #[(.double x1), (.ref a2)] h0 (Qreq Z x1 a2 h0 n0) := by
  refine MF.of (plainFor_of_name pn_1) (fun m => ef_req m x1 a2) ?_
  intro p e s m below meth c s₁ G X0 e0 hx hby hml hown hnm hlk hrt hZ hnd hG
  have N0 := Fr.nil n0
  refine Owe.dloadN X0.here hx (hb hby d1_0) rfl ?_
  refine Owe.dconst0 X0.here hx (hb hby d1_1) (v := (0 : UInt64)) own_dconst0 ?_
  refine Owe.dcmpS X0.here hx (hb hby d1_2) rfl rfl ?_
  refine Owe.ifNo X0.here hx (hb hby d1_3) rfl ((if0 _ _).trans (flt hge).1) ?_
  refine Owe.dloadN X0.here hx (hb hby d1_6) rfl ?_
  refine Owe.stat X0 hx (y := Y0) hown (mvT hZ (wd hw 11)) (mvT hZ (wd hw 12)) (mvT hZ (wd hw 13)) (mvT hZ (wd hw 14)) (by decide) (backOf (W := 0) (rmisi l Z a0 hw [] x1 h0 n0 Z0 hab hinf) hZ (wd hw 14) (wd hw 13) (by decide) (by decide)) (by rw [hml]; rfl) (argsL := [(.double x1)]) (rest := []) (lenOf pd_0 rfl) rfl (nb rfl) (hb hby d1_7) rfl e0 (by decide) (by decide) fun T2 v2 L2 X2 hQ2 => ?_
  obtain ⟨rfl, Nq2, e2⟩ := hQ2
  have N2 := Fr.app N0 Nq2
  refine Owe.ifYes X2.here hx (hb hby d1_10) rfl ((if0 _ _).trans (teq (by decide)).1) (pc' := 27) (by decide) (by decide) ?_
  refine Owe.ret0 X2 hx hlk hrt (hb hby d1_27) rfl fun fs hE => ?_
  refine hG _ _ ⟨_, _, rfl, ?_, frameMono hE (by decide) (by decide)⟩
  show Qreq Z x1 a2 h0 n0 _ T2.heap _
  rw [e2]
  exact ⟨rfl, N2, rfl⟩
theorem d2_0 : decode prog_20_method_1_code 0 = .ok (.aload_n 0, 1) := by decide +kernel
theorem d2_1 : decode prog_20_method_1_code 1 = .ok (.invokespecial 1, 3) := by decide +kernel
theorem d2_4 : decode prog_20_method_1_code 4 = .ok (.dload_n 1, 1) := by decide +kernel
theorem d2_5 : decode prog_20_method_1_code 5 = .ok (.dconst 0, 1) := by decide +kernel
theorem d2_6 : decode prog_20_method_1_code 6 = .ok (.dcmp .l, 1) := by decide +kernel
theorem d2_7 : decode prog_20_method_1_code 7 = .ok (.ifCond .le 10, 3) := by decide +kernel
theorem d2_10 : decode prog_20_method_1_code 10 = .ok (.dload_n 1, 1) := by decide +kernel
theorem d2_11 : decode prog_20_method_1_code 11 = .ok (.invokestatic 7, 3) := by decide +kernel
theorem d2_14 : decode prog_20_method_1_code 14 = .ok (.ifCond .eq 13, 3) := by decide +kernel
theorem d2_17 : decode prog_20_method_1_code 17 = .ok (.new 13, 3) := by decide +kernel
theorem d2_20 : decode prog_20_method_1_code 20 = .ok (.dup, 1) := by decide +kernel
theorem d2_21 : decode prog_20_method_1_code 21 = .ok (.ldc 15, 2) := by decide +kernel
theorem d2_23 : decode prog_20_method_1_code 23 = .ok (.invokespecial 17, 3) := by decide +kernel
theorem d2_26 : decode prog_20_method_1_code 26 = .ok (.athrow, 1) := by decide +kernel
theorem d2_27 : decode prog_20_method_1_code 27 = .ok (.dload_n 3, 1) := by decide +kernel
theorem d2_28 : decode prog_20_method_1_code 28 = .ok (.ldc 20, 2) := by decide +kernel
theorem d2_30 : decode prog_20_method_1_code 30 = .ok (.invokestatic 22, 3) := by decide +kernel
theorem d2_33 : decode prog_20_method_1_code 33 = .ok (.dload 5, 2) := by decide +kernel
theorem d2_35 : decode prog_20_method_1_code 35 = .ok (.ldc 28, 2) := by decide +kernel
theorem d2_37 : decode prog_20_method_1_code 37 = .ok (.invokestatic 22, 3) := by decide +kernel
theorem d2_40 : decode prog_20_method_1_code 40 = .ok (.aload_n 0, 1) := by decide +kernel
theorem d2_41 : decode prog_20_method_1_code 41 = .ok (.dload_n 1, 1) := by decide +kernel
theorem d2_42 : decode prog_20_method_1_code 42 = .ok (.putfield 30, 3) := by decide +kernel
theorem d2_45 : decode prog_20_method_1_code 45 = .ok (.aload_n 0, 1) := by decide +kernel
theorem d2_46 : decode prog_20_method_1_code 46 = .ok (.dload_n 3, 1) := by decide +kernel
theorem d2_47 : decode prog_20_method_1_code 47 = .ok (.putfield 34, 3) := by decide +kernel
theorem d2_50 : decode prog_20_method_1_code 50 = .ok (.aload_n 0, 1) := by decide +kernel
theorem d2_51 : decode prog_20_method_1_code 51 = .ok (.dload 5, 2) := by decide +kernel
theorem d2_53 : decode prog_20_method_1_code 53 = .ok (.putfield 37, 3) := by decide +kernel
theorem d2_56 : decode prog_20_method_1_code 56 = .ok (.return_, 1) := by decide +kernel
theorem ef_ini (m : MethodId) (x0 : Addr) (x1 : UInt64) (x2 : UInt64) (x3 : UInt64)  : entryFrame m #[(.ref x0), (.double x1), (.double x2), (.double x3)] 7 = mkF m 0 #[.val (.ref x0), .val (.double x1), .second, .val (.double x2), .second, .val (.double x3), .second] [] := by first | (simp [entryFrame, mkF, argsToLocals, Value.category]; done) | rfl
def Qini (Z : State) (a1 : Addr) (sp : UInt64) (pk : UInt64) (bt : UInt64) (h0 : Heap) (n0 : Nat) (v : Option Value) (h : Heap) (L : List Loc) : Prop := v = none ∧ Fr n0 L ∧ Keep h0 h [a1] ∧ Exa Z h a1 "com/example/pickwright/pickwright/PickingTimes" ∧ Fld Z h a1 "com/example/pickwright/pickwright/PickingTimes" "_speed" "D" (.double sp) ∧ Fld Z h a1 "com/example/pickwright/pickwright/PickingTimes" "_pickTime" "D" (.double pk) ∧ Fld Z h a1 "com/example/pickwright/pickwright/PickingTimes" "_batchTime" "D" (.double bt)
set_option maxRecDepth 65536 in
set_option maxHeartbeats 40000000 in
theorem rmini (l : Launch) (Z : State) (a0 : Array Value) (hw : Hw Z a0) (ws : List Jvm.Cond) (a1 : Addr) (sp : UInt64) (pk : UInt64) (bt : UInt64) (h0 : Heap) (n0 : Nat) (Z0 : n0 ≤ h0.size) (E_a1 : Exa Z h0 a1 "com/example/pickwright/pickwright/PickingTimes") (F_speed_a1 : Fld Z h0 a1 "com/example/pickwright/pickwright/PickingTimes" "_speed" "D" (.double (0 : UInt64))) (F_pickTime_a1 : Fld Z h0 a1 "com/example/pickwright/pickwright/PickingTimes" "_pickTime" "D" (.double (0 : UInt64))) (F_batchTime_a1 : Fld Z h0 a1 "com/example/pickwright/pickwright/PickingTimes" "_batchTime" "D" (.double (0 : UInt64))) (ge_a1 : n0 ≤ a1) (Ol : Old Z n0 h0) (hgS : (0 : Int32) < (cmpValue (FP.dcmp sp (0 : UInt64)) .l)) (habS : sp &&& 0x7fffffffffffffff ≤ 0x7ff0000000000000) (hinfS : ¬ (0 : Int32) < (cmpValue (FP.dcmp (sp &&& 0x7fffffffffffffff) (9218868437227405311 : UInt64)) .l)) (habP : pk &&& 0x7fffffffffffffff ≤ 0x7ff0000000000000) (hinfP : ¬ (0 : Int32) < (cmpValue (FP.dcmp (pk &&& 0x7fffffffffffffff) (9218868437227405311 : UInt64)) .l)) (hgeP : ¬ (cmpValue (FP.dcmp pk (0 : UInt64)) .l) < (0 : Int32)) (habB : bt &&& 0x7fffffffffffffff ≤ 0x7ff0000000000000) (hinfB : ¬ (0 : Int32) < (cmpValue (FP.dcmp (bt &&& 0x7fffffffffffffff) (9218868437227405311 : UInt64)) .l)) (hgeB : ¬ (cmpValue (FP.dcmp bt (0 : UInt64)) .l) < (0 : Int32)) :
    MetFree l Y2 (head1 (Jvm.Cond.code Y2 prog_20_method_1_code 7 none :: ws) ({ frames := 3, cells := 4, slots := 80, locals := 60 } : Room)) (fun a U => a = #[(.ref a1), (.double sp), (.double pk), (.double bt)] ∧ Z.Warmed39 U.vm ∧ U.heap = h0 ∧ CHv Z own_EL U.vm h0) (fun _ _ _ _ _ => True) (fun _ U o U' => ∃ v L, o = .returned v ∧ Qini Z a1 sp pk bt h0 n0 v U'.heap L ∧ CHr Z own_EL U.vm U.heap U'.vm U'.heap ∧ ReturnedEndW U o U' L ({ frames := 3, cells := 4, slots := 80, locals := 60 } : Room).cells ({ frames := 3, cells := 4, slots := 80, locals := 60 } : Room).slots) := by
  refine MetFree.of_bodySF (plainFor_of_name pn_1) hisR ?_
  intro p e s m args below meth c s₁ Bd hml0 hP hK
  obtain ⟨rfl, hZ0, hh, H0⟩ := hP
  have hx := Bd.exec
  have hby := Bd.bytes
  have hml : c.maxLocals = 7 := hml0
  have hown : s.vm.findClass "com/example/pickwright/pickwright/PickingTimes" = some m.cls := findClass_of_methodNamed Bd.named
  have hnm := (name_of_methodNamed Bd.named Bd.method).1
  have hlk : meth.locks = false := BodyLoose.notSynchronized Bd
  have X0 : Stand p l e ({ frames := 3, cells := 4, slots := 80, locals := 60 } : Room) (s.setVm s.vm) m #[(.ref a1), (.double sp), (.double pk), (.double bt)] below meth c s₁ [] 0 0 := Stand.of_body Bd
  have e0 : s₁.heap = h0 := by rw [← hh, Bd.state]; rfl
  have N0 := Fr.nil n0
  have hrt := Bd.returns
  have K0 := Keep.refl h0 [a1]
  have hZ : Z.Warmed39 (s.setVm s.vm).vm := hZ0
  have hown1 : (s.setVm s.vm).vm.findClass "com/example/pickwright/pickwright/PickingTimes" = some m.cls := hown
  have hS0 : s.Since s.vm 0 := (State.WarmedH.refl s).since 0
  have hk0 : 0 ≤ h0.size := Nat.zero_le _
  have R0 : CHr Z own_EL s.vm h0 s.vm h0 := CHr.refl H0
  have sf_a1 : Safe Z own_EL s.vm h0 a1 := own_safe_nil
  obtain ⟨G, hG⟩ : ∃ G : Outcome → State → Prop, G = fun o u => ∃ v L, o = .returned v ∧ Qini Z a1 sp pk bt h0 n0 v u.heap L ∧ CHr Z own_EL s.vm s.heap u.vm u.heap ∧ ReturnedEndW s o u L ({ frames := 3, cells := 4, slots := 80, locals := 60 } : Room).cells ({ frames := 3, cells := 4, slots := 80, locals := 60 } : Room).slots := ⟨_, rfl⟩
  suffices hgo : Owe p.tables e below G s₁ (mkF m 0 #[.val (.ref a1), .val (.double sp), .second, .val (.double pk), .second, .val (.double bt), .second] []) by
    obtain ⟨u, o, h1, h2, h3, h4⟩ := hgo
    exact ⟨u, o, castTop (ef_ini m a1 sp pk bt) h1, h2, h3, by rw [hG] at h4; exact h4⟩
  refine Owe.aloadN X0.here hx (hb hby d2_0) rfl rfl ?_
  refine Owe.objinit X0 hx hZ hown1 (wd hw 8) (wd hw 9) (wd hw 10) e0 (by rw [hml]; rfl) rfl (hb hby d2_1) (by decide) (W := 0) (nb rfl) (by decide) fun T3 X3 e3 => ?_
  refine Owe.dloadN X3.here hx (hb hby d2_4) rfl ?_
  refine Owe.dconst0 X3.here hx (hb hby d2_5) (v := (0 : UInt64)) own_dconst0 ?_
  refine Owe.dcmpS X3.here hx (hb hby d2_6) rfl rfl ?_
  refine Owe.ifNo X3.here hx (hb hby d2_7) rfl ((if0 _ _).trans (tlt hgS).2.2.2) ?_
  refine Owe.dloadN X3.here hx (hb hby d2_10) rfl ?_
  refine Owe.stat X3 hx (y := Y0) hown1 (mvT hZ (wd hw 11)) (mvT hZ (wd hw 12)) (mvT hZ (wd hw 13)) (mvT hZ (wd hw 14)) (by decide) (backOf (W := 0) (rmisi l Z a0 hw [] sp h0 n0 Z0 habS hinfS) hZ (wd hw 14) (wd hw 13) (by decide) (by decide)) (by rw [hml]; rfl) (argsL := [(.double sp)]) (rest := []) (lenOf pd_0 rfl) rfl (nb rfl) (hb hby d2_11) rfl e3 (by decide) (by decide) fun T4 v4 L4 X4 hQ4 => ?_
  obtain ⟨rfl, Nq4, e4⟩ := hQ4
  have N4 := Fr.app N0 Nq4
  refine Owe.ifYes X4.here hx (hb hby d2_14) rfl ((if0 _ _).trans (teq (by decide)).1) (pc' := 27) (by decide) (by decide) ?_
  refine Owe.dloadN X4.here hx (hb hby d2_27) rfl ?_
  refine Owe.ldcO X4 hx hZ hS0 (own_ew hw) H0 hown1 (wd hw 20) (own_wS hw) e4 hk0 (hb hby d2_28) (n := 16) (by decide) (by decide) (by decide) (by decide) fun l5 T5 h5 k5 X5 e5 E5 hS5 hk5 hZ5 hown5 hC5 Lt5 => ?_
  have hk6 := Nat.le_trans hk0 E5.1
  have K_7 := K0.ext E5
  have E_a1_8 := E_a1.ext E5
  have F_speed_a1_9 := F_speed_a1.ext E5
  have F_pickTime_a1_10 := F_pickTime_a1.ext E5
  have F_batchTime_a1_11 := F_batchTime_a1.ext E5
  have Ol_12 := Ol.ext E5
  have Z_13 := Nat.le_trans Z0 E5.1
  have sf_a1_5 := CHr.safe hC5 E_a1.lt sf_a1
  have Rr5 := R0.trans hC5
  have H5 := hC5.1
  refine Owe.stat X5 hx (y := Y1) hown5 (mvT hZ5 (wd hw 28)) (mvT hZ5 (wd hw 29)) (mvT hZ5 (wd hw 4)) (mvT hZ5 (wd hw 30)) (by decide) (backOf (W := 0) (rmreq l Z a0 hw [] pk l5 h5 n0 Z_13 habP hinfP hgeP) hZ5 (wd hw 30) (wd hw 4) (by decide) (by decide)) (by rw [hml]; rfl) (argsL := [(.double pk), (.ref l5)]) (rest := []) (lenOf pd_1 rfl) rfl (nb rfl) (hb hby d2_30) rfl e5 (by decide) (by decide) fun T14 v14 L14 X14 hQ14 => ?_
  obtain ⟨rfl, Nq14, e14⟩ := hQ14
  have N14 := Fr.app N4 Nq14
  refine Owe.dload X14.here hx (hb hby d2_33) rfl ?_
  refine Owe.ldcO X14 hx hZ5 hS5 (own_ew hw) H5 hown5 (wd hw 31) (own_wS hw) e14 hk5 (hb hby d2_35) (n := 20) (by decide) (by decide) (by decide) (by decide) fun l15 T15 h15 k15 X15 e15 E15 hS15 hk15 hZ15 hown15 hC15 Lt15 => ?_
  have hk16 := Nat.le_trans hk5 E15.1
  have K_17 := K_7.ext E15
  have E_a1_18 := E_a1_8.ext E15
  have F_speed_a1_19 := F_speed_a1_9.ext E15
  have F_pickTime_a1_20 := F_pickTime_a1_10.ext E15
  have F_batchTime_a1_21 := F_batchTime_a1_11.ext E15
  have Ol_22 := Ol_12.ext E15
  have Z_23 := Nat.le_trans Z_13 E15.1
  have sf_a1_15 := CHr.safe hC15 E_a1_8.lt sf_a1_5
  have Rr15 := Rr5.trans hC15
  have H15 := hC15.1
  refine Owe.stat X15 hx (y := Y1) hown15 (mvT hZ15 (wd hw 28)) (mvT hZ15 (wd hw 29)) (mvT hZ15 (wd hw 4)) (mvT hZ15 (wd hw 30)) (by decide) (backOf (W := 0) (rmreq l Z a0 hw [] bt l15 h15 n0 Z_23 habB hinfB hgeB) hZ15 (wd hw 30) (wd hw 4) (by decide) (by decide)) (by rw [hml]; rfl) (argsL := [(.double bt), (.ref l15)]) (rest := []) (lenOf pd_1 rfl) rfl (nb rfl) (hb hby d2_37) rfl e15 (by decide) (by decide) fun T24 v24 L24 X24 hQ24 => ?_
  obtain ⟨rfl, Nq24, e24⟩ := hQ24
  have N24 := Fr.app N14 Nq24
  refine Owe.aloadN X24.here hx (hb hby d2_40) rfl rfl ?_
  refine Owe.dloadN X24.here hx (hb hby d2_41) rfl ?_
  refine Owe.putf X24 hx hZ15 (host := "") hown15 (Or.inl (wd hw 32)) Via.refl e24 F_speed_a1_19 E_a1_18 (Or.inr ⟨(wd hw 33), rfl, hnm⟩) (wd hw 3) (ty := .double) (by decide) rfl rfl (hb hby d2_42) rfl fun T25 h25 X25 e25 W25 => ?_
  have hk26 := Nat.le_trans hk15 (Keep.of_wr W25).1
  have sf_a1_26 := Safe.wr W25 sf_a1_15 H15 sf_a1_15
  have Rr26 := Rr15.trans (CHr.wr W25 sf_a1_15 H15)
  have H26 := CHv.wr W25 sf_a1_15 H15
  have K_27 := K_17.wr W25 (Or.inl (List.mem_of_getElem? (i := 0) rfl))
  have E_a1_28 := E_a1_18.wr W25
  have F_speed_a1_29 := F_speed_a1_19.same W25
  have F_pickTime_a1_30 := F_pickTime_a1_20.other W25 (Or.inr (slot_ne (Or.inr (wd hw 35)) (Or.inr (wd hw 33)) (by decide) (t := .double) (t' := .double) (by decide) (by decide)))
  have F_batchTime_a1_31 := F_batchTime_a1_21.other W25 (Or.inr (slot_ne (Or.inr (wd hw 37)) (Or.inr (wd hw 33)) (by decide) (t := .double) (t' := .double) (by decide) (by decide)))
  have Ol_32 := Ol_22.wr W25 ge_a1
  have Z_33 := Nat.le_trans Z_23 (Keep.of_wr W25).1
  have N25 := Fr.snoc X25 N24 ge_a1
  refine Owe.aloadN X25.here hx (hb hby d2_45) rfl rfl ?_
  refine Owe.dloadN X25.here hx (hb hby d2_46) rfl ?_
  refine Owe.putf X25 hx hZ15 (host := "") hown15 (Or.inl (wd hw 34)) Via.refl e25 F_pickTime_a1_30 E_a1_28 (Or.inr ⟨(wd hw 35), rfl, hnm⟩) (wd hw 3) (ty := .double) (by decide) rfl rfl (hb hby d2_47) rfl fun T34 h34 X34 e34 W34 => ?_
  have hk35 := Nat.le_trans hk26 (Keep.of_wr W34).1
  have sf_a1_35 := Safe.wr W34 sf_a1_26 H26 sf_a1_26
  have Rr35 := Rr26.trans (CHr.wr W34 sf_a1_26 H26)
  have H35 := CHv.wr W34 sf_a1_26 H26
  have K_36 := K_27.wr W34 (Or.inl (List.mem_of_getElem? (i := 0) rfl))
  have E_a1_37 := E_a1_28.wr W34
  have F_speed_a1_38 := F_speed_a1_29.other W34 (Or.inr (slot_ne (Or.inr (wd hw 33)) (Or.inr (wd hw 35)) (by decide) (t := .double) (t' := .double) (by decide) (by decide)))
  have F_pickTime_a1_39 := F_pickTime_a1_30.same W34
  have F_batchTime_a1_40 := F_batchTime_a1_31.other W34 (Or.inr (slot_ne (Or.inr (wd hw 37)) (Or.inr (wd hw 35)) (by decide) (t := .double) (t' := .double) (by decide) (by decide)))
  have Ol_41 := Ol_32.wr W34 ge_a1
  have Z_42 := Nat.le_trans Z_33 (Keep.of_wr W34).1
  have N34 := Fr.snoc X34 N25 ge_a1
  refine Owe.aloadN X34.here hx (hb hby d2_50) rfl rfl ?_
  refine Owe.dload X34.here hx (hb hby d2_51) rfl ?_
  refine Owe.putf X34 hx hZ15 (host := "") hown15 (Or.inl (wd hw 36)) Via.refl e34 F_batchTime_a1_40 E_a1_37 (Or.inr ⟨(wd hw 37), rfl, hnm⟩) (wd hw 3) (ty := .double) (by decide) rfl rfl (hb hby d2_53) rfl fun T43 h43 X43 e43 W43 => ?_
  have hk44 := Nat.le_trans hk35 (Keep.of_wr W43).1
  have sf_a1_44 := Safe.wr W43 sf_a1_35 H35 sf_a1_35
  have Rr44 := Rr35.trans (CHr.wr W43 sf_a1_35 H35)
  have H44 := CHv.wr W43 sf_a1_35 H35
  have K_45 := K_36.wr W43 (Or.inl (List.mem_of_getElem? (i := 0) rfl))
  have E_a1_46 := E_a1_37.wr W43
  have F_speed_a1_47 := F_speed_a1_38.other W43 (Or.inr (slot_ne (Or.inr (wd hw 33)) (Or.inr (wd hw 37)) (by decide) (t := .double) (t' := .double) (by decide) (by decide)))
  have F_pickTime_a1_48 := F_pickTime_a1_39.other W43 (Or.inr (slot_ne (Or.inr (wd hw 35)) (Or.inr (wd hw 37)) (by decide) (t := .double) (t' := .double) (by decide) (by decide)))
  have F_batchTime_a1_49 := F_batchTime_a1_40.same W43
  have Ol_50 := Ol_41.wr W43 ge_a1
  have Z_51 := Nat.le_trans Z_42 (Keep.of_wr W43).1
  have N43 := Fr.snoc X43 N34 ge_a1
  refine Owe.ret0W X43 hx hS15 e43 hk44 hlk hrt (hb hby d2_56) rfl fun fs hE => ?_
  rw [hG]
  refine ⟨_, _, rfl, ?_, ?_, coldMono hE (by decide) (by decide)⟩
  rotate_left
  · rw [hh]
    show CHr Z own_EL s.vm h0 T43.vm T43.heap
    rw [e43]
    exact Rr44.trans (CHv.at X43 hZ15 (own_ew hw) H44)
  show Qini Z a1 sp pk bt h0 n0 _ T43.heap _
  rw [e43]
  exact ⟨rfl, N43, K_45, E_a1_46, F_speed_a1_47, F_pickTime_a1_48, F_batchTime_a1_49⟩
theorem d3_0 : decode prog_20_method_6_code 0 = .ok (.dload_n 1, 1) := by decide +kernel
theorem d3_1 : decode prog_20_method_6_code 1 = .ok (.aload_n 0, 1) := by decide +kernel
theorem d3_2 : decode prog_20_method_6_code 2 = .ok (.getfield 30, 3) := by decide +kernel
theorem d3_5 : decode prog_20_method_6_code 5 = .ok (.ddiv, 1) := by decide +kernel
theorem d3_6 : decode prog_20_method_6_code 6 = .ok (.dload_n 3, 1) := by decide +kernel
theorem d3_7 : decode prog_20_method_6_code 7 = .ok (.aload_n 0, 1) := by decide +kernel
theorem d3_8 : decode prog_20_method_6_code 8 = .ok (.getfield 34, 3) := by decide +kernel
theorem d3_11 : decode prog_20_method_6_code 11 = .ok (.dmul, 1) := by decide +kernel
theorem d3_12 : decode prog_20_method_6_code 12 = .ok (.dadd, 1) := by decide +kernel
theorem d3_13 : decode prog_20_method_6_code 13 = .ok (.dload 5, 2) := by decide +kernel
theorem d3_15 : decode prog_20_method_6_code 15 = .ok (.aload_n 0, 1) := by decide +kernel
theorem d3_16 : decode prog_20_method_6_code 16 = .ok (.getfield 37, 3) := by decide +kernel
theorem d3_19 : decode prog_20_method_6_code 19 = .ok (.dmul, 1) := by decide +kernel
theorem d3_20 : decode prog_20_method_6_code 20 = .ok (.dadd, 1) := by decide +kernel
theorem d3_21 : decode prog_20_method_6_code 21 = .ok (.dreturn, 1) := by decide +kernel
theorem ef_tim (m : MethodId) (x0 : Addr) (x1 : UInt64) (x2 : UInt64) (x3 : UInt64)  : entryFrame m #[(.ref x0), (.double x1), (.double x2), (.double x3)] 7 = mkF m 0 #[.val (.ref x0), .val (.double x1), .second, .val (.double x2), .second, .val (.double x3), .second] [] := by first | (simp [entryFrame, mkF, argsToLocals, Value.category]; done) | rfl
def Qtim (Z : State) (a1 : Addr) (sp : UInt64) (pk : UInt64) (bt : UInt64) (xd : UInt64) (xu : UInt64) (xb : UInt64) (h0 : Heap) (n0 : Nat) (v : Option Value) (h : Heap) (L : List Loc) : Prop := v = some (.double (FP.dadd (FP.dadd (FP.ddiv xd sp) (FP.dmul xu pk)) (FP.dmul xb bt))) ∧ Fr n0 L ∧ h = h0
set_option maxRecDepth 65536 in
set_option maxHeartbeats 40000000 in
theorem rmtim (l : Launch) (Z : State) (a0 : Array Value) (hw : Hw Z a0) (ws : List Jvm.Cond) (a1 : Addr) (sp : UInt64) (pk : UInt64) (bt : UInt64) (xd : UInt64) (xu : UInt64) (xb : UInt64) (h0 : Heap) (n0 : Nat) (Z0 : n0 ≤ h0.size) (E_a1 : Exa Z h0 a1 "com/example/pickwright/pickwright/PickingTimes") (F_speed_a1 : Fld Z h0 a1 "com/example/pickwright/pickwright/PickingTimes" "_speed" "D" (.double sp)) (F_pickTime_a1 : Fld Z h0 a1 "com/example/pickwright/pickwright/PickingTimes" "_pickTime" "D" (.double pk)) (F_batchTime_a1 : Fld Z h0 a1 "com/example/pickwright/pickwright/PickingTimes" "_batchTime" "D" (.double bt)) (hn1 : Jvm.Free.Fl.NoNaN64 (FP.ddiv xd sp)) (hn2 : Jvm.Free.Fl.NoNaN64 (FP.dmul xu pk)) (hn3 : Jvm.Free.Fl.NoNaN64 (FP.dadd (FP.ddiv xd sp) (FP.dmul xu pk))) (hn4 : Jvm.Free.Fl.NoNaN64 (FP.dmul xb bt)) (hn5 : Jvm.Free.Fl.NoNaN64 (FP.dadd (FP.dadd (FP.ddiv xd sp) (FP.dmul xu pk)) (FP.dmul xb bt))) :
    MF l Z Y3 prog_20_method_6_code 7 (some .double) ws ({ frames := 0, cells := 0, slots := 0, locals := 0 } : Room) #[(.ref a1), (.double xd), (.double xu), (.double xb)] h0 (Qtim Z a1 sp pk bt xd xu xb h0 n0) := by
  refine MF.of (plainFor_of_name pn_1) (fun m => ef_tim m a1 xd xu xb) ?_
  intro p e s m below meth c s₁ G X0 e0 hx hby hml hown hnm hlk hrt hZ hnd hG
  have N0 := Fr.nil n0
  refine Owe.dloadN X0.here hx (hb hby d3_0) rfl ?_
  refine Owe.aloadN X0.here hx (hb hby d3_1) rfl rfl ?_
  refine Owe.getf X0 hx hZ (host := "") hown (Or.inl (wd hw 32)) Via.refl e0 F_speed_a1 (hb hby d3_2) rfl fun T52 X52 e52 => ?_
  refine Owe.ddivS X52.here hx (hb hby d3_5) rfl hn1 rfl ?_
  refine Owe.dloadN X52.here hx (hb hby d3_6) rfl ?_
  refine Owe.aloadN X52.here hx (hb hby d3_7) rfl rfl ?_
  refine Owe.getf X52 hx hZ (host := "") hown (Or.inl (wd hw 34)) Via.refl e52 F_pickTime_a1 (hb hby d3_8) rfl fun T53 X53 e53 => ?_
  refine Owe.dmulS X53.here hx (hb hby d3_11) rfl hn2 rfl ?_
  refine Owe.daddS X53.here hx (hb hby d3_12) rfl hn3 rfl ?_
  refine Owe.dload X53.here hx (hb hby d3_13) rfl ?_
  refine Owe.aloadN X53.here hx (hb hby d3_15) rfl rfl ?_
  refine Owe.getf X53 hx hZ (host := "") hown (Or.inl (wd hw 36)) Via.refl e53 F_batchTime_a1 (hb hby d3_16) rfl fun T54 X54 e54 => ?_
  refine Owe.dmulS X54.here hx (hb hby d3_19) rfl hn4 rfl ?_
  refine Owe.daddS X54.here hx (hb hby d3_20) rfl hn5 rfl ?_
  refine Owe.retD X54 hx hlk hrt (hb hby d3_21) rfl fun fs hE => ?_
  refine hG _ _ ⟨_, _, rfl, ?_, frameMono hE (by decide) (by decide)⟩
  show Qtim Z a1 sp pk bt xd xu xb h0 n0 _ T54.heap _
  rw [e54]
  exact ⟨rfl, N0, rfl⟩
theorem pn_2 : plainName "com/example/pickwright/pickwright/PickingTimesTimePinLaw" = true := by first | (simp [plainName, overriddenIn]; done) | decide +kernel
theorem ef_0 (m : MethodId) (x0 : Int32) (x1 : Int32) (x2 : Int32) (x3 : Int32) (x4 : Int32) (x5 : Int32)  : entryFrame m #[(.int x0), (.int x1), (.int x2), (.int x3), (.int x4), (.int x5)] maxLocals = mkF m 0 #[.val (.int x0), .val (.int x1), .val (.int x2), .val (.int x3), .val (.int x4), .val (.int x5), .unset, .unset, .unset, .unset, .unset, .unset, .unset, .unset, .unset, .unset] [] := by first | (simp [entryFrame, mkF, argsToLocals, Value.category, maxLocals]; done) | rfl
def Q0 (Z : State) (p1 : Int32) (p2 : Int32) (p3 : Int32) (p4 : Int32) (p5 : Int32) (p6 : Int32) (h0 : Heap) (n0 : Nat) (v : Option Value) (h : Heap) (L : List Loc) : Prop := v = some (.int 1) ∧ Fr n0 L
set_option maxRecDepth 65536 in
set_option maxHeartbeats 40000000 in
theorem rm0 (l : Launch) (Z : State) (a0 : Array Value) (hw : Hw Z a0) (ws : List Jvm.Cond) (p1 : Int32) (p2 : Int32) (p3 : Int32) (p4 : Int32) (p5 : Int32) (p6 : Int32) (h0 : Heap) (n0 : Nat) (Z0 : n0 ≤ h0.size) (Ol : Old Z n0 h0) :
    MetFree l x (head1 (Jvm.Cond.code x code maxLocals ret :: ws) room_1) (fun a U => a = #[(.int p1), (.int p2), (.int p3), (.int p4), (.int p5), (.int p6)] ∧ Z.Warmed39 U.vm ∧ U.heap = h0 ∧ CHv Z own_EL U.vm h0) (fun _ _ _ _ _ => True) (fun _ U o U' => ∃ v L, o = .returned v ∧ Q0 Z p1 p2 p3 p4 p5 p6 h0 n0 v U'.heap L ∧ CHr Z own_EL U.vm U.heap U'.vm U'.heap ∧ ReturnedEndW U o U' L room_1.cells room_1.slots) := by
  refine MetFree.of_bodySF (plainFor_of_name pn_2) hisR ?_
  intro p e s m args below meth c s₁ Bd hml0 hP hK
  obtain ⟨rfl, hZ0, hh, H0⟩ := hP
  have hx := Bd.exec
  have hby := Bd.bytes
  have hml : c.maxLocals = 16 := hml0
  have hown : s.vm.findClass "com/example/pickwright/pickwright/PickingTimesTimePinLaw" = some m.cls := findClass_of_methodNamed Bd.named
  have hnm := (name_of_methodNamed Bd.named Bd.method).1
  have hlk : meth.locks = false := BodyLoose.notSynchronized Bd
  have X0 : Stand p l e room_1 (s.setVm s.vm) m #[(.int p1), (.int p2), (.int p3), (.int p4), (.int p5), (.int p6)] below meth c s₁ [] 0 0 := Stand.of_body Bd
  have e0 : s₁.heap = h0 := by rw [← hh, Bd.state]; rfl
  have N0 := Fr.nil n0
  have hrt := Bd.returns
  have hZ : Z.Warmed39 (s.setVm s.vm).vm := hZ0
  have hown1 : (s.setVm s.vm).vm.findClass "com/example/pickwright/pickwright/PickingTimesTimePinLaw" = some m.cls := hown
  have hS0 : s.Since s.vm 0 := (State.WarmedH.refl s).since 0
  have hk0 : 0 ≤ h0.size := Nat.zero_le _
  have R0 : CHr Z own_EL s.vm h0 s.vm h0 := CHr.refl H0
  obtain ⟨G, hG⟩ : ∃ G : Outcome → State → Prop, G = fun o u => ∃ v L, o = .returned v ∧ Q0 Z p1 p2 p3 p4 p5 p6 h0 n0 v u.heap L ∧ CHr Z own_EL s.vm s.heap u.vm u.heap ∧ ReturnedEndW s o u L room_1.cells room_1.slots := ⟨_, rfl⟩
  suffices hgo : Owe p.tables e below G s₁ (mkF m 0 #[.val (.int p1), .val (.int p2), .val (.int p3), .val (.int p4), .val (.int p5), .val (.int p6), .unset, .unset, .unset, .unset, .unset, .unset, .unset, .unset, .unset, .unset] []) by
    obtain ⟨u, o, h1, h2, h3, h4⟩ := hgo
    exact ⟨u, o, castTop (ef_0 m p1 p2 p3 p4 p5 p6) h1, h2, h3, by rw [hG] at h4; exact h4⟩
  refine Owe.iloadN X0.here hx (hb hby at_0) rfl ?_
  refine Owe.ldcI X0 hx (v := (2147483647 : Int32)) hown1 (mvT hZ (wd hw 0)) (hb hby at_1) ?_
  refine Owe.iand X0.here hx (hb hby at_3) rfl ?_
  refine Owe.iconst X0.here hx (hb hby at_4) (w := (5 : Int32)) rfl ?_
  refine Owe.irem X0.here hx (hb hby at_5) rfl (by decide) ?_
  rcases own_rem5 p4 with hk | hk | hk | hk | hk
  · rw [hk]
    refine Owe.istore X0.here hx (hb hby at_6) rfl (l' := #[.val (.int p1), .val (.int p2), .val (.int p3), .val (.int p4), .val (.int p5), .val (.int p6), .val (.int (0 : Int32)), .unset, .unset, .unset, .unset, .unset, .unset, .unset, .unset, .unset]) rfl ?_
    refine Owe.iload X0.here hx (hb hby at_8) rfl ?_
    refine Owe.sipush X0.here hx (hb hby at_10) (w := (1023 : Int32)) rfl ?_
    refine Owe.iand X0.here hx (hb hby at_13) rfl ?_
    refine Owe.istore X0.here hx (hb hby at_14) rfl (l' := #[.val (.int p1), .val (.int p2), .val (.int p3), .val (.int p4), .val (.int p5), .val (.int p6), .val (.int (0 : Int32)), .val (.int (p5 &&& (1023 : Int32))), .unset, .unset, .unset, .unset, .unset, .unset, .unset, .unset]) rfl ?_
    refine Owe.iload X0.here hx (hb hby at_16) rfl ?_
    refine Owe.sipush X0.here hx (hb hby at_18) (w := (1023 : Int32)) rfl ?_
    refine Owe.iand X0.here hx (hb hby at_21) rfl ?_
    refine Owe.istore X0.here hx (hb hby at_22) rfl (l' := #[.val (.int p1), .val (.int p2), .val (.int p3), .val (.int p4), .val (.int p5), .val (.int p6), .val (.int (0 : Int32)), .val (.int (p5 &&& (1023 : Int32))), .val (.int (p6 &&& (1023 : Int32))), .unset, .unset, .unset, .unset, .unset, .unset, .unset]) rfl ?_
    refine Owe.iconst X0.here hx (hb hby at_24) (w := (1 : Int32)) rfl ?_
    refine Owe.iload X0.here hx (hb hby at_25) rfl ?_
    refine Owe.ishl X0.here hx (hb hby at_27) rfl ?_
    refine Owe.i2dS X0.here hx (hb hby at_28) rfl rfl ?_
    refine Owe.ldc2D X0 hx (v := (4616189618054758400 : UInt64)) hown1 (mvT hZ (wd hw 1)) (hb hby at_29) ?_
    refine Owe.ddivS X0.here hx (hb hby at_32) rfl (Jvm.Free.Fl.noNaN64_no.mpr (by decide +kernel)) rfl ?_
    refine Owe.dstore X0.here hx (hb hby at_33) rfl (l' := #[.val (.int p1), .val (.int p2), .val (.int p3), .val (.int p4), .val (.int p5), .val (.int p6), .val (.int (0 : Int32)), .val (.int (p5 &&& (1023 : Int32))), .val (.int (p6 &&& (1023 : Int32))), .val (.double (FP.ddiv (FP.i2d (1 : Int32)) (4616189618054758400 : UInt64))), .second, .unset, .unset, .unset, .unset, .unset]) rfl ?_
    refine Owe.new X0 hx hZ hown1 (wd hw 2) (wd hw 3) (wd hw 4) e0 (hb hby at_35) (by decide) (by decide) fun T55 h55 b55 g55 X55 e55 E55 A55 D55 => ?_
    have sf_b55 := (Safe.new (Nat.le_of_eq g55.symm) : Safe Z own_EL s.vm h0 b55)
    have ge_b55 := Nat.le_trans Z0 (Nat.le_of_eq g55.symm)
    have hk56 := Nat.le_trans hk0 E55.1
    have sf_b55_56 := Safe.ext E55 H0 sf_b55
    have Rr56 := R0.trans (CHr.ext E55 H0)
    have H56 := CHv.ext E55 H0
    have Ol_57 := Ol.ext E55
    have Z_58 := Nat.le_trans Z0 E55.1
    have F_speed_b55 : Fld Z h55 b55 "com/example/pickwright/pickwright/PickingTimes" "_speed" "D" (.double (0 : UInt64)) := D55 (Or.inr (wd hw 33)) (ty := .double) (by decide)
    have F_pickTime_b55 : Fld Z h55 b55 "com/example/pickwright/pickwright/PickingTimes" "_pickTime" "D" (.double (0 : UInt64)) := D55 (Or.inr (wd hw 35)) (ty := .double) (by decide)
    have F_batchTime_b55 : Fld Z h55 b55 "com/example/pickwright/pickwright/PickingTimes" "_batchTime" "D" (.double (0 : UInt64)) := D55 (Or.inr (wd hw 37)) (ty := .double) (by decide)
    refine Owe.dup X55.here hx (hb hby at_38) rfl rfl ?_
    refine Owe.dload X55.here hx (hb hby at_39) rfl ?_
    refine Owe.iload X55.here hx (hb hby at_41) rfl ?_
    refine Owe.i2dS X55.here hx (hb hby at_43) rfl rfl ?_
    refine Owe.iload X55.here hx (hb hby at_44) rfl ?_
    refine Owe.i2dS X55.here hx (hb hby at_46) rfl rfl ?_
    refine Owe.specialS X55 hx hZ hS0 hk56 (y := Y2) rfl hown1 (mvT hZ (wd hw 5)) (mvT hZ (wd hw 6)) (mvT hZ (wd hw 7)) (by decide) (backOfSH (W := 1) (rmini l Z a0 hw [] b55 (FP.ddiv (FP.i2d (1 : Int32)) (4616189618054758400 : UInt64)) (FP.i2d (p5 &&& (1023 : Int32))) (FP.i2d (p6 &&& (1023 : Int32))) h55 n0 Z_58 A55 F_speed_b55 F_pickTime_b55 F_batchTime_b55 ge_b55 Ol_57 (by decide +kernel) (by decide +kernel) (by decide +kernel) (own_hab p5) (own_hinf p5) (own_hge p5) (own_hab p6) (own_hinf p6) (own_hge p6)) hZ (wd hw 7) (wd hw 4) (by decide) (by decide) (own_ew hw) H56) (by rw [hml]; rfl) (a := b55) (argsL := [(.double (FP.ddiv (FP.i2d (1 : Int32)) (4616189618054758400 : UInt64))), (.double (FP.i2d (p5 &&& (1023 : Int32)))), (.double (FP.i2d (p6 &&& (1023 : Int32))))]) (rest := [(.ref b55)]) (lenOf pd_2 rfl) rfl (nb rfl) (hb hby at_47) rfl e55 (by decide) (by decide) fun T59 v59 L59 X59 hS59 hZ59 hown59 hC59 hQ59 => ?_
    obtain ⟨rfl, Nq59, K59, E_a1_59, F_speed_a1_59, F_pickTime_a1_59, F_batchTime_a1_59⟩ := hQ59
    have N59 := Fr.app N0 Nq59
    have hk60 := Nat.le_trans hk56 K59.1
    have Ol_61 := Ol_57.keep K59 (allS ge_b55 all0)
    have A55_62 := A55.keep K59
    have Z_63 := Nat.le_trans Z_58 K59.1
    have sf_b55_59 := CHr.safe hC59 A55.lt sf_b55_56
    have Rr59 := Rr56.trans hC59
    have H59 := hC59.1
    have hk59 : T59.heap.size ≤ T59.heap.size := Nat.le_refl _
    refine Owe.astore X59.here hx (hb hby at_50) rfl rfl (l' := #[.val (.int p1), .val (.int p2), .val (.int p3), .val (.int p4), .val (.int p5), .val (.int p6), .val (.int (0 : Int32)), .val (.int (p5 &&& (1023 : Int32))), .val (.int (p6 &&& (1023 : Int32))), .val (.double (FP.ddiv (FP.i2d (1 : Int32)) (4616189618054758400 : UInt64))), .second, .val (.ref b55), .unset, .unset, .unset, .unset]) rfl ?_
    refine Owe.aload X59.here hx (hb hby at_52) rfl rfl ?_
    refine Owe.iloadN X59.here hx (hb hby at_54) rfl ?_
    refine Owe.i2dS X59.here hx (hb hby at_55) rfl rfl ?_
    refine Owe.iloadN X59.here hx (hb hby at_56) rfl ?_
    refine Owe.i2dS X59.here hx (hb hby at_57) rfl rfl ?_
    refine Owe.iloadN X59.here hx (hb hby at_58) rfl ?_
    refine Owe.i2dS X59.here hx (hb hby at_59) rfl rfl ?_
    have hres := own_res (e := 0) (by decide) own_s0 p1 p2 p3 (p5 &&& (1023 : Int32)) (p6 &&& (1023 : Int32)) (own_rg p5) (own_rg p6)
    refine Owe.virt X59 hx hZ59 (y := Y3) (z := Y3) hown59 (mvT hZ59 (wd hw 38)) (mvT hZ59 (wd hw 39)) (mvT hZ59 (wd hw 41)) (mvT hZ59 (wd hw 40)) (notFace_of_selects (args := #[]) (mvT hZ59 (wd hw 41))) (by decide) (backOf (W := 0) (rmtim l Z a0 hw [] b55 (FP.ddiv (FP.i2d (1 : Int32)) (4616189618054758400 : UInt64)) (FP.i2d (p5 &&& (1023 : Int32))) (FP.i2d (p6 &&& (1023 : Int32))) (FP.i2d p1) (FP.i2d p2) (FP.i2d p3) T59.heap n0 Z_63 E_a1_59 F_speed_a1_59 F_pickTime_a1_59 F_batchTime_a1_59 (Jvm.Free.Fl.noNaN64_no.mpr hres.1) (Jvm.Free.Fl.noNaN64_no.mpr hres.2.1) (Jvm.Free.Fl.noNaN64_no.mpr hres.2.2.1) (Jvm.Free.Fl.noNaN64_no.mpr hres.2.2.2.1) (Jvm.Free.Fl.noNaN64_no.mpr hres.2.2.2.2.1)) hZ59 (wd hw 42) (wd hw 4) (by decide) (by decide)) (by rw [hml]; rfl) (a := b55) (argsL := [(.double (FP.i2d p1)), (.double (FP.i2d p2)), (.double (FP.i2d p3))]) (rest := []) E_a1_59 (lenOf pd_3 rfl) rfl (nb rfl) (hb hby at_60) rfl rfl (by decide) (by decide) fun T64 v64 L64 X64 hQ64 => ?_
    obtain ⟨rfl, Nq64, e64⟩ := hQ64
    have N64 := Fr.app N59 Nq64
    refine Owe.dstore X64.here hx (hb hby at_63) rfl (l' := #[.val (.int p1), .val (.int p2), .val (.int p3), .val (.int p4), .val (.int p5), .val (.int p6), .val (.int (0 : Int32)), .val (.int (p5 &&& (1023 : Int32))), .val (.int (p6 &&& (1023 : Int32))), .val (.double (FP.ddiv (FP.i2d (1 : Int32)) (4616189618054758400 : UInt64))), .second, .val (.ref b55), .val (.double (FP.dadd (FP.dadd (FP.ddiv (FP.i2d p1) (FP.ddiv (FP.i2d (1 : Int32)) (4616189618054758400 : UInt64))) (FP.dmul (FP.i2d p2) (FP.i2d (p5 &&& (1023 : Int32))))) (FP.dmul (FP.i2d p3) (FP.i2d (p6 &&& (1023 : Int32)))))), .second, .unset, .unset]) rfl ?_
    refine Owe.iloadN X64.here hx (hb hby at_65) rfl ?_
    refine Owe.i2l X64.here hx (hb hby at_66) rfl ?_
    refine Owe.lconst X64.here hx (hb hby at_67) (w := (1 : Int64)) rfl ?_
    refine Owe.iconst X64.here hx (hb hby at_68) (w := (4 : Int32)) rfl ?_
    refine Owe.iload X64.here hx (hb hby at_69) rfl ?_
    refine Owe.isub X64.here hx (hb hby at_71) rfl ?_
    refine Owe.lshl X64.here hx (hb hby at_72) rfl ?_
    refine Owe.lmul X64.here hx (hb hby at_73) rfl ?_
    refine Owe.ldc2L X64 hx (v := (4 : Int64)) hown59 (mvT hZ59 (wd hw 43)) (hb hby at_74) ?_
    refine Owe.iloadN X64.here hx (hb hby at_77) rfl ?_
    refine Owe.i2l X64.here hx (hb hby at_78) rfl ?_
    refine Owe.lmul X64.here hx (hb hby at_79) rfl ?_
    refine Owe.iload X64.here hx (hb hby at_80) rfl ?_
    refine Owe.i2l X64.here hx (hb hby at_82) rfl ?_
    refine Owe.lmul X64.here hx (hb hby at_83) rfl ?_
    refine Owe.ladd X64.here hx (hb hby at_84) rfl ?_
    refine Owe.ldc2L X64 hx (v := (4 : Int64)) hown59 (mvT hZ59 (wd hw 43)) (hb hby at_85) ?_
    refine Owe.iloadN X64.here hx (hb hby at_88) rfl ?_
    refine Owe.i2l X64.here hx (hb hby at_89) rfl ?_
    refine Owe.lmul X64.here hx (hb hby at_90) rfl ?_
    refine Owe.iload X64.here hx (hb hby at_91) rfl ?_
    refine Owe.i2l X64.here hx (hb hby at_93) rfl ?_
    refine Owe.lmul X64.here hx (hb hby at_94) rfl ?_
    refine Owe.ladd X64.here hx (hb hby at_95) rfl ?_
    refine Owe.lstore X64.here hx (hb hby at_96) rfl (l' := #[.val (.int p1), .val (.int p2), .val (.int p3), .val (.int p4), .val (.int p5), .val (.int p6), .val (.int (0 : Int32)), .val (.int (p5 &&& (1023 : Int32))), .val (.int (p6 &&& (1023 : Int32))), .val (.double (FP.ddiv (FP.i2d (1 : Int32)) (4616189618054758400 : UInt64))), .second, .val (.ref b55), .val (.double (FP.dadd (FP.dadd (FP.ddiv (FP.i2d p1) (FP.ddiv (FP.i2d (1 : Int32)) (4616189618054758400 : UInt64))) (FP.dmul (FP.i2d p2) (FP.i2d (p5 &&& (1023 : Int32))))) (FP.dmul (FP.i2d p3) (FP.i2d (p6 &&& (1023 : Int32)))))), .second, .val (.long ((((p1.toInt64) * ((1 : Int64) <<< ((4 : Int32) &&& 0x3f).toInt64)) + (((4 : Int64) * (p2.toInt64)) * ((p5 &&& (1023 : Int32)).toInt64))) + (((4 : Int64) * (p3.toInt64)) * ((p6 &&& (1023 : Int32)).toInt64)))), .second]) rfl ?_
    refine Owe.dload X64.here hx (hb hby at_98) rfl ?_
    refine Owe.ldc2D X64 hx (v := (4616189618054758400 : UInt64)) hown59 (mvT hZ59 (wd hw 1)) (hb hby at_100) ?_
    refine Owe.dmulS X64.here hx (hb hby at_103) rfl (Jvm.Free.Fl.noNaN64_no.mpr hres.2.2.2.2.2.1) rfl ?_
    refine Owe.lload X64.here hx (hb hby at_104) rfl ?_
    refine Owe.l2dS X64.here hx (hb hby at_106) rfl rfl ?_
    refine Owe.dcmpS X64.here hx (hb hby at_107) rfl rfl ?_
    refine Owe.ifNo X64.here hx (hb hby at_108) rfl ((if0 _ _).trans (teq (own_c0 (hres.2.2.2.2.2.2 _ (own_ref (k := ((1 : Int64) <<< ((4 : Int32) &&& 0x3f).toInt64)) (K := ((2 ^ (4 - 0) : Nat) : Int)) (own_rg p5) (own_rg p6) (by decide +kernel) (own_bd 0 (by decide)))))).2) ?_
    refine Owe.iconst X64.here hx (hb hby at_111) (w := (1 : Int32)) rfl ?_
    refine Owe.goto X64.here hx (hb hby at_112) (pc' := 116) (by decide) (by decide) ?_
    refine Owe.retNW X64 hx hS59 e64 hk59 hlk (t := .boolean) hrt (by simp) (hb hby at_116) rfl fun fs hE => ?_
    rw [hG]
    refine ⟨_, _, rfl, ?_, ?_, coldMono hE (by decide) (by decide)⟩
    rotate_left
    · rw [hh]
      show CHr Z own_EL s.vm h0 T64.vm T64.heap
      rw [e64]
      exact Rr59.trans (CHv.at X64 hZ59 (own_ew hw) H59)
    show Q0 Z p1 p2 p3 p4 p5 p6 h0 n0 _ T64.heap _
    rw [e64]
    exact ⟨rfl, N64⟩
  · rw [hk]
    refine Owe.istore X0.here hx (hb hby at_6) rfl (l' := #[.val (.int p1), .val (.int p2), .val (.int p3), .val (.int p4), .val (.int p5), .val (.int p6), .val (.int (1 : Int32)), .unset, .unset, .unset, .unset, .unset, .unset, .unset, .unset, .unset]) rfl ?_
    refine Owe.iload X0.here hx (hb hby at_8) rfl ?_
    refine Owe.sipush X0.here hx (hb hby at_10) (w := (1023 : Int32)) rfl ?_
    refine Owe.iand X0.here hx (hb hby at_13) rfl ?_
    refine Owe.istore X0.here hx (hb hby at_14) rfl (l' := #[.val (.int p1), .val (.int p2), .val (.int p3), .val (.int p4), .val (.int p5), .val (.int p6), .val (.int (1 : Int32)), .val (.int (p5 &&& (1023 : Int32))), .unset, .unset, .unset, .unset, .unset, .unset, .unset, .unset]) rfl ?_
    refine Owe.iload X0.here hx (hb hby at_16) rfl ?_
    refine Owe.sipush X0.here hx (hb hby at_18) (w := (1023 : Int32)) rfl ?_
    refine Owe.iand X0.here hx (hb hby at_21) rfl ?_
    refine Owe.istore X0.here hx (hb hby at_22) rfl (l' := #[.val (.int p1), .val (.int p2), .val (.int p3), .val (.int p4), .val (.int p5), .val (.int p6), .val (.int (1 : Int32)), .val (.int (p5 &&& (1023 : Int32))), .val (.int (p6 &&& (1023 : Int32))), .unset, .unset, .unset, .unset, .unset, .unset, .unset]) rfl ?_
    refine Owe.iconst X0.here hx (hb hby at_24) (w := (1 : Int32)) rfl ?_
    refine Owe.iload X0.here hx (hb hby at_25) rfl ?_
    refine Owe.ishl X0.here hx (hb hby at_27) rfl ?_
    refine Owe.i2dS X0.here hx (hb hby at_28) rfl rfl ?_
    refine Owe.ldc2D X0 hx (v := (4616189618054758400 : UInt64)) hown1 (mvT hZ (wd hw 1)) (hb hby at_29) ?_
    refine Owe.ddivS X0.here hx (hb hby at_32) rfl (Jvm.Free.Fl.noNaN64_no.mpr (by decide +kernel)) rfl ?_
    refine Owe.dstore X0.here hx (hb hby at_33) rfl (l' := #[.val (.int p1), .val (.int p2), .val (.int p3), .val (.int p4), .val (.int p5), .val (.int p6), .val (.int (1 : Int32)), .val (.int (p5 &&& (1023 : Int32))), .val (.int (p6 &&& (1023 : Int32))), .val (.double (FP.ddiv (FP.i2d (2 : Int32)) (4616189618054758400 : UInt64))), .second, .unset, .unset, .unset, .unset, .unset]) rfl ?_
    refine Owe.new X0 hx hZ hown1 (wd hw 2) (wd hw 3) (wd hw 4) e0 (hb hby at_35) (by decide) (by decide) fun T65 h65 b65 g65 X65 e65 E65 A65 D65 => ?_
    have sf_b65 := (Safe.new (Nat.le_of_eq g65.symm) : Safe Z own_EL s.vm h0 b65)
    have ge_b65 := Nat.le_trans Z0 (Nat.le_of_eq g65.symm)
    have hk66 := Nat.le_trans hk0 E65.1
    have sf_b65_66 := Safe.ext E65 H0 sf_b65
    have Rr66 := R0.trans (CHr.ext E65 H0)
    have H66 := CHv.ext E65 H0
    have Ol_67 := Ol.ext E65
    have Z_68 := Nat.le_trans Z0 E65.1
    have F_speed_b65 : Fld Z h65 b65 "com/example/pickwright/pickwright/PickingTimes" "_speed" "D" (.double (0 : UInt64)) := D65 (Or.inr (wd hw 33)) (ty := .double) (by decide)
    have F_pickTime_b65 : Fld Z h65 b65 "com/example/pickwright/pickwright/PickingTimes" "_pickTime" "D" (.double (0 : UInt64)) := D65 (Or.inr (wd hw 35)) (ty := .double) (by decide)
    have F_batchTime_b65 : Fld Z h65 b65 "com/example/pickwright/pickwright/PickingTimes" "_batchTime" "D" (.double (0 : UInt64)) := D65 (Or.inr (wd hw 37)) (ty := .double) (by decide)
    refine Owe.dup X65.here hx (hb hby at_38) rfl rfl ?_
    refine Owe.dload X65.here hx (hb hby at_39) rfl ?_
    refine Owe.iload X65.here hx (hb hby at_41) rfl ?_
    refine Owe.i2dS X65.here hx (hb hby at_43) rfl rfl ?_
    refine Owe.iload X65.here hx (hb hby at_44) rfl ?_
    refine Owe.i2dS X65.here hx (hb hby at_46) rfl rfl ?_
    refine Owe.specialS X65 hx hZ hS0 hk66 (y := Y2) rfl hown1 (mvT hZ (wd hw 5)) (mvT hZ (wd hw 6)) (mvT hZ (wd hw 7)) (by decide) (backOfSH (W := 1) (rmini l Z a0 hw [] b65 (FP.ddiv (FP.i2d (2 : Int32)) (4616189618054758400 : UInt64)) (FP.i2d (p5 &&& (1023 : Int32))) (FP.i2d (p6 &&& (1023 : Int32))) h65 n0 Z_68 A65 F_speed_b65 F_pickTime_b65 F_batchTime_b65 ge_b65 Ol_67 (by decide +kernel) (by decide +kernel) (by decide +kernel) (own_hab p5) (own_hinf p5) (own_hge p5) (own_hab p6) (own_hinf p6) (own_hge p6)) hZ (wd hw 7) (wd hw 4) (by decide) (by decide) (own_ew hw) H66) (by rw [hml]; rfl) (a := b65) (argsL := [(.double (FP.ddiv (FP.i2d (2 : Int32)) (4616189618054758400 : UInt64))), (.double (FP.i2d (p5 &&& (1023 : Int32)))), (.double (FP.i2d (p6 &&& (1023 : Int32))))]) (rest := [(.ref b65)]) (lenOf pd_2 rfl) rfl (nb rfl) (hb hby at_47) rfl e65 (by decide) (by decide) fun T69 v69 L69 X69 hS69 hZ69 hown69 hC69 hQ69 => ?_
    obtain ⟨rfl, Nq69, K69, E_a1_69, F_speed_a1_69, F_pickTime_a1_69, F_batchTime_a1_69⟩ := hQ69
    have N69 := Fr.app N0 Nq69
    have hk70 := Nat.le_trans hk66 K69.1
    have Ol_71 := Ol_67.keep K69 (allS ge_b65 all0)
    have A65_72 := A65.keep K69
    have Z_73 := Nat.le_trans Z_68 K69.1
    have sf_b65_69 := CHr.safe hC69 A65.lt sf_b65_66
    have Rr69 := Rr66.trans hC69
    have H69 := hC69.1
    have hk69 : T69.heap.size ≤ T69.heap.size := Nat.le_refl _
    refine Owe.astore X69.here hx (hb hby at_50) rfl rfl (l' := #[.val (.int p1), .val (.int p2), .val (.int p3), .val (.int p4), .val (.int p5), .val (.int p6), .val (.int (1 : Int32)), .val (.int (p5 &&& (1023 : Int32))), .val (.int (p6 &&& (1023 : Int32))), .val (.double (FP.ddiv (FP.i2d (2 : Int32)) (4616189618054758400 : UInt64))), .second, .val (.ref b65), .unset, .unset, .unset, .unset]) rfl ?_
    refine Owe.aload X69.here hx (hb hby at_52) rfl rfl ?_
    refine Owe.iloadN X69.here hx (hb hby at_54) rfl ?_
    refine Owe.i2dS X69.here hx (hb hby at_55) rfl rfl ?_
    refine Owe.iloadN X69.here hx (hb hby at_56) rfl ?_
    refine Owe.i2dS X69.here hx (hb hby at_57) rfl rfl ?_
    refine Owe.iloadN X69.here hx (hb hby at_58) rfl ?_
    refine Owe.i2dS X69.here hx (hb hby at_59) rfl rfl ?_
    have hres := own_res (e := 1) (by decide) own_s1 p1 p2 p3 (p5 &&& (1023 : Int32)) (p6 &&& (1023 : Int32)) (own_rg p5) (own_rg p6)
    refine Owe.virt X69 hx hZ69 (y := Y3) (z := Y3) hown69 (mvT hZ69 (wd hw 38)) (mvT hZ69 (wd hw 39)) (mvT hZ69 (wd hw 41)) (mvT hZ69 (wd hw 40)) (notFace_of_selects (args := #[]) (mvT hZ69 (wd hw 41))) (by decide) (backOf (W := 0) (rmtim l Z a0 hw [] b65 (FP.ddiv (FP.i2d (2 : Int32)) (4616189618054758400 : UInt64)) (FP.i2d (p5 &&& (1023 : Int32))) (FP.i2d (p6 &&& (1023 : Int32))) (FP.i2d p1) (FP.i2d p2) (FP.i2d p3) T69.heap n0 Z_73 E_a1_69 F_speed_a1_69 F_pickTime_a1_69 F_batchTime_a1_69 (Jvm.Free.Fl.noNaN64_no.mpr hres.1) (Jvm.Free.Fl.noNaN64_no.mpr hres.2.1) (Jvm.Free.Fl.noNaN64_no.mpr hres.2.2.1) (Jvm.Free.Fl.noNaN64_no.mpr hres.2.2.2.1) (Jvm.Free.Fl.noNaN64_no.mpr hres.2.2.2.2.1)) hZ69 (wd hw 42) (wd hw 4) (by decide) (by decide)) (by rw [hml]; rfl) (a := b65) (argsL := [(.double (FP.i2d p1)), (.double (FP.i2d p2)), (.double (FP.i2d p3))]) (rest := []) E_a1_69 (lenOf pd_3 rfl) rfl (nb rfl) (hb hby at_60) rfl rfl (by decide) (by decide) fun T74 v74 L74 X74 hQ74 => ?_
    obtain ⟨rfl, Nq74, e74⟩ := hQ74
    have N74 := Fr.app N69 Nq74
    refine Owe.dstore X74.here hx (hb hby at_63) rfl (l' := #[.val (.int p1), .val (.int p2), .val (.int p3), .val (.int p4), .val (.int p5), .val (.int p6), .val (.int (1 : Int32)), .val (.int (p5 &&& (1023 : Int32))), .val (.int (p6 &&& (1023 : Int32))), .val (.double (FP.ddiv (FP.i2d (2 : Int32)) (4616189618054758400 : UInt64))), .second, .val (.ref b65), .val (.double (FP.dadd (FP.dadd (FP.ddiv (FP.i2d p1) (FP.ddiv (FP.i2d (2 : Int32)) (4616189618054758400 : UInt64))) (FP.dmul (FP.i2d p2) (FP.i2d (p5 &&& (1023 : Int32))))) (FP.dmul (FP.i2d p3) (FP.i2d (p6 &&& (1023 : Int32)))))), .second, .unset, .unset]) rfl ?_
    refine Owe.iloadN X74.here hx (hb hby at_65) rfl ?_
    refine Owe.i2l X74.here hx (hb hby at_66) rfl ?_
    refine Owe.lconst X74.here hx (hb hby at_67) (w := (1 : Int64)) rfl ?_
    refine Owe.iconst X74.here hx (hb hby at_68) (w := (4 : Int32)) rfl ?_
    refine Owe.iload X74.here hx (hb hby at_69) rfl ?_
    refine Owe.isub X74.here hx (hb hby at_71) rfl ?_
    refine Owe.lshl X74.here hx (hb hby at_72) rfl ?_
    refine Owe.lmul X74.here hx (hb hby at_73) rfl ?_
    refine Owe.ldc2L X74 hx (v := (4 : Int64)) hown69 (mvT hZ69 (wd hw 43)) (hb hby at_74) ?_
    refine Owe.iloadN X74.here hx (hb hby at_77) rfl ?_
    refine Owe.i2l X74.here hx (hb hby at_78) rfl ?_
    refine Owe.lmul X74.here hx (hb hby at_79) rfl ?_
    refine Owe.iload X74.here hx (hb hby at_80) rfl ?_
    refine Owe.i2l X74.here hx (hb hby at_82) rfl ?_
    refine Owe.lmul X74.here hx (hb hby at_83) rfl ?_
    refine Owe.ladd X74.here hx (hb hby at_84) rfl ?_
    refine Owe.ldc2L X74 hx (v := (4 : Int64)) hown69 (mvT hZ69 (wd hw 43)) (hb hby at_85) ?_
    refine Owe.iloadN X74.here hx (hb hby at_88) rfl ?_
    refine Owe.i2l X74.here hx (hb hby at_89) rfl ?_
    refine Owe.lmul X74.here hx (hb hby at_90) rfl ?_
    refine Owe.iload X74.here hx (hb hby at_91) rfl ?_
    refine Owe.i2l X74.here hx (hb hby at_93) rfl ?_
    refine Owe.lmul X74.here hx (hb hby at_94) rfl ?_
    refine Owe.ladd X74.here hx (hb hby at_95) rfl ?_
    refine Owe.lstore X74.here hx (hb hby at_96) rfl (l' := #[.val (.int p1), .val (.int p2), .val (.int p3), .val (.int p4), .val (.int p5), .val (.int p6), .val (.int (1 : Int32)), .val (.int (p5 &&& (1023 : Int32))), .val (.int (p6 &&& (1023 : Int32))), .val (.double (FP.ddiv (FP.i2d (2 : Int32)) (4616189618054758400 : UInt64))), .second, .val (.ref b65), .val (.double (FP.dadd (FP.dadd (FP.ddiv (FP.i2d p1) (FP.ddiv (FP.i2d (2 : Int32)) (4616189618054758400 : UInt64))) (FP.dmul (FP.i2d p2) (FP.i2d (p5 &&& (1023 : Int32))))) (FP.dmul (FP.i2d p3) (FP.i2d (p6 &&& (1023 : Int32)))))), .second, .val (.long ((((p1.toInt64) * ((1 : Int64) <<< ((3 : Int32) &&& 0x3f).toInt64)) + (((4 : Int64) * (p2.toInt64)) * ((p5 &&& (1023 : Int32)).toInt64))) + (((4 : Int64) * (p3.toInt64)) * ((p6 &&& (1023 : Int32)).toInt64)))), .second]) rfl ?_
    refine Owe.dload X74.here hx (hb hby at_98) rfl ?_
    refine Owe.ldc2D X74 hx (v := (4616189618054758400 : UInt64)) hown69 (mvT hZ69 (wd hw 1)) (hb hby at_100) ?_
    refine Owe.dmulS X74.here hx (hb hby at_103) rfl (Jvm.Free.Fl.noNaN64_no.mpr hres.2.2.2.2.2.1) rfl ?_
    refine Owe.lload X74.here hx (hb hby at_104) rfl ?_
    refine Owe.l2dS X74.here hx (hb hby at_106) rfl rfl ?_
    refine Owe.dcmpS X74.here hx (hb hby at_107) rfl rfl ?_
    refine Owe.ifNo X74.here hx (hb hby at_108) rfl ((if0 _ _).trans (teq (own_c0 (hres.2.2.2.2.2.2 _ (own_ref (k := ((1 : Int64) <<< ((3 : Int32) &&& 0x3f).toInt64)) (K := ((2 ^ (4 - 1) : Nat) : Int)) (own_rg p5) (own_rg p6) (by decide +kernel) (own_bd 1 (by decide)))))).2) ?_
    refine Owe.iconst X74.here hx (hb hby at_111) (w := (1 : Int32)) rfl ?_
    refine Owe.goto X74.here hx (hb hby at_112) (pc' := 116) (by decide) (by decide) ?_
    refine Owe.retNW X74 hx hS69 e74 hk69 hlk (t := .boolean) hrt (by simp) (hb hby at_116) rfl fun fs hE => ?_
    rw [hG]
    refine ⟨_, _, rfl, ?_, ?_, coldMono hE (by decide) (by decide)⟩
    rotate_left
    · rw [hh]
      show CHr Z own_EL s.vm h0 T74.vm T74.heap
      rw [e74]
      exact Rr69.trans (CHv.at X74 hZ69 (own_ew hw) H69)
    show Q0 Z p1 p2 p3 p4 p5 p6 h0 n0 _ T74.heap _
    rw [e74]
    exact ⟨rfl, N74⟩
  · rw [hk]
    refine Owe.istore X0.here hx (hb hby at_6) rfl (l' := #[.val (.int p1), .val (.int p2), .val (.int p3), .val (.int p4), .val (.int p5), .val (.int p6), .val (.int (2 : Int32)), .unset, .unset, .unset, .unset, .unset, .unset, .unset, .unset, .unset]) rfl ?_
    refine Owe.iload X0.here hx (hb hby at_8) rfl ?_
    refine Owe.sipush X0.here hx (hb hby at_10) (w := (1023 : Int32)) rfl ?_
    refine Owe.iand X0.here hx (hb hby at_13) rfl ?_
    refine Owe.istore X0.here hx (hb hby at_14) rfl (l' := #[.val (.int p1), .val (.int p2), .val (.int p3), .val (.int p4), .val (.int p5), .val (.int p6), .val (.int (2 : Int32)), .val (.int (p5 &&& (1023 : Int32))), .unset, .unset, .unset, .unset, .unset, .unset, .unset, .unset]) rfl ?_
    refine Owe.iload X0.here hx (hb hby at_16) rfl ?_
    refine Owe.sipush X0.here hx (hb hby at_18) (w := (1023 : Int32)) rfl ?_
    refine Owe.iand X0.here hx (hb hby at_21) rfl ?_
    refine Owe.istore X0.here hx (hb hby at_22) rfl (l' := #[.val (.int p1), .val (.int p2), .val (.int p3), .val (.int p4), .val (.int p5), .val (.int p6), .val (.int (2 : Int32)), .val (.int (p5 &&& (1023 : Int32))), .val (.int (p6 &&& (1023 : Int32))), .unset, .unset, .unset, .unset, .unset, .unset, .unset]) rfl ?_
    refine Owe.iconst X0.here hx (hb hby at_24) (w := (1 : Int32)) rfl ?_
    refine Owe.iload X0.here hx (hb hby at_25) rfl ?_
    refine Owe.ishl X0.here hx (hb hby at_27) rfl ?_
    refine Owe.i2dS X0.here hx (hb hby at_28) rfl rfl ?_
    refine Owe.ldc2D X0 hx (v := (4616189618054758400 : UInt64)) hown1 (mvT hZ (wd hw 1)) (hb hby at_29) ?_
    refine Owe.ddivS X0.here hx (hb hby at_32) rfl (Jvm.Free.Fl.noNaN64_no.mpr (by decide +kernel)) rfl ?_
    refine Owe.dstore X0.here hx (hb hby at_33) rfl (l' := #[.val (.int p1), .val (.int p2), .val (.int p3), .val (.int p4), .val (.int p5), .val (.int p6), .val (.int (2 : Int32)), .val (.int (p5 &&& (1023 : Int32))), .val (.int (p6 &&& (1023 : Int32))), .val (.double (FP.ddiv (FP.i2d (4 : Int32)) (4616189618054758400 : UInt64))), .second, .unset, .unset, .unset, .unset, .unset]) rfl ?_
    refine Owe.new X0 hx hZ hown1 (wd hw 2) (wd hw 3) (wd hw 4) e0 (hb hby at_35) (by decide) (by decide) fun T75 h75 b75 g75 X75 e75 E75 A75 D75 => ?_
    have sf_b75 := (Safe.new (Nat.le_of_eq g75.symm) : Safe Z own_EL s.vm h0 b75)
    have ge_b75 := Nat.le_trans Z0 (Nat.le_of_eq g75.symm)
    have hk76 := Nat.le_trans hk0 E75.1
    have sf_b75_76 := Safe.ext E75 H0 sf_b75
    have Rr76 := R0.trans (CHr.ext E75 H0)
    have H76 := CHv.ext E75 H0
    have Ol_77 := Ol.ext E75
    have Z_78 := Nat.le_trans Z0 E75.1
    have F_speed_b75 : Fld Z h75 b75 "com/example/pickwright/pickwright/PickingTimes" "_speed" "D" (.double (0 : UInt64)) := D75 (Or.inr (wd hw 33)) (ty := .double) (by decide)
    have F_pickTime_b75 : Fld Z h75 b75 "com/example/pickwright/pickwright/PickingTimes" "_pickTime" "D" (.double (0 : UInt64)) := D75 (Or.inr (wd hw 35)) (ty := .double) (by decide)
    have F_batchTime_b75 : Fld Z h75 b75 "com/example/pickwright/pickwright/PickingTimes" "_batchTime" "D" (.double (0 : UInt64)) := D75 (Or.inr (wd hw 37)) (ty := .double) (by decide)
    refine Owe.dup X75.here hx (hb hby at_38) rfl rfl ?_
    refine Owe.dload X75.here hx (hb hby at_39) rfl ?_
    refine Owe.iload X75.here hx (hb hby at_41) rfl ?_
    refine Owe.i2dS X75.here hx (hb hby at_43) rfl rfl ?_
    refine Owe.iload X75.here hx (hb hby at_44) rfl ?_
    refine Owe.i2dS X75.here hx (hb hby at_46) rfl rfl ?_
    refine Owe.specialS X75 hx hZ hS0 hk76 (y := Y2) rfl hown1 (mvT hZ (wd hw 5)) (mvT hZ (wd hw 6)) (mvT hZ (wd hw 7)) (by decide) (backOfSH (W := 1) (rmini l Z a0 hw [] b75 (FP.ddiv (FP.i2d (4 : Int32)) (4616189618054758400 : UInt64)) (FP.i2d (p5 &&& (1023 : Int32))) (FP.i2d (p6 &&& (1023 : Int32))) h75 n0 Z_78 A75 F_speed_b75 F_pickTime_b75 F_batchTime_b75 ge_b75 Ol_77 (by decide +kernel) (by decide +kernel) (by decide +kernel) (own_hab p5) (own_hinf p5) (own_hge p5) (own_hab p6) (own_hinf p6) (own_hge p6)) hZ (wd hw 7) (wd hw 4) (by decide) (by decide) (own_ew hw) H76) (by rw [hml]; rfl) (a := b75) (argsL := [(.double (FP.ddiv (FP.i2d (4 : Int32)) (4616189618054758400 : UInt64))), (.double (FP.i2d (p5 &&& (1023 : Int32)))), (.double (FP.i2d (p6 &&& (1023 : Int32))))]) (rest := [(.ref b75)]) (lenOf pd_2 rfl) rfl (nb rfl) (hb hby at_47) rfl e75 (by decide) (by decide) fun T79 v79 L79 X79 hS79 hZ79 hown79 hC79 hQ79 => ?_
    obtain ⟨rfl, Nq79, K79, E_a1_79, F_speed_a1_79, F_pickTime_a1_79, F_batchTime_a1_79⟩ := hQ79
    have N79 := Fr.app N0 Nq79
    have hk80 := Nat.le_trans hk76 K79.1
    have Ol_81 := Ol_77.keep K79 (allS ge_b75 all0)
    have A75_82 := A75.keep K79
    have Z_83 := Nat.le_trans Z_78 K79.1
    have sf_b75_79 := CHr.safe hC79 A75.lt sf_b75_76
    have Rr79 := Rr76.trans hC79
    have H79 := hC79.1
    have hk79 : T79.heap.size ≤ T79.heap.size := Nat.le_refl _
    refine Owe.astore X79.here hx (hb hby at_50) rfl rfl (l' := #[.val (.int p1), .val (.int p2), .val (.int p3), .val (.int p4), .val (.int p5), .val (.int p6), .val (.int (2 : Int32)), .val (.int (p5 &&& (1023 : Int32))), .val (.int (p6 &&& (1023 : Int32))), .val (.double (FP.ddiv (FP.i2d (4 : Int32)) (4616189618054758400 : UInt64))), .second, .val (.ref b75), .unset, .unset, .unset, .unset]) rfl ?_
    refine Owe.aload X79.here hx (hb hby at_52) rfl rfl ?_
    refine Owe.iloadN X79.here hx (hb hby at_54) rfl ?_
    refine Owe.i2dS X79.here hx (hb hby at_55) rfl rfl ?_
    refine Owe.iloadN X79.here hx (hb hby at_56) rfl ?_
    refine Owe.i2dS X79.here hx (hb hby at_57) rfl rfl ?_
    refine Owe.iloadN X79.here hx (hb hby at_58) rfl ?_
    refine Owe.i2dS X79.here hx (hb hby at_59) rfl rfl ?_
    have hres := own_res (e := 2) (by decide) own_s2 p1 p2 p3 (p5 &&& (1023 : Int32)) (p6 &&& (1023 : Int32)) (own_rg p5) (own_rg p6)
    refine Owe.virt X79 hx hZ79 (y := Y3) (z := Y3) hown79 (mvT hZ79 (wd hw 38)) (mvT hZ79 (wd hw 39)) (mvT hZ79 (wd hw 41)) (mvT hZ79 (wd hw 40)) (notFace_of_selects (args := #[]) (mvT hZ79 (wd hw 41))) (by decide) (backOf (W := 0) (rmtim l Z a0 hw [] b75 (FP.ddiv (FP.i2d (4 : Int32)) (4616189618054758400 : UInt64)) (FP.i2d (p5 &&& (1023 : Int32))) (FP.i2d (p6 &&& (1023 : Int32))) (FP.i2d p1) (FP.i2d p2) (FP.i2d p3) T79.heap n0 Z_83 E_a1_79 F_speed_a1_79 F_pickTime_a1_79 F_batchTime_a1_79 (Jvm.Free.Fl.noNaN64_no.mpr hres.1) (Jvm.Free.Fl.noNaN64_no.mpr hres.2.1) (Jvm.Free.Fl.noNaN64_no.mpr hres.2.2.1) (Jvm.Free.Fl.noNaN64_no.mpr hres.2.2.2.1) (Jvm.Free.Fl.noNaN64_no.mpr hres.2.2.2.2.1)) hZ79 (wd hw 42) (wd hw 4) (by decide) (by decide)) (by rw [hml]; rfl) (a := b75) (argsL := [(.double (FP.i2d p1)), (.double (FP.i2d p2)), (.double (FP.i2d p3))]) (rest := []) E_a1_79 (lenOf pd_3 rfl) rfl (nb rfl) (hb hby at_60) rfl rfl (by decide) (by decide) fun T84 v84 L84 X84 hQ84 => ?_
    obtain ⟨rfl, Nq84, e84⟩ := hQ84
    have N84 := Fr.app N79 Nq84
    refine Owe.dstore X84.here hx (hb hby at_63) rfl (l' := #[.val (.int p1), .val (.int p2), .val (.int p3), .val (.int p4), .val (.int p5), .val (.int p6), .val (.int (2 : Int32)), .val (.int (p5 &&& (1023 : Int32))), .val (.int (p6 &&& (1023 : Int32))), .val (.double (FP.ddiv (FP.i2d (4 : Int32)) (4616189618054758400 : UInt64))), .second, .val (.ref b75), .val (.double (FP.dadd (FP.dadd (FP.ddiv (FP.i2d p1) (FP.ddiv (FP.i2d (4 : Int32)) (4616189618054758400 : UInt64))) (FP.dmul (FP.i2d p2) (FP.i2d (p5 &&& (1023 : Int32))))) (FP.dmul (FP.i2d p3) (FP.i2d (p6 &&& (1023 : Int32)))))), .second, .unset, .unset]) rfl ?_
    refine Owe.iloadN X84.here hx (hb hby at_65) rfl ?_
    refine Owe.i2l X84.here hx (hb hby at_66) rfl ?_
    refine Owe.lconst X84.here hx (hb hby at_67) (w := (1 : Int64)) rfl ?_
    refine Owe.iconst X84.here hx (hb hby at_68) (w := (4 : Int32)) rfl ?_
    refine Owe.iload X84.here hx (hb hby at_69) rfl ?_
    refine Owe.isub X84.here hx (hb hby at_71) rfl ?_
    refine Owe.lshl X84.here hx (hb hby at_72) rfl ?_
    refine Owe.lmul X84.here hx (hb hby at_73) rfl ?_
    refine Owe.ldc2L X84 hx (v := (4 : Int64)) hown79 (mvT hZ79 (wd hw 43)) (hb hby at_74) ?_
    refine Owe.iloadN X84.here hx (hb hby at_77) rfl ?_
    refine Owe.i2l X84.here hx (hb hby at_78) rfl ?_
    refine Owe.lmul X84.here hx (hb hby at_79) rfl ?_
    refine Owe.iload X84.here hx (hb hby at_80) rfl ?_
    refine Owe.i2l X84.here hx (hb hby at_82) rfl ?_
    refine Owe.lmul X84.here hx (hb hby at_83) rfl ?_
    refine Owe.ladd X84.here hx (hb hby at_84) rfl ?_
    refine Owe.ldc2L X84 hx (v := (4 : Int64)) hown79 (mvT hZ79 (wd hw 43)) (hb hby at_85) ?_
    refine Owe.iloadN X84.here hx (hb hby at_88) rfl ?_
    refine Owe.i2l X84.here hx (hb hby at_89) rfl ?_
    refine Owe.lmul X84.here hx (hb hby at_90) rfl ?_
    refine Owe.iload X84.here hx (hb hby at_91) rfl ?_
    refine Owe.i2l X84.here hx (hb hby at_93) rfl ?_
    refine Owe.lmul X84.here hx (hb hby at_94) rfl ?_
    refine Owe.ladd X84.here hx (hb hby at_95) rfl ?_
    refine Owe.lstore X84.here hx (hb hby at_96) rfl (l' := #[.val (.int p1), .val (.int p2), .val (.int p3), .val (.int p4), .val (.int p5), .val (.int p6), .val (.int (2 : Int32)), .val (.int (p5 &&& (1023 : Int32))), .val (.int (p6 &&& (1023 : Int32))), .val (.double (FP.ddiv (FP.i2d (4 : Int32)) (4616189618054758400 : UInt64))), .second, .val (.ref b75), .val (.double (FP.dadd (FP.dadd (FP.ddiv (FP.i2d p1) (FP.ddiv (FP.i2d (4 : Int32)) (4616189618054758400 : UInt64))) (FP.dmul (FP.i2d p2) (FP.i2d (p5 &&& (1023 : Int32))))) (FP.dmul (FP.i2d p3) (FP.i2d (p6 &&& (1023 : Int32)))))), .second, .val (.long ((((p1.toInt64) * ((1 : Int64) <<< ((2 : Int32) &&& 0x3f).toInt64)) + (((4 : Int64) * (p2.toInt64)) * ((p5 &&& (1023 : Int32)).toInt64))) + (((4 : Int64) * (p3.toInt64)) * ((p6 &&& (1023 : Int32)).toInt64)))), .second]) rfl ?_
    refine Owe.dload X84.here hx (hb hby at_98) rfl ?_
    refine Owe.ldc2D X84 hx (v := (4616189618054758400 : UInt64)) hown79 (mvT hZ79 (wd hw 1)) (hb hby at_100) ?_
    refine Owe.dmulS X84.here hx (hb hby at_103) rfl (Jvm.Free.Fl.noNaN64_no.mpr hres.2.2.2.2.2.1) rfl ?_
    refine Owe.lload X84.here hx (hb hby at_104) rfl ?_
    refine Owe.l2dS X84.here hx (hb hby at_106) rfl rfl ?_
    refine Owe.dcmpS X84.here hx (hb hby at_107) rfl rfl ?_
    refine Owe.ifNo X84.here hx (hb hby at_108) rfl ((if0 _ _).trans (teq (own_c0 (hres.2.2.2.2.2.2 _ (own_ref (k := ((1 : Int64) <<< ((2 : Int32) &&& 0x3f).toInt64)) (K := ((2 ^ (4 - 2) : Nat) : Int)) (own_rg p5) (own_rg p6) (by decide +kernel) (own_bd 2 (by decide)))))).2) ?_
    refine Owe.iconst X84.here hx (hb hby at_111) (w := (1 : Int32)) rfl ?_
    refine Owe.goto X84.here hx (hb hby at_112) (pc' := 116) (by decide) (by decide) ?_
    refine Owe.retNW X84 hx hS79 e84 hk79 hlk (t := .boolean) hrt (by simp) (hb hby at_116) rfl fun fs hE => ?_
    rw [hG]
    refine ⟨_, _, rfl, ?_, ?_, coldMono hE (by decide) (by decide)⟩
    rotate_left
    · rw [hh]
      show CHr Z own_EL s.vm h0 T84.vm T84.heap
      rw [e84]
      exact Rr79.trans (CHv.at X84 hZ79 (own_ew hw) H79)
    show Q0 Z p1 p2 p3 p4 p5 p6 h0 n0 _ T84.heap _
    rw [e84]
    exact ⟨rfl, N84⟩
  · rw [hk]
    refine Owe.istore X0.here hx (hb hby at_6) rfl (l' := #[.val (.int p1), .val (.int p2), .val (.int p3), .val (.int p4), .val (.int p5), .val (.int p6), .val (.int (3 : Int32)), .unset, .unset, .unset, .unset, .unset, .unset, .unset, .unset, .unset]) rfl ?_
    refine Owe.iload X0.here hx (hb hby at_8) rfl ?_
    refine Owe.sipush X0.here hx (hb hby at_10) (w := (1023 : Int32)) rfl ?_
    refine Owe.iand X0.here hx (hb hby at_13) rfl ?_
    refine Owe.istore X0.here hx (hb hby at_14) rfl (l' := #[.val (.int p1), .val (.int p2), .val (.int p3), .val (.int p4), .val (.int p5), .val (.int p6), .val (.int (3 : Int32)), .val (.int (p5 &&& (1023 : Int32))), .unset, .unset, .unset, .unset, .unset, .unset, .unset, .unset]) rfl ?_
    refine Owe.iload X0.here hx (hb hby at_16) rfl ?_
    refine Owe.sipush X0.here hx (hb hby at_18) (w := (1023 : Int32)) rfl ?_
    refine Owe.iand X0.here hx (hb hby at_21) rfl ?_
    refine Owe.istore X0.here hx (hb hby at_22) rfl (l' := #[.val (.int p1), .val (.int p2), .val (.int p3), .val (.int p4), .val (.int p5), .val (.int p6), .val (.int (3 : Int32)), .val (.int (p5 &&& (1023 : Int32))), .val (.int (p6 &&& (1023 : Int32))), .unset, .unset, .unset, .unset, .unset, .unset, .unset]) rfl ?_
    refine Owe.iconst X0.here hx (hb hby at_24) (w := (1 : Int32)) rfl ?_
    refine Owe.iload X0.here hx (hb hby at_25) rfl ?_
    refine Owe.ishl X0.here hx (hb hby at_27) rfl ?_
    refine Owe.i2dS X0.here hx (hb hby at_28) rfl rfl ?_
    refine Owe.ldc2D X0 hx (v := (4616189618054758400 : UInt64)) hown1 (mvT hZ (wd hw 1)) (hb hby at_29) ?_
    refine Owe.ddivS X0.here hx (hb hby at_32) rfl (Jvm.Free.Fl.noNaN64_no.mpr (by decide +kernel)) rfl ?_
    refine Owe.dstore X0.here hx (hb hby at_33) rfl (l' := #[.val (.int p1), .val (.int p2), .val (.int p3), .val (.int p4), .val (.int p5), .val (.int p6), .val (.int (3 : Int32)), .val (.int (p5 &&& (1023 : Int32))), .val (.int (p6 &&& (1023 : Int32))), .val (.double (FP.ddiv (FP.i2d (8 : Int32)) (4616189618054758400 : UInt64))), .second, .unset, .unset, .unset, .unset, .unset]) rfl ?_
    refine Owe.new X0 hx hZ hown1 (wd hw 2) (wd hw 3) (wd hw 4) e0 (hb hby at_35) (by decide) (by decide) fun T85 h85 b85 g85 X85 e85 E85 A85 D85 => ?_
    have sf_b85 := (Safe.new (Nat.le_of_eq g85.symm) : Safe Z own_EL s.vm h0 b85)
    have ge_b85 := Nat.le_trans Z0 (Nat.le_of_eq g85.symm)
    have hk86 := Nat.le_trans hk0 E85.1
    have sf_b85_86 := Safe.ext E85 H0 sf_b85
    have Rr86 := R0.trans (CHr.ext E85 H0)
    have H86 := CHv.ext E85 H0
    have Ol_87 := Ol.ext E85
    have Z_88 := Nat.le_trans Z0 E85.1
    have F_speed_b85 : Fld Z h85 b85 "com/example/pickwright/pickwright/PickingTimes" "_speed" "D" (.double (0 : UInt64)) := D85 (Or.inr (wd hw 33)) (ty := .double) (by decide)
    have F_pickTime_b85 : Fld Z h85 b85 "com/example/pickwright/pickwright/PickingTimes" "_pickTime" "D" (.double (0 : UInt64)) := D85 (Or.inr (wd hw 35)) (ty := .double) (by decide)
    have F_batchTime_b85 : Fld Z h85 b85 "com/example/pickwright/pickwright/PickingTimes" "_batchTime" "D" (.double (0 : UInt64)) := D85 (Or.inr (wd hw 37)) (ty := .double) (by decide)
    refine Owe.dup X85.here hx (hb hby at_38) rfl rfl ?_
    refine Owe.dload X85.here hx (hb hby at_39) rfl ?_
    refine Owe.iload X85.here hx (hb hby at_41) rfl ?_
    refine Owe.i2dS X85.here hx (hb hby at_43) rfl rfl ?_
    refine Owe.iload X85.here hx (hb hby at_44) rfl ?_
    refine Owe.i2dS X85.here hx (hb hby at_46) rfl rfl ?_
    refine Owe.specialS X85 hx hZ hS0 hk86 (y := Y2) rfl hown1 (mvT hZ (wd hw 5)) (mvT hZ (wd hw 6)) (mvT hZ (wd hw 7)) (by decide) (backOfSH (W := 1) (rmini l Z a0 hw [] b85 (FP.ddiv (FP.i2d (8 : Int32)) (4616189618054758400 : UInt64)) (FP.i2d (p5 &&& (1023 : Int32))) (FP.i2d (p6 &&& (1023 : Int32))) h85 n0 Z_88 A85 F_speed_b85 F_pickTime_b85 F_batchTime_b85 ge_b85 Ol_87 (by decide +kernel) (by decide +kernel) (by decide +kernel) (own_hab p5) (own_hinf p5) (own_hge p5) (own_hab p6) (own_hinf p6) (own_hge p6)) hZ (wd hw 7) (wd hw 4) (by decide) (by decide) (own_ew hw) H86) (by rw [hml]; rfl) (a := b85) (argsL := [(.double (FP.ddiv (FP.i2d (8 : Int32)) (4616189618054758400 : UInt64))), (.double (FP.i2d (p5 &&& (1023 : Int32)))), (.double (FP.i2d (p6 &&& (1023 : Int32))))]) (rest := [(.ref b85)]) (lenOf pd_2 rfl) rfl (nb rfl) (hb hby at_47) rfl e85 (by decide) (by decide) fun T89 v89 L89 X89 hS89 hZ89 hown89 hC89 hQ89 => ?_
    obtain ⟨rfl, Nq89, K89, E_a1_89, F_speed_a1_89, F_pickTime_a1_89, F_batchTime_a1_89⟩ := hQ89
    have N89 := Fr.app N0 Nq89
    have hk90 := Nat.le_trans hk86 K89.1
    have Ol_91 := Ol_87.keep K89 (allS ge_b85 all0)
    have A85_92 := A85.keep K89
    have Z_93 := Nat.le_trans Z_88 K89.1
    have sf_b85_89 := CHr.safe hC89 A85.lt sf_b85_86
    have Rr89 := Rr86.trans hC89
    have H89 := hC89.1
    have hk89 : T89.heap.size ≤ T89.heap.size := Nat.le_refl _
    refine Owe.astore X89.here hx (hb hby at_50) rfl rfl (l' := #[.val (.int p1), .val (.int p2), .val (.int p3), .val (.int p4), .val (.int p5), .val (.int p6), .val (.int (3 : Int32)), .val (.int (p5 &&& (1023 : Int32))), .val (.int (p6 &&& (1023 : Int32))), .val (.double (FP.ddiv (FP.i2d (8 : Int32)) (4616189618054758400 : UInt64))), .second, .val (.ref b85), .unset, .unset, .unset, .unset]) rfl ?_
    refine Owe.aload X89.here hx (hb hby at_52) rfl rfl ?_
    refine Owe.iloadN X89.here hx (hb hby at_54) rfl ?_
    refine Owe.i2dS X89.here hx (hb hby at_55) rfl rfl ?_
    refine Owe.iloadN X89.here hx (hb hby at_56) rfl ?_
    refine Owe.i2dS X89.here hx (hb hby at_57) rfl rfl ?_
    refine Owe.iloadN X89.here hx (hb hby at_58) rfl ?_
    refine Owe.i2dS X89.here hx (hb hby at_59) rfl rfl ?_
    have hres := own_res (e := 3) (by decide) own_s3 p1 p2 p3 (p5 &&& (1023 : Int32)) (p6 &&& (1023 : Int32)) (own_rg p5) (own_rg p6)
    refine Owe.virt X89 hx hZ89 (y := Y3) (z := Y3) hown89 (mvT hZ89 (wd hw 38)) (mvT hZ89 (wd hw 39)) (mvT hZ89 (wd hw 41)) (mvT hZ89 (wd hw 40)) (notFace_of_selects (args := #[]) (mvT hZ89 (wd hw 41))) (by decide) (backOf (W := 0) (rmtim l Z a0 hw [] b85 (FP.ddiv (FP.i2d (8 : Int32)) (4616189618054758400 : UInt64)) (FP.i2d (p5 &&& (1023 : Int32))) (FP.i2d (p6 &&& (1023 : Int32))) (FP.i2d p1) (FP.i2d p2) (FP.i2d p3) T89.heap n0 Z_93 E_a1_89 F_speed_a1_89 F_pickTime_a1_89 F_batchTime_a1_89 (Jvm.Free.Fl.noNaN64_no.mpr hres.1) (Jvm.Free.Fl.noNaN64_no.mpr hres.2.1) (Jvm.Free.Fl.noNaN64_no.mpr hres.2.2.1) (Jvm.Free.Fl.noNaN64_no.mpr hres.2.2.2.1) (Jvm.Free.Fl.noNaN64_no.mpr hres.2.2.2.2.1)) hZ89 (wd hw 42) (wd hw 4) (by decide) (by decide)) (by rw [hml]; rfl) (a := b85) (argsL := [(.double (FP.i2d p1)), (.double (FP.i2d p2)), (.double (FP.i2d p3))]) (rest := []) E_a1_89 (lenOf pd_3 rfl) rfl (nb rfl) (hb hby at_60) rfl rfl (by decide) (by decide) fun T94 v94 L94 X94 hQ94 => ?_
    obtain ⟨rfl, Nq94, e94⟩ := hQ94
    have N94 := Fr.app N89 Nq94
    refine Owe.dstore X94.here hx (hb hby at_63) rfl (l' := #[.val (.int p1), .val (.int p2), .val (.int p3), .val (.int p4), .val (.int p5), .val (.int p6), .val (.int (3 : Int32)), .val (.int (p5 &&& (1023 : Int32))), .val (.int (p6 &&& (1023 : Int32))), .val (.double (FP.ddiv (FP.i2d (8 : Int32)) (4616189618054758400 : UInt64))), .second, .val (.ref b85), .val (.double (FP.dadd (FP.dadd (FP.ddiv (FP.i2d p1) (FP.ddiv (FP.i2d (8 : Int32)) (4616189618054758400 : UInt64))) (FP.dmul (FP.i2d p2) (FP.i2d (p5 &&& (1023 : Int32))))) (FP.dmul (FP.i2d p3) (FP.i2d (p6 &&& (1023 : Int32)))))), .second, .unset, .unset]) rfl ?_
    refine Owe.iloadN X94.here hx (hb hby at_65) rfl ?_
    refine Owe.i2l X94.here hx (hb hby at_66) rfl ?_
    refine Owe.lconst X94.here hx (hb hby at_67) (w := (1 : Int64)) rfl ?_
    refine Owe.iconst X94.here hx (hb hby at_68) (w := (4 : Int32)) rfl ?_
    refine Owe.iload X94.here hx (hb hby at_69) rfl ?_
    refine Owe.isub X94.here hx (hb hby at_71) rfl ?_
    refine Owe.lshl X94.here hx (hb hby at_72) rfl ?_
    refine Owe.lmul X94.here hx (hb hby at_73) rfl ?_
    refine Owe.ldc2L X94 hx (v := (4 : Int64)) hown89 (mvT hZ89 (wd hw 43)) (hb hby at_74) ?_
    refine Owe.iloadN X94.here hx (hb hby at_77) rfl ?_
    refine Owe.i2l X94.here hx (hb hby at_78) rfl ?_
    refine Owe.lmul X94.here hx (hb hby at_79) rfl ?_
    refine Owe.iload X94.here hx (hb hby at_80) rfl ?_
    refine Owe.i2l X94.here hx (hb hby at_82) rfl ?_
    refine Owe.lmul X94.here hx (hb hby at_83) rfl ?_
    refine Owe.ladd X94.here hx (hb hby at_84) rfl ?_
    refine Owe.ldc2L X94 hx (v := (4 : Int64)) hown89 (mvT hZ89 (wd hw 43)) (hb hby at_85) ?_
    refine Owe.iloadN X94.here hx (hb hby at_88) rfl ?_
    refine Owe.i2l X94.here hx (hb hby at_89) rfl ?_
    refine Owe.lmul X94.here hx (hb hby at_90) rfl ?_
    refine Owe.iload X94.here hx (hb hby at_91) rfl ?_
    refine Owe.i2l X94.here hx (hb hby at_93) rfl ?_
    refine Owe.lmul X94.here hx (hb hby at_94) rfl ?_
    refine Owe.ladd X94.here hx (hb hby at_95) rfl ?_
    refine Owe.lstore X94.here hx (hb hby at_96) rfl (l' := #[.val (.int p1), .val (.int p2), .val (.int p3), .val (.int p4), .val (.int p5), .val (.int p6), .val (.int (3 : Int32)), .val (.int (p5 &&& (1023 : Int32))), .val (.int (p6 &&& (1023 : Int32))), .val (.double (FP.ddiv (FP.i2d (8 : Int32)) (4616189618054758400 : UInt64))), .second, .val (.ref b85), .val (.double (FP.dadd (FP.dadd (FP.ddiv (FP.i2d p1) (FP.ddiv (FP.i2d (8 : Int32)) (4616189618054758400 : UInt64))) (FP.dmul (FP.i2d p2) (FP.i2d (p5 &&& (1023 : Int32))))) (FP.dmul (FP.i2d p3) (FP.i2d (p6 &&& (1023 : Int32)))))), .second, .val (.long ((((p1.toInt64) * ((1 : Int64) <<< ((1 : Int32) &&& 0x3f).toInt64)) + (((4 : Int64) * (p2.toInt64)) * ((p5 &&& (1023 : Int32)).toInt64))) + (((4 : Int64) * (p3.toInt64)) * ((p6 &&& (1023 : Int32)).toInt64)))), .second]) rfl ?_
    refine Owe.dload X94.here hx (hb hby at_98) rfl ?_
    refine Owe.ldc2D X94 hx (v := (4616189618054758400 : UInt64)) hown89 (mvT hZ89 (wd hw 1)) (hb hby at_100) ?_
    refine Owe.dmulS X94.here hx (hb hby at_103) rfl (Jvm.Free.Fl.noNaN64_no.mpr hres.2.2.2.2.2.1) rfl ?_
    refine Owe.lload X94.here hx (hb hby at_104) rfl ?_
    refine Owe.l2dS X94.here hx (hb hby at_106) rfl rfl ?_
    refine Owe.dcmpS X94.here hx (hb hby at_107) rfl rfl ?_
    refine Owe.ifNo X94.here hx (hb hby at_108) rfl ((if0 _ _).trans (teq (own_c0 (hres.2.2.2.2.2.2 _ (own_ref (k := ((1 : Int64) <<< ((1 : Int32) &&& 0x3f).toInt64)) (K := ((2 ^ (4 - 3) : Nat) : Int)) (own_rg p5) (own_rg p6) (by decide +kernel) (own_bd 3 (by decide)))))).2) ?_
    refine Owe.iconst X94.here hx (hb hby at_111) (w := (1 : Int32)) rfl ?_
    refine Owe.goto X94.here hx (hb hby at_112) (pc' := 116) (by decide) (by decide) ?_
    refine Owe.retNW X94 hx hS89 e94 hk89 hlk (t := .boolean) hrt (by simp) (hb hby at_116) rfl fun fs hE => ?_
    rw [hG]
    refine ⟨_, _, rfl, ?_, ?_, coldMono hE (by decide) (by decide)⟩
    rotate_left
    · rw [hh]
      show CHr Z own_EL s.vm h0 T94.vm T94.heap
      rw [e94]
      exact Rr89.trans (CHv.at X94 hZ89 (own_ew hw) H89)
    show Q0 Z p1 p2 p3 p4 p5 p6 h0 n0 _ T94.heap _
    rw [e94]
    exact ⟨rfl, N94⟩
  · rw [hk]
    refine Owe.istore X0.here hx (hb hby at_6) rfl (l' := #[.val (.int p1), .val (.int p2), .val (.int p3), .val (.int p4), .val (.int p5), .val (.int p6), .val (.int (4 : Int32)), .unset, .unset, .unset, .unset, .unset, .unset, .unset, .unset, .unset]) rfl ?_
    refine Owe.iload X0.here hx (hb hby at_8) rfl ?_
    refine Owe.sipush X0.here hx (hb hby at_10) (w := (1023 : Int32)) rfl ?_
    refine Owe.iand X0.here hx (hb hby at_13) rfl ?_
    refine Owe.istore X0.here hx (hb hby at_14) rfl (l' := #[.val (.int p1), .val (.int p2), .val (.int p3), .val (.int p4), .val (.int p5), .val (.int p6), .val (.int (4 : Int32)), .val (.int (p5 &&& (1023 : Int32))), .unset, .unset, .unset, .unset, .unset, .unset, .unset, .unset]) rfl ?_
    refine Owe.iload X0.here hx (hb hby at_16) rfl ?_
    refine Owe.sipush X0.here hx (hb hby at_18) (w := (1023 : Int32)) rfl ?_
    refine Owe.iand X0.here hx (hb hby at_21) rfl ?_
    refine Owe.istore X0.here hx (hb hby at_22) rfl (l' := #[.val (.int p1), .val (.int p2), .val (.int p3), .val (.int p4), .val (.int p5), .val (.int p6), .val (.int (4 : Int32)), .val (.int (p5 &&& (1023 : Int32))), .val (.int (p6 &&& (1023 : Int32))), .unset, .unset, .unset, .unset, .unset, .unset, .unset]) rfl ?_
    refine Owe.iconst X0.here hx (hb hby at_24) (w := (1 : Int32)) rfl ?_
    refine Owe.iload X0.here hx (hb hby at_25) rfl ?_
    refine Owe.ishl X0.here hx (hb hby at_27) rfl ?_
    refine Owe.i2dS X0.here hx (hb hby at_28) rfl rfl ?_
    refine Owe.ldc2D X0 hx (v := (4616189618054758400 : UInt64)) hown1 (mvT hZ (wd hw 1)) (hb hby at_29) ?_
    refine Owe.ddivS X0.here hx (hb hby at_32) rfl (Jvm.Free.Fl.noNaN64_no.mpr (by decide +kernel)) rfl ?_
    refine Owe.dstore X0.here hx (hb hby at_33) rfl (l' := #[.val (.int p1), .val (.int p2), .val (.int p3), .val (.int p4), .val (.int p5), .val (.int p6), .val (.int (4 : Int32)), .val (.int (p5 &&& (1023 : Int32))), .val (.int (p6 &&& (1023 : Int32))), .val (.double (FP.ddiv (FP.i2d (16 : Int32)) (4616189618054758400 : UInt64))), .second, .unset, .unset, .unset, .unset, .unset]) rfl ?_
    refine Owe.new X0 hx hZ hown1 (wd hw 2) (wd hw 3) (wd hw 4) e0 (hb hby at_35) (by decide) (by decide) fun T95 h95 b95 g95 X95 e95 E95 A95 D95 => ?_
    have sf_b95 := (Safe.new (Nat.le_of_eq g95.symm) : Safe Z own_EL s.vm h0 b95)
    have ge_b95 := Nat.le_trans Z0 (Nat.le_of_eq g95.symm)
    have hk96 := Nat.le_trans hk0 E95.1
    have sf_b95_96 := Safe.ext E95 H0 sf_b95
    have Rr96 := R0.trans (CHr.ext E95 H0)
    have H96 := CHv.ext E95 H0
    have Ol_97 := Ol.ext E95
    have Z_98 := Nat.le_trans Z0 E95.1
    have F_speed_b95 : Fld Z h95 b95 "com/example/pickwright/pickwright/PickingTimes" "_speed" "D" (.double (0 : UInt64)) := D95 (Or.inr (wd hw 33)) (ty := .double) (by decide)
    have F_pickTime_b95 : Fld Z h95 b95 "com/example/pickwright/pickwright/PickingTimes" "_pickTime" "D" (.double (0 : UInt64)) := D95 (Or.inr (wd hw 35)) (ty := .double) (by decide)
    have F_batchTime_b95 : Fld Z h95 b95 "com/example/pickwright/pickwright/PickingTimes" "_batchTime" "D" (.double (0 : UInt64)) := D95 (Or.inr (wd hw 37)) (ty := .double) (by decide)
    refine Owe.dup X95.here hx (hb hby at_38) rfl rfl ?_
    refine Owe.dload X95.here hx (hb hby at_39) rfl ?_
    refine Owe.iload X95.here hx (hb hby at_41) rfl ?_
    refine Owe.i2dS X95.here hx (hb hby at_43) rfl rfl ?_
    refine Owe.iload X95.here hx (hb hby at_44) rfl ?_
    refine Owe.i2dS X95.here hx (hb hby at_46) rfl rfl ?_
    refine Owe.specialS X95 hx hZ hS0 hk96 (y := Y2) rfl hown1 (mvT hZ (wd hw 5)) (mvT hZ (wd hw 6)) (mvT hZ (wd hw 7)) (by decide) (backOfSH (W := 1) (rmini l Z a0 hw [] b95 (FP.ddiv (FP.i2d (16 : Int32)) (4616189618054758400 : UInt64)) (FP.i2d (p5 &&& (1023 : Int32))) (FP.i2d (p6 &&& (1023 : Int32))) h95 n0 Z_98 A95 F_speed_b95 F_pickTime_b95 F_batchTime_b95 ge_b95 Ol_97 (by decide +kernel) (by decide +kernel) (by decide +kernel) (own_hab p5) (own_hinf p5) (own_hge p5) (own_hab p6) (own_hinf p6) (own_hge p6)) hZ (wd hw 7) (wd hw 4) (by decide) (by decide) (own_ew hw) H96) (by rw [hml]; rfl) (a := b95) (argsL := [(.double (FP.ddiv (FP.i2d (16 : Int32)) (4616189618054758400 : UInt64))), (.double (FP.i2d (p5 &&& (1023 : Int32)))), (.double (FP.i2d (p6 &&& (1023 : Int32))))]) (rest := [(.ref b95)]) (lenOf pd_2 rfl) rfl (nb rfl) (hb hby at_47) rfl e95 (by decide) (by decide) fun T99 v99 L99 X99 hS99 hZ99 hown99 hC99 hQ99 => ?_
    obtain ⟨rfl, Nq99, K99, E_a1_99, F_speed_a1_99, F_pickTime_a1_99, F_batchTime_a1_99⟩ := hQ99
    have N99 := Fr.app N0 Nq99
    have hk100 := Nat.le_trans hk96 K99.1
    have Ol_101 := Ol_97.keep K99 (allS ge_b95 all0)
    have A95_102 := A95.keep K99
    have Z_103 := Nat.le_trans Z_98 K99.1
    have sf_b95_99 := CHr.safe hC99 A95.lt sf_b95_96
    have Rr99 := Rr96.trans hC99
    have H99 := hC99.1
    have hk99 : T99.heap.size ≤ T99.heap.size := Nat.le_refl _
    refine Owe.astore X99.here hx (hb hby at_50) rfl rfl (l' := #[.val (.int p1), .val (.int p2), .val (.int p3), .val (.int p4), .val (.int p5), .val (.int p6), .val (.int (4 : Int32)), .val (.int (p5 &&& (1023 : Int32))), .val (.int (p6 &&& (1023 : Int32))), .val (.double (FP.ddiv (FP.i2d (16 : Int32)) (4616189618054758400 : UInt64))), .second, .val (.ref b95), .unset, .unset, .unset, .unset]) rfl ?_
    refine Owe.aload X99.here hx (hb hby at_52) rfl rfl ?_
    refine Owe.iloadN X99.here hx (hb hby at_54) rfl ?_
    refine Owe.i2dS X99.here hx (hb hby at_55) rfl rfl ?_
    refine Owe.iloadN X99.here hx (hb hby at_56) rfl ?_
    refine Owe.i2dS X99.here hx (hb hby at_57) rfl rfl ?_
    refine Owe.iloadN X99.here hx (hb hby at_58) rfl ?_
    refine Owe.i2dS X99.here hx (hb hby at_59) rfl rfl ?_
    have hres := own_res (e := 4) (by decide) own_s4 p1 p2 p3 (p5 &&& (1023 : Int32)) (p6 &&& (1023 : Int32)) (own_rg p5) (own_rg p6)
    refine Owe.virt X99 hx hZ99 (y := Y3) (z := Y3) hown99 (mvT hZ99 (wd hw 38)) (mvT hZ99 (wd hw 39)) (mvT hZ99 (wd hw 41)) (mvT hZ99 (wd hw 40)) (notFace_of_selects (args := #[]) (mvT hZ99 (wd hw 41))) (by decide) (backOf (W := 0) (rmtim l Z a0 hw [] b95 (FP.ddiv (FP.i2d (16 : Int32)) (4616189618054758400 : UInt64)) (FP.i2d (p5 &&& (1023 : Int32))) (FP.i2d (p6 &&& (1023 : Int32))) (FP.i2d p1) (FP.i2d p2) (FP.i2d p3) T99.heap n0 Z_103 E_a1_99 F_speed_a1_99 F_pickTime_a1_99 F_batchTime_a1_99 (Jvm.Free.Fl.noNaN64_no.mpr hres.1) (Jvm.Free.Fl.noNaN64_no.mpr hres.2.1) (Jvm.Free.Fl.noNaN64_no.mpr hres.2.2.1) (Jvm.Free.Fl.noNaN64_no.mpr hres.2.2.2.1) (Jvm.Free.Fl.noNaN64_no.mpr hres.2.2.2.2.1)) hZ99 (wd hw 42) (wd hw 4) (by decide) (by decide)) (by rw [hml]; rfl) (a := b95) (argsL := [(.double (FP.i2d p1)), (.double (FP.i2d p2)), (.double (FP.i2d p3))]) (rest := []) E_a1_99 (lenOf pd_3 rfl) rfl (nb rfl) (hb hby at_60) rfl rfl (by decide) (by decide) fun T104 v104 L104 X104 hQ104 => ?_
    obtain ⟨rfl, Nq104, e104⟩ := hQ104
    have N104 := Fr.app N99 Nq104
    refine Owe.dstore X104.here hx (hb hby at_63) rfl (l' := #[.val (.int p1), .val (.int p2), .val (.int p3), .val (.int p4), .val (.int p5), .val (.int p6), .val (.int (4 : Int32)), .val (.int (p5 &&& (1023 : Int32))), .val (.int (p6 &&& (1023 : Int32))), .val (.double (FP.ddiv (FP.i2d (16 : Int32)) (4616189618054758400 : UInt64))), .second, .val (.ref b95), .val (.double (FP.dadd (FP.dadd (FP.ddiv (FP.i2d p1) (FP.ddiv (FP.i2d (16 : Int32)) (4616189618054758400 : UInt64))) (FP.dmul (FP.i2d p2) (FP.i2d (p5 &&& (1023 : Int32))))) (FP.dmul (FP.i2d p3) (FP.i2d (p6 &&& (1023 : Int32)))))), .second, .unset, .unset]) rfl ?_
    refine Owe.iloadN X104.here hx (hb hby at_65) rfl ?_
    refine Owe.i2l X104.here hx (hb hby at_66) rfl ?_
    refine Owe.lconst X104.here hx (hb hby at_67) (w := (1 : Int64)) rfl ?_
    refine Owe.iconst X104.here hx (hb hby at_68) (w := (4 : Int32)) rfl ?_
    refine Owe.iload X104.here hx (hb hby at_69) rfl ?_
    refine Owe.isub X104.here hx (hb hby at_71) rfl ?_
    refine Owe.lshl X104.here hx (hb hby at_72) rfl ?_
    refine Owe.lmul X104.here hx (hb hby at_73) rfl ?_
    refine Owe.ldc2L X104 hx (v := (4 : Int64)) hown99 (mvT hZ99 (wd hw 43)) (hb hby at_74) ?_
    refine Owe.iloadN X104.here hx (hb hby at_77) rfl ?_
    refine Owe.i2l X104.here hx (hb hby at_78) rfl ?_
    refine Owe.lmul X104.here hx (hb hby at_79) rfl ?_
    refine Owe.iload X104.here hx (hb hby at_80) rfl ?_
    refine Owe.i2l X104.here hx (hb hby at_82) rfl ?_
    refine Owe.lmul X104.here hx (hb hby at_83) rfl ?_
    refine Owe.ladd X104.here hx (hb hby at_84) rfl ?_
    refine Owe.ldc2L X104 hx (v := (4 : Int64)) hown99 (mvT hZ99 (wd hw 43)) (hb hby at_85) ?_
    refine Owe.iloadN X104.here hx (hb hby at_88) rfl ?_
    refine Owe.i2l X104.here hx (hb hby at_89) rfl ?_
    refine Owe.lmul X104.here hx (hb hby at_90) rfl ?_
    refine Owe.iload X104.here hx (hb hby at_91) rfl ?_
    refine Owe.i2l X104.here hx (hb hby at_93) rfl ?_
    refine Owe.lmul X104.here hx (hb hby at_94) rfl ?_
    refine Owe.ladd X104.here hx (hb hby at_95) rfl ?_
    refine Owe.lstore X104.here hx (hb hby at_96) rfl (l' := #[.val (.int p1), .val (.int p2), .val (.int p3), .val (.int p4), .val (.int p5), .val (.int p6), .val (.int (4 : Int32)), .val (.int (p5 &&& (1023 : Int32))), .val (.int (p6 &&& (1023 : Int32))), .val (.double (FP.ddiv (FP.i2d (16 : Int32)) (4616189618054758400 : UInt64))), .second, .val (.ref b95), .val (.double (FP.dadd (FP.dadd (FP.ddiv (FP.i2d p1) (FP.ddiv (FP.i2d (16 : Int32)) (4616189618054758400 : UInt64))) (FP.dmul (FP.i2d p2) (FP.i2d (p5 &&& (1023 : Int32))))) (FP.dmul (FP.i2d p3) (FP.i2d (p6 &&& (1023 : Int32)))))), .second, .val (.long ((((p1.toInt64) * ((1 : Int64) <<< ((0 : Int32) &&& 0x3f).toInt64)) + (((4 : Int64) * (p2.toInt64)) * ((p5 &&& (1023 : Int32)).toInt64))) + (((4 : Int64) * (p3.toInt64)) * ((p6 &&& (1023 : Int32)).toInt64)))), .second]) rfl ?_
    refine Owe.dload X104.here hx (hb hby at_98) rfl ?_
    refine Owe.ldc2D X104 hx (v := (4616189618054758400 : UInt64)) hown99 (mvT hZ99 (wd hw 1)) (hb hby at_100) ?_
    refine Owe.dmulS X104.here hx (hb hby at_103) rfl (Jvm.Free.Fl.noNaN64_no.mpr hres.2.2.2.2.2.1) rfl ?_
    refine Owe.lload X104.here hx (hb hby at_104) rfl ?_
    refine Owe.l2dS X104.here hx (hb hby at_106) rfl rfl ?_
    refine Owe.dcmpS X104.here hx (hb hby at_107) rfl rfl ?_
    refine Owe.ifNo X104.here hx (hb hby at_108) rfl ((if0 _ _).trans (teq (own_c0 (hres.2.2.2.2.2.2 _ (own_ref (k := ((1 : Int64) <<< ((0 : Int32) &&& 0x3f).toInt64)) (K := ((2 ^ (4 - 4) : Nat) : Int)) (own_rg p5) (own_rg p6) (by decide +kernel) (own_bd 4 (by decide)))))).2) ?_
    refine Owe.iconst X104.here hx (hb hby at_111) (w := (1 : Int32)) rfl ?_
    refine Owe.goto X104.here hx (hb hby at_112) (pc' := 116) (by decide) (by decide) ?_
    refine Owe.retNW X104 hx hS99 e104 hk99 hlk (t := .boolean) hrt (by simp) (hb hby at_116) rfl fun fs hE => ?_
    rw [hG]
    refine ⟨_, _, rfl, ?_, ?_, coldMono hE (by decide) (by decide)⟩
    rotate_left
    · rw [hh]
      show CHr Z own_EL s.vm h0 T104.vm T104.heap
      rw [e104]
      exact Rr99.trans (CHv.at X104 hZ99 (own_ew hw) H99)
    show Q0 Z p1 p2 p3 p4 p5 p6 h0 n0 _ T104.heap _
    rw [e104]
    exact ⟨rfl, N104⟩
set_option maxRecDepth 65536 in
set_option maxHeartbeats 40000000 in
theorem comes_1 {Post : Tables → Env → Array Value → State → Outcome → State → Prop} (hpost : ∀ tb e args s v u, (limb_1_1.after args s (.returned v) u = true ∧ limb_1_2.after args s (.returned v) u = true ∧ True) → ReturnedEndW s (.returned v) u (Jvm.fieldLocs frame_1_writes args s ++ Jvm.arrayLocs frame_1_arrays args s ++ Jvm.staticLocs frame_1_statics s) 16 2176 → Post tb e args s (.returned v) u) :
    ArmFor flags0 classFile x code maxLocals ret World_1 tables_1 room_1 Calls_1 rest_1 Pre_1 Post := by
  intro l hfl _ _ p e ha hc hk s m args below hf hA hF happ hP
  obtain ⟨hcalls, hrest, hpre⟩ := hP
  obtain ⟨-, -, -, hnamed, -, -, -, hat⟩ := (Spec.applies_iff hf).mp happ
  obtain ⟨hg, hn⟩ := and_e (Cond.before_iff.mp (show (Jvm.Cond.and given_1 narrow_1).before args s = true from hpre))
  obtain ⟨g0, q0⟩ := and_e hg
  obtain ⟨g1, q1⟩ := and_e q0
  obtain ⟨g2, q2⟩ := and_e q1
  obtain ⟨g3, q3⟩ := and_e q2
  obtain ⟨g4, q4⟩ := and_e q3
  obtain ⟨g5, q5⟩ := and_e q4
  obtain ⟨w0, w1, w2, w3, w4, w5, rfl⟩ : ∃ w0 w1 w2 w3 w4 w5 : Value, args = #[w0, w1, w2, w3, w4, w5] := by
    have hs : args.size = 6 := by simpa [Cond.value, given_1] using g0
    obtain ⟨L⟩ := args
    match L, hs with
    | [w0, w1, w2, w3, w4, w5], _ => exact ⟨w0, w1, w2, w3, w4, w5, rfl⟩
  have hw := fun d (hd : d ∈ tables_1) => atoms_spec (ws := Jvm.Cond.code x code maxLocals ret :: tables_1) hat d (List.mem_cons_of_mem _ hd)
  have hfit : Fit s := fun {y c} hc i hi => by
    obtain ⟨ha, rfl⟩ := Array.getElem?_eq_some_iff.mp hc
    have q := List.all_eq_true.mp ((Array.all_eq_true_iff_forall_mem.mp hF) _ (Array.getElem_mem ha)) i (List.mem_range.mpr hi)
    simpa [Array.getElem?_eq_getElem hi] using q
  obtain ⟨i0, ei0⟩ := is_v g1
  obtain rfl : w0 = (.int i0) := Option.some.inj ei0
  obtain ⟨i1, ei1⟩ := is_v g2
  obtain rfl : w1 = (.int i1) := Option.some.inj ei1
  obtain ⟨i2, ei2⟩ := is_v g3
  obtain rfl : w2 = (.int i2) := Option.some.inj ei2
  obtain ⟨i3, ei3⟩ := is_v g4
  obtain rfl : w3 = (.int i3) := Option.some.inj ei3
  obtain ⟨i4, ei4⟩ := is_v g5
  obtain rfl : w4 = (.int i4) := Option.some.inj ei4
  obtain ⟨i5, ei5⟩ := is_v q5
  obtain rfl : w5 = (.int i5) := Option.some.inj ei5
  have H0 : CHv s own_EL s.vm s.heap := fun p hp => by cases hp
  obtain ⟨n, o, h1, h2, h3, _, L, rfl, ⟨rfl, N⟩, _, hq⟩ := rm0 l s _ hw tables_1 i0 i1 i2 i3 i4 i5 s.heap s.heap.size (Nat.le_refl _) (Old.start s) p e ha hc hk s m _ below hf ((Spec.applies_iff_loose hf).mp happ).1 ⟨rfl, State.Warmed39.refl s, rfl, H0⟩ trivial
  refine ⟨n, _, h1, h2, h3, hpost _ _ _ _ _ _ ⟨Cond.after_iff.mpr rfl, Cond.after_iff.mpr (eq_i res_at (Term.int_eval (1)) rfl), trivial⟩ ⟨hq.1, hq.2.1, hq.2.2.1, (hq.2.2.2.sift fun y hy => Or.inr (N y hy)).mono (by decide) (by decide)⟩⟩
theorem main_1_1 : Claimed_1_1 := comes_1 fun _ _ _ _ _ _ h hF => ⟨h.1, hF⟩
theorem main_1_2 : Claimed_1_2 := comes_1 fun _ _ _ _ _ _ h hF => ⟨h.2.1, hF⟩
end Jvm.Pilot.@@N@@
namespace Jvm.Pilot.@@N@@
open Jvm Jvm.ClassFile Sem Op Lib Jvm.Free Jvm.Stand Jvm.Pilot.@@N@@.Jvm.D
/-! MADE BY PROGRAM (witnessworld.py) out of the Statement's table words and the real class files: 17 classes; the members and pool entries that the words name. The judged class is class 1, her method 1. -/
namespace start1
open Jvm.ClassFile
def u (s : String) : CpInfo := .utf8 (stringToUtf16 s)
/-- a pool by its gaps: so many unusable entries, then the entry; so many at the end -/
def gap : Nat → List CpInfo → List CpInfo
  | 0, r => r
  | n + 1, r => .unusable :: gap n r
def poolList (es : List (Nat × CpInfo)) (last : Nat) : List CpInfo := es.foldr (fun e r => gap e.1 (e.2 :: r)) (gap last [])
def pool (es : List (Nat × CpInfo)) (last : Nat) : Array CpInfo := ⟨poolList es last⟩
def fileOf (pool : Array CpInfo) (this : Nat) (attrs : Array Attribute := #[]) (ms : Array MethodInfo := #[]) (fl : Nat := 33) (sup : Nat := 0) (ifs : Array Nat := #[]) (fds : Array FieldInfo := #[]) : ClassFile where
  minorVersion := 0
  majorVersion := 65
  constantPool := pool
  accessFlags := fl
  thisClass := this
  superClass := sup
  interfaces := ifs
  fields := fds
  methods := ms
  attributes := attrs
def plain (name : String) (sup : Option ClassId) : Class where
  name := name
  kind := .ordinary
  loader := none
  accessFlags := 33
  super := sup
  interfaces := #[]
  cf := none
  fields := #[]
  methods := #[]
  instanceTypes := #[]
  staticTypes := #[]
  resolved := #[]
  callSites := []
  init := .initialized
  statics := none
  mirror := none

def pool0 : Array CpInfo := pool [(5, u "<init>"), (0, u "()V"), (1, .class_ 10), (1, u "java/lang/Object")] 113

def k0c0 : Code := { maxStack := 0, maxLocals := 1, code := object_method_1_code, exceptionTable := #[], attributes := #[] }
def k0m0 : Method := { name := "<init>", desc := "()V", sig := { parameters := [], returnType := none }, accessFlags := 1, code := some k0c0 }
/-- java/lang/Object -/
def k0 : Class := { plain "java/lang/Object" none with
  accessFlags := 33
  interfaces := #[]
  cf := some (fileOf pool0 8 #[] #[{ accessFlags := 1, nameIndex := 5, descriptorIndex := 6, attributes := #[] }] 33 0 #[] #[])
  fields := #[]
  methods := #[k0m0]
  instanceTypes := #[]
  staticTypes := #[]
  resolved := Array.replicate 124 none
  statics := none }

def pool1 : Array CpInfo := pool [(2, .class_ 4), (1, u "java/lang/Object"), (0, u "<init>"), (0, u "()V"), (0, .integer 2147483647), (0, .double 4616189618054758400), (1, .class_ 11), (0, u "com/example/pickwright/pickwright/PickingTimes"), (0, .methodref 10 13), (0, .nameAndType 5 14), (0, u "(DDD)V"), (0, .methodref 10 16), (0, .nameAndType 17 18), (0, u "time"), (0, u "(DDD)D"), (0, .long 4), (1, .class_ 22), (0, u "com/example/pickwright/pickwright/PickingTimesTimePinLaw"), (2, u "law"), (0, u "(IIIIII)Z")] 3

def k1m0 : Method := { name := "<init>", desc := "()V", sig := { parameters := [], returnType := none }, accessFlags := 2, code := none }
def k1c1 : Code := { maxStack := 8, maxLocals := 16, code := code, exceptionTable := #[], attributes := #[] }
def k1m1 : Method := { name := "law", desc := "(IIIIII)Z", sig := { parameters := [.int, .int, .int, .int, .int, .int], returnType := some .boolean }, accessFlags := 9, code := some k1c1 }
/-- com/example/pickwright/pickwright/PickingTimesTimePinLaw -/
def k1 : Class := { plain "com/example/pickwright/pickwright/PickingTimesTimePinLaw" (some 0) with
  accessFlags := 49
  interfaces := #[]
  cf := some (fileOf pool1 21 #[] #[{ accessFlags := 2, nameIndex := 5, descriptorIndex := 6, attributes := #[] }, { accessFlags := 9, nameIndex := 25, descriptorIndex := 26, attributes := #[] }] 49 2 #[] #[])
  fields := #[]
  methods := #[k1m0, k1m1]
  instanceTypes := #[]
  staticTypes := #[]
  resolved := Array.replicate 30 none
  statics := none }

def pool2 : Array CpInfo := pool [(1, .methodref 2 3), (0, .class_ 4), (0, .nameAndType 5 6), (0, u "java/lang/Object"), (0, u "<init>"), (0, u "()V"), (0, .methodref 8 9), (0, .class_ 10), (0, .nameAndType 11 12), (0, u "java/lang/Double"), (0, u "isInfinite"), (0, u "(D)Z"), (7, .string 21), (0, u "pick"), (0, .methodref 23 24), (0, .class_ 25), (0, .nameAndType 26 27), (0, u "com/example/pickwright/pickwright/PickingTimes"), (0, u "requireTime"), (0, u "(DLjava/lang/String;)V"), (0, .string 29), (0, u "batch"), (0, .fieldref 23 31), (0, .nameAndType 32 33), (0, u "_speed"), (0, u "D"), (0, .fieldref 23 35), (0, .nameAndType 36 33), (0, u "_pickTime"), (0, .fieldref 23 38), (0, .nameAndType 39 33), (0, u "_batchTime"), (12, u "(DDD)V"), (2, u "DEFAULT"), (0, u "Lcom/example/pickwright/pickwright/PickingTimes;"), (7, u "time"), (0, u "(DDD)D")] 18

def k2c0 : Code := { maxStack := 4, maxLocals := 7, code := prog_20_method_1_code, exceptionTable := #[], attributes := #[] }
def k2m0 : Method := { name := "<init>", desc := "(DDD)V", sig := { parameters := [.double, .double, .double], returnType := none }, accessFlags := 1, code := some k2c0 }
def k2c1 : Code := { maxStack := 4, maxLocals := 3, code := prog_20_method_2_code, exceptionTable := #[], attributes := #[] }
def k2m1 : Method := { name := "requireTime", desc := "(DLjava/lang/String;)V", sig := { parameters := [.double, (.object "java/lang/String")], returnType := none }, accessFlags := 10, code := some k2c1 }
def k2c2 : Code := { maxStack := 6, maxLocals := 7, code := prog_20_method_6_code, exceptionTable := #[], attributes := #[] }
def k2m2 : Method := { name := "time", desc := "(DDD)D", sig := { parameters := [.double, .double, .double], returnType := some .double }, accessFlags := 0, code := some k2c2 }
/-- com/example/pickwright/pickwright/PickingTimes -/
def k2 : Class := { plain "com/example/pickwright/pickwright/PickingTimes" (some 0) with
  accessFlags := 49
  interfaces := #[]
  cf := some (fileOf pool2 23 #[] #[{ accessFlags := 1, nameIndex := 5, descriptorIndex := 52, attributes := #[] }, { accessFlags := 10, nameIndex := 26, descriptorIndex := 27, attributes := #[] }, { accessFlags := 0, nameIndex := 64, descriptorIndex := 65, attributes := #[] }] 49 2 #[] #[{ accessFlags := 25, nameIndex := 55, descriptorIndex := 56, attributes := #[] }, { accessFlags := 18, nameIndex := 32, descriptorIndex := 33, attributes := #[] }, { accessFlags := 18, nameIndex := 36, descriptorIndex := 33, attributes := #[] }, { accessFlags := 18, nameIndex := 39, descriptorIndex := 33, attributes := #[] }])
  fields := #[{ name := "DEFAULT", type := (.object "com/example/pickwright/pickwright/PickingTimes"), accessFlags := 25, slot := 0, constantValue := 0 }, { name := "_speed", type := .double, accessFlags := 18, slot := 0, constantValue := 0 }, { name := "_pickTime", type := .double, accessFlags := 18, slot := 1, constantValue := 0 }, { name := "_batchTime", type := .double, accessFlags := 18, slot := 2, constantValue := 0 }]
  methods := #[k2m0, k2m1, k2m2]
  instanceTypes := #[.double, .double, .double]
  staticTypes := #[(.object "com/example/pickwright/pickwright/PickingTimes")]
  resolved := Array.replicate 84 none
  statics := none }

def pool3 : Array CpInfo := pool [(1, .class_ 2), (0, u "java/io/Serializable"), (0, .class_ 4), (0, u "java/lang/Object")] 2

/-- java/io/Serializable -/
def k3 : Class := { plain "java/io/Serializable" (some 0) with
  accessFlags := 1537
  interfaces := #[]
  cf := some (fileOf pool3 1 #[] #[] 1537 3 #[] #[])
  fields := #[]
  methods := #[]
  instanceTypes := #[]
  staticTypes := #[]
  resolved := Array.replicate 7 none
  statics := none }

def pool4 : Array CpInfo := pool [(2, .class_ 4), (1, u "java/lang/Object"), (0, u "<init>"), (0, u "()V"), (1, .class_ 10), (1, u "java/lang/Number"), (2, .class_ 14), (0, u "java/io/Serializable"), (0, u "serialVersionUID"), (0, u "J")] 20

def k4m0 : Method := { name := "<init>", desc := "()V", sig := { parameters := [], returnType := none }, accessFlags := 1, code := none }
/-- java/lang/Number -/
def k4 : Class := { plain "java/lang/Number" (some 0) with
  accessFlags := 1057
  interfaces := #[3]
  cf := some (fileOf pool4 8 #[] #[{ accessFlags := 1, nameIndex := 5, descriptorIndex := 6, attributes := #[] }] 1057 2 #[13] #[{ accessFlags := 26, nameIndex := 15, descriptorIndex := 16, attributes := #[] }])
  fields := #[{ name := "serialVersionUID", type := .long, accessFlags := 26, slot := 0, constantValue := 0 }]
  methods := #[k4m0]
  instanceTypes := #[]
  staticTypes := #[.long]
  resolved := Array.replicate 37 none
  statics := none }

def pool5 : Array CpInfo := pool [(1, .class_ 2), (0, u "java/lang/Comparable"), (0, .class_ 4), (0, u "java/lang/Object")] 7

/-- java/lang/Comparable -/
def k5 : Class := { plain "java/lang/Comparable" (some 0) with
  accessFlags := 1537
  interfaces := #[]
  cf := some (fileOf pool5 1 #[] #[] 1537 3 #[] #[])
  fields := #[]
  methods := #[]
  instanceTypes := #[]
  staticTypes := #[]
  resolved := Array.replicate 12 none
  statics := none }

def pool6 : Array CpInfo := pool [(1, .class_ 2), (0, u "java/lang/constant/Constable"), (0, .class_ 4), (0, u "java/lang/Object")] 6

/-- java/lang/constant/Constable -/
def k6 : Class := { plain "java/lang/constant/Constable" (some 0) with
  accessFlags := 1537
  interfaces := #[]
  cf := some (fileOf pool6 1 #[] #[] 1537 3 #[] #[])
  fields := #[]
  methods := #[]
  instanceTypes := #[]
  staticTypes := #[]
  resolved := Array.replicate 11 none
  statics := none }

def pool7 : Array CpInfo := pool [(1, .class_ 2), (0, u "java/lang/constant/ConstantDesc"), (0, .class_ 4), (0, u "java/lang/Object")] 32

/-- java/lang/constant/ConstantDesc -/
def k7 : Class := { plain "java/lang/constant/ConstantDesc" (some 0) with
  accessFlags := 1537
  interfaces := #[]
  cf := some (fileOf pool7 1 #[] #[] 1537 3 #[] #[])
  fields := #[]
  methods := #[]
  instanceTypes := #[]
  staticTypes := #[]
  resolved := Array.replicate 37 none
  statics := none }

def pool8 : Array CpInfo := pool [(1, .class_ 2), (0, u "java/lang/Double"), (11, u "(D)Z"), (8, .class_ 25), (1, u "java/lang/Math"), (12, .methodref 23 39), (0, .nameAndType 40 41), (0, u "abs"), (0, u "(D)D"), (69, .double 9218868437227405311), (2, .class_ 116), (1, u "java/lang/Number"), (3, u "value"), (0, u "D"), (5, u "isInfinite"), (45, u "TYPE"), (0, u "Ljava/lang/Class;"), (0, .class_ 176), (0, u "java/lang/Comparable"), (0, .class_ 178), (0, u "java/lang/constant/Constable"), (0, .class_ 180), (0, u "java/lang/constant/ConstantDesc"), (0, u "POSITIVE_INFINITY"), (3, u "NEGATIVE_INFINITY"), (2, u "NaN"), (2, u "MAX_VALUE"), (0, u "MIN_NORMAL"), (0, u "MIN_VALUE"), (2, u "SIZE"), (0, u "I"), (1, u "PRECISION"), (1, u "MAX_EXPONENT"), (1, u "MIN_EXPONENT"), (1, u "BYTES"), (3, u "serialVersionUID"), (0, u "J")] 79

def k8c0 : Code := { maxStack := 4, maxLocals := 2, code := jdk_117_method_7_code, exceptionTable := #[], attributes := #[] }
def k8m0 : Method := { name := "isInfinite", desc := "(D)Z", sig := { parameters := [.double], returnType := some .boolean }, accessFlags := 9, code := some k8c0 }
/-- java/lang/Double -/
def k8 : Class := { plain "java/lang/Double" (some 4) with
  accessFlags := 49
  interfaces := #[5, 6, 7]
  cf := some (fileOf pool8 1 #[] #[{ accessFlags := 9, nameIndex := 127, descriptorIndex := 14, attributes := #[] }] 49 114 #[175, 177, 179] #[{ accessFlags := 25, nameIndex := 181, descriptorIndex := 121, attributes := #[] }, { accessFlags := 25, nameIndex := 185, descriptorIndex := 121, attributes := #[] }, { accessFlags := 25, nameIndex := 188, descriptorIndex := 121, attributes := #[] }, { accessFlags := 25, nameIndex := 191, descriptorIndex := 121, attributes := #[] }, { accessFlags := 25, nameIndex := 192, descriptorIndex := 121, attributes := #[] }, { accessFlags := 25, nameIndex := 193, descriptorIndex := 121, attributes := #[] }, { accessFlags := 25, nameIndex := 196, descriptorIndex := 197, attributes := #[] }, { accessFlags := 25, nameIndex := 199, descriptorIndex := 197, attributes := #[] }, { accessFlags := 25, nameIndex := 201, descriptorIndex := 197, attributes := #[] }, { accessFlags := 25, nameIndex := 203, descriptorIndex := 197, attributes := #[] }, { accessFlags := 25, nameIndex := 205, descriptorIndex := 197, attributes := #[] }, { accessFlags := 25, nameIndex := 173, descriptorIndex := 174, attributes := #[] }, { accessFlags := 18, nameIndex := 120, descriptorIndex := 121, attributes := #[] }, { accessFlags := 26, nameIndex := 209, descriptorIndex := 210, attributes := #[] }])
  fields := #[{ name := "POSITIVE_INFINITY", type := .double, accessFlags := 25, slot := 0, constantValue := 0 }, { name := "NEGATIVE_INFINITY", type := .double, accessFlags := 25, slot := 1, constantValue := 0 }, { name := "NaN", type := .double, accessFlags := 25, slot := 2, constantValue := 0 }, { name := "MAX_VALUE", type := .double, accessFlags := 25, slot := 3, constantValue := 0 }, { name := "MIN_NORMAL", type := .double, accessFlags := 25, slot := 4, constantValue := 0 }, { name := "MIN_VALUE", type := .double, accessFlags := 25, slot := 5, constantValue := 0 }, { name := "SIZE", type := .int, accessFlags := 25, slot := 6, constantValue := 0 }, { name := "PRECISION", type := .int, accessFlags := 25, slot := 7, constantValue := 0 }, { name := "MAX_EXPONENT", type := .int, accessFlags := 25, slot := 8, constantValue := 0 }, { name := "MIN_EXPONENT", type := .int, accessFlags := 25, slot := 9, constantValue := 0 }, { name := "BYTES", type := .int, accessFlags := 25, slot := 10, constantValue := 0 }, { name := "TYPE", type := (.object "java/lang/Class"), accessFlags := 25, slot := 11, constantValue := 0 }, { name := "value", type := .double, accessFlags := 18, slot := 0, constantValue := 0 }, { name := "serialVersionUID", type := .long, accessFlags := 26, slot := 12, constantValue := 0 }]
  methods := #[k8m0]
  instanceTypes := #[.double]
  staticTypes := #[.double, .double, .double, .double, .double, .double, .int, .int, .int, .int, .int, (.object "java/lang/Class"), .long]
  resolved := Array.replicate 290 none
  statics := none }

def pool9 : Array CpInfo := pool [(1, .class_ 2), (0, u "java/lang/Math"), (1, .class_ 6), (1, u "java/lang/Object"), (0, u "<init>"), (0, u "()V"), (5, u "(D)D"), (83, .class_ 100), (1, u "java/lang/Math$RandomNumberGeneratorHolder"), (23, u "abs"), (47, u "negativeZeroFloatBits"), (0, u "J"), (2, u "negativeZeroDoubleBits"), (68, u "$assertionsDisabled"), (0, u "Z"), (91, u "twoToTheDoubleScaleDown"), (0, u "D"), (4, u "twoToTheDoubleScaleUp"), (9, u "E"), (3, u "PI"), (2, u "TAU"), (2, u "DEGREES_TO_RADIANS"), (0, u "RADIANS_TO_DEGREES")] 94

def k9m0 : Method := { name := "<init>", desc := "()V", sig := { parameters := [], returnType := none }, accessFlags := 2, code := none }
def k9c1 : Code := { maxStack := 4, maxLocals := 2, code := jdk_29_method_64_code, exceptionTable := #[], attributes := #[] }
def k9m1 : Method := { name := "abs", desc := "(D)D", sig := { parameters := [.double], returnType := some .double }, accessFlags := 9, code := some k9c1 }
/-- java/lang/Math -/
def k9 : Class := { plain "java/lang/Math" (some 0) with
  accessFlags := 49
  interfaces := #[]
  cf := some (fileOf pool9 1 #[.nestMembers #[98]] #[{ accessFlags := 2, nameIndex := 7, descriptorIndex := 8, attributes := #[] }, { accessFlags := 9, nameIndex := 124, descriptorIndex := 14, attributes := #[] }] 49 4 #[] #[{ accessFlags := 25, nameIndex := 354, descriptorIndex := 339, attributes := #[] }, { accessFlags := 25, nameIndex := 358, descriptorIndex := 339, attributes := #[] }, { accessFlags := 25, nameIndex := 361, descriptorIndex := 339, attributes := #[] }, { accessFlags := 26, nameIndex := 364, descriptorIndex := 339, attributes := #[] }, { accessFlags := 26, nameIndex := 365, descriptorIndex := 339, attributes := #[] }, { accessFlags := 26, nameIndex := 172, descriptorIndex := 173, attributes := #[] }, { accessFlags := 26, nameIndex := 176, descriptorIndex := 173, attributes := #[] }, { accessFlags := 8, nameIndex := 344, descriptorIndex := 339, attributes := #[] }, { accessFlags := 8, nameIndex := 338, descriptorIndex := 339, attributes := #[] }, { accessFlags := 4120, nameIndex := 245, descriptorIndex := 246, attributes := #[] }])
  fields := #[{ name := "E", type := .double, accessFlags := 25, slot := 0, constantValue := 0 }, { name := "PI", type := .double, accessFlags := 25, slot := 1, constantValue := 0 }, { name := "TAU", type := .double, accessFlags := 25, slot := 2, constantValue := 0 }, { name := "DEGREES_TO_RADIANS", type := .double, accessFlags := 26, slot := 3, constantValue := 0 }, { name := "RADIANS_TO_DEGREES", type := .double, accessFlags := 26, slot := 4, constantValue := 0 }, { name := "negativeZeroFloatBits", type := .long, accessFlags := 26, slot := 5, constantValue := 0 }, { name := "negativeZeroDoubleBits", type := .long, accessFlags := 26, slot := 6, constantValue := 0 }, { name := "twoToTheDoubleScaleUp", type := .double, accessFlags := 8, slot := 7, constantValue := 0 }, { name := "twoToTheDoubleScaleDown", type := .double, accessFlags := 8, slot := 8, constantValue := 0 }, { name := "$assertionsDisabled", type := .boolean, accessFlags := 4120, slot := 9, constantValue := 0 }]
  methods := #[k9m0, k9m1]
  instanceTypes := #[]
  staticTypes := #[.double, .double, .double, .double, .double, .long, .long, .double, .double, .boolean]
  resolved := Array.replicate 460 none
  statics := none }

def pool10 : Array CpInfo := pool [(2, .class_ 4), (1, u "java/lang/CharSequence"), (42, .class_ 48), (0, u "java/lang/CharSequence$1CodePointIterator"), (10, .class_ 60), (0, u "java/lang/CharSequence$1CharIterator"), (5, .class_ 67), (0, u "java/lang/Object")] 63

/-- java/lang/CharSequence -/
def k10 : Class := { plain "java/lang/CharSequence" (some 0) with
  accessFlags := 1537
  interfaces := #[]
  cf := some (fileOf pool10 2 #[.nestMembers #[47, 59]] #[] 1537 66 #[] #[])
  fields := #[]
  methods := #[]
  instanceTypes := #[]
  staticTypes := #[]
  resolved := Array.replicate 131 none
  statics := none }

def pool11 : Array CpInfo := pool [(2, .class_ 4), (1, u "java/lang/Object"), (0, u "<init>"), (0, u "()V"), (3, .class_ 12), (1, u "java/lang/String"), (0, u "value"), (0, u "[B"), (2, u "coder"), (0, u "B"), (2, u "hash"), (0, u "I"), (2, u "hashIsZero"), (0, u "Z"), (13, u "COMPACT_STRINGS"), (534, .class_ 576), (0, u "java/lang/CharSequence"), (22, u "CASE_INSENSITIVE_ORDER"), (0, u "Ljava/util/Comparator;"), (500, u "serialPersistentFields"), (0, u "[Ljava/io/ObjectStreamField;"), (0, .class_ 1104), (0, u "java/lang/String$CaseInsensitiveComparator"), (1, .class_ 1107), (0, u "java/io/Serializable"), (0, .class_ 1109), (0, u "java/lang/Comparable"), (0, .class_ 1111), (0, u "java/lang/constant/Constable"), (0, .class_ 1113), (0, u "java/lang/constant/ConstantDesc"), (2, u "serialVersionUID"), (0, u "J"), (3, u "REPL"), (0, u "C"), (2, u "LATIN1"), (1, u "UTF16")] 323

def k11m0 : Method := { name := "<init>", desc := "()V", sig := { parameters := [], returnType := none }, accessFlags := 1, code := none }
/-- java/lang/String -/
def k11 : Class := { plain "java/lang/String" (some 0) with
  accessFlags := 49
  interfaces := #[3, 5, 10, 6, 7]
  cf := some (fileOf pool11 10 #[.nestMembers #[1103]] #[{ accessFlags := 1, nameIndex := 5, descriptorIndex := 6, attributes := #[] }] 49 2 #[1106, 1108, 575, 1110, 1112] #[{ accessFlags := 18, nameIndex := 13, descriptorIndex := 14, attributes := #[] }, { accessFlags := 18, nameIndex := 17, descriptorIndex := 18, attributes := #[] }, { accessFlags := 2, nameIndex := 21, descriptorIndex := 22, attributes := #[] }, { accessFlags := 2, nameIndex := 25, descriptorIndex := 26, attributes := #[] }, { accessFlags := 26, nameIndex := 1116, descriptorIndex := 1117, attributes := #[] }, { accessFlags := 24, nameIndex := 40, descriptorIndex := 26, attributes := #[] }, { accessFlags := 26, nameIndex := 1101, descriptorIndex := 1102, attributes := #[] }, { accessFlags := 26, nameIndex := 1121, descriptorIndex := 1122, attributes := #[] }, { accessFlags := 25, nameIndex := 599, descriptorIndex := 600, attributes := #[] }, { accessFlags := 24, nameIndex := 1125, descriptorIndex := 18, attributes := #[] }, { accessFlags := 24, nameIndex := 1127, descriptorIndex := 18, attributes := #[] }])
  fields := #[{ name := "value", type := (.array .byte), accessFlags := 18, slot := 0, constantValue := 0 }, { name := "coder", type := .byte, accessFlags := 18, slot := 1, constantValue := 0 }, { name := "hash", type := .int, accessFlags := 2, slot := 2, constantValue := 0 }, { name := "hashIsZero", type := .boolean, accessFlags := 2, slot := 3, constantValue := 0 }, { name := "serialVersionUID", type := .long, accessFlags := 26, slot := 0, constantValue := 0 }, { name := "COMPACT_STRINGS", type := .boolean, accessFlags := 24, slot := 1, constantValue := 0 }, { name := "serialPersistentFields", type := (.array (.object "java/io/ObjectStreamField")), accessFlags := 26, slot := 2, constantValue := 0 }, { name := "REPL", type := .char, accessFlags := 26, slot := 3, constantValue := 0 }, { name := "CASE_INSENSITIVE_ORDER", type := (.object "java/util/Comparator"), accessFlags := 25, slot := 4, constantValue := 0 }, { name := "LATIN1", type := .byte, accessFlags := 24, slot := 5, constantValue := 0 }, { name := "UTF16", type := .byte, accessFlags := 24, slot := 6, constantValue := 0 }]
  methods := #[k11m0]
  instanceTypes := #[(.array .byte), .byte, .int, .boolean]
  staticTypes := #[.long, .boolean, (.array (.object "java/io/ObjectStreamField")), .char, (.object "java/util/Comparator"), .byte, .byte]
  resolved := Array.replicate 1451 none
  statics := none }

def pool12 : Array CpInfo := pool [(1, u "java/lang/Cloneable"), (0, .class_ 1), (0, u "java/lang/Object"), (0, .class_ 3)] 3

/-- java/lang/Cloneable -/
def k12 : Class := { plain "java/lang/Cloneable" (some 0) with
  accessFlags := 1537
  interfaces := #[]
  cf := some (fileOf pool12 2 #[] #[] 1537 4 #[] #[])
  fields := #[]
  methods := #[]
  instanceTypes := #[]
  staticTypes := #[]
  resolved := Array.replicate 8 none
  statics := none }

/-- the primitive byte -/
def k13 : Class := { plain "byte" none with kind := .primitive 'B', accessFlags := 0x411 }
/-- [B -/
def k14 : Class := { plain "[B" (some 0) with kind := .array 13 .byte, interfaces := #[12, 3], accessFlags := 1041 }

/-- the primitive int -/
def k15 : Class := { plain "int" none with kind := .primitive 'I', accessFlags := 0x411 }
/-- [I -/
def k16 : Class := { plain "[I" (some 0) with kind := .array 15 .int, interfaces := #[12, 3], accessFlags := 1041 }

def heap : Heap := #[]
def classes : Array Class := #[k0, k1, k2, k3, k4, k5, k6, k7, k8, k9, k10, k11, k12, k13, k14, k15, k16]
def interned : List (Array UInt16 × Addr) := []
def slotsUsed : Nat := 0
def theMethod : MethodId := ⟨1, 1⟩
def args0 : Array Value := #[.int 5, .int 5, .int 5, .int 5, .int 5, .int 5]
def aboutOver (below : List Frame) : State where
  vm := { classes := classes, interned := interned.toArray }
  heap := heap
  slotsUsed := slotsUsed
  threads := #[{ frames := .invoking theMethod args0 :: below }]
def below0 : List Frame := [.native { method := ⟨0, 0⟩, args := #[] }]
def about1 : State := aboutOver below0
def p0 : Program := .bare "" "" ""
def e0 : Env := launch0.env 0 0 0
theorem w_frames : about1.frames = Frame.invoking theMethod args0 :: below0 := rfl
set_option maxRecDepth 65536 in
theorem w_args : argsFit about1.vm theMethod args0 = true := by decide +kernel
set_option maxRecDepth 65536 in
theorem w_heap : heapFits about1 = true := by decide +kernel
set_option maxRecDepth 65536 in
theorem w_runnable : about1.curStatus? = some .runnable := by decide +kernel
set_option maxRecDepth 65536 in
theorem w_alone : about1.alone = true := by decide +kernel
set_option maxRecDepth 65536 in
theorem w_named : about1.methodNamed? x = some theMethod := by decide +kernel
set_option maxRecDepth 65536 in
theorem w_hears : about1.hears theMethod below0 = true := by decide +kernel
set_option maxRecDepth 65536 in
theorem w_ripe : about1.ripe theMethod args0 below0 = true := by decide +kernel
theorem w_running : about1.status = .running := rfl
set_option maxRecDepth 65536 in
theorem w_room : about1.hasRoom e0.platform room_1 = true :=
  launch0.hasRoom_least _ room_1 (by decide +kernel) (by decide +kernel) (by decide +kernel) (by decide +kernel) (by decide +kernel) (by decide +kernel)
theorem allAtoms_all (ts : List Jvm.Cond) (a : Array Jvm.Value) (st : Jvm.State) : (allAtoms ts).before a st = ts.all (fun c => c.before a st) := by
  induction ts with
  | nil => rfl
  | cons c t ih =>
    show (Jvm.Cond.and c (allAtoms t)).before a st = _
    rw [Jvm.Cond.before_and, ih, List.all_cons]
def words1 : List Jvm.Cond := Jvm.Cond.code x code maxLocals ret :: tables_1
/-- a 'code' word, met by the world's own term for the bytes: nothing is compared byte by byte -/
theorem code_word {y : MethodName} {bytes : ByteArray} {mx : Nat} {rt : Option FieldType} {a : Array Value} {s : State} {m : MethodId} {meth : Method} {c : Code} (h1 : s.methodNamed? y = some m) (h2 : s.vm.method? m = some meth) (h3 : meth.code = some c) (h4 : c.code = bytes)
    (h5 : (c.maxLocals == mx && c.exceptionTable.isEmpty && decide (c.maxStack ≤ mostOperands) && decide (meth.sig.returnType = rt) && !meth.locks && decide (parseMethodDescriptor y.desc = some meth.sig)) = true) : (Jvm.Cond.code y bytes mx rt).before a s = true := by
  simp only [Bool.and_eq_true, beq_iff_eq, Bool.not_eq_true', decide_eq_true_eq] at h5
  obtain ⟨⟨⟨⟨⟨g1, g2⟩, g3⟩, g4⟩, g5⟩, g6⟩ := h5
  simp [Cond.before, Cond.holds, Cond.value, h1, h2, h3, h4, g1, g2, g3, g4, g5, g6]
def isCode : Jvm.Cond → Bool
  | .code _ _ _ _ => true
  | _ => false
theorem all_split {L : List Jvm.Cond} {P : Jvm.Cond → Bool} (h1 : L.all (fun c => isCode c || P c) = true) (h2 : ∀ c ∈ L.filter isCode, P c = true) : L.all P = true := by
  refine List.all_eq_true.mpr fun c hc => ?_
  have h := List.all_eq_true.mp h1 c hc
  rcases Bool.eq_false_or_eq_true (isCode c) with hi | hi
  · exact h2 c (List.mem_filter.mpr ⟨hc, hi⟩)
  · simpa [hi] using h
set_option maxRecDepth 65536 in
theorem w_c0 : (Jvm.Cond.code x code maxLocals ret).before args0 about1 = true := code_word (m := ⟨1, 1⟩) (meth := k1m1) (c := k1c1) (by decide +kernel) rfl rfl rfl (by decide +kernel)
set_option maxRecDepth 65536 in
theorem w_c1 : (Jvm.Cond.code ({ cls := "com/example/pickwright/pickwright/PickingTimes", name := "<init>", desc := "(DDD)V" } : Jvm.MethodName) prog_20_method_1_code (7 : Nat) (Option.none : Option Jvm.ClassFile.FieldType)).before args0 about1 = true := code_word (m := ⟨2, 0⟩) (meth := k2m0) (c := k2c0) (by decide +kernel) rfl rfl rfl (by decide +kernel)
set_option maxRecDepth 65536 in
theorem w_c2 : (Jvm.Cond.code ({ cls := "java/lang/Object", name := "<init>", desc := "()V" } : Jvm.MethodName) object_method_1_code (1 : Nat) (Option.none : Option Jvm.ClassFile.FieldType)).before args0 about1 = true := code_word (m := ⟨0, 0⟩) (meth := k0m0) (c := k0c0) (by decide +kernel) rfl rfl rfl (by decide +kernel)
set_option maxRecDepth 65536 in
theorem w_c3 : (Jvm.Cond.code ({ cls := "java/lang/Double", name := "isInfinite", desc := "(D)Z" } : Jvm.MethodName) jdk_117_method_7_code (2 : Nat) (Option.some Jvm.ClassFile.FieldType.boolean)).before args0 about1 = true := code_word (m := ⟨8, 0⟩) (meth := k8m0) (c := k8c0) (by decide +kernel) rfl rfl rfl (by decide +kernel)
set_option maxRecDepth 65536 in
theorem w_c4 : (Jvm.Cond.code ({ cls := "java/lang/Math", name := "abs", desc := "(D)D" } : Jvm.MethodName) jdk_29_method_64_code (2 : Nat) (Option.some Jvm.ClassFile.FieldType.double)).before args0 about1 = true := code_word (m := ⟨9, 1⟩) (meth := k9m1) (c := k9c1) (by decide +kernel) rfl rfl rfl (by decide +kernel)
set_option maxRecDepth 65536 in
theorem w_c5 : (Jvm.Cond.code ({ cls := "com/example/pickwright/pickwright/PickingTimes", name := "requireTime", desc := "(DLjava/lang/String;)V" } : Jvm.MethodName) prog_20_method_2_code (3 : Nat) (Option.none : Option Jvm.ClassFile.FieldType)).before args0 about1 = true := code_word (m := ⟨2, 1⟩) (meth := k2m1) (c := k2c1) (by decide +kernel) rfl rfl rfl (by decide +kernel)
set_option maxRecDepth 65536 in
theorem w_c6 : (Jvm.Cond.code ({ cls := "com/example/pickwright/pickwright/PickingTimes", name := "time", desc := "(DDD)D" } : Jvm.MethodName) prog_20_method_6_code (7 : Nat) (Option.some Jvm.ClassFile.FieldType.double)).before args0 about1 = true := code_word (m := ⟨2, 2⟩) (meth := k2m2) (c := k2c2) (by decide +kernel) rfl rfl rfl (by decide +kernel)
def codes1 : List Jvm.Cond := [Jvm.Cond.code x code maxLocals ret, Jvm.Cond.code ({ cls := "com/example/pickwright/pickwright/PickingTimes", name := "<init>", desc := "(DDD)V" } : Jvm.MethodName) prog_20_method_1_code (7 : Nat) (Option.none : Option Jvm.ClassFile.FieldType), Jvm.Cond.code ({ cls := "java/lang/Object", name := "<init>", desc := "()V" } : Jvm.MethodName) object_method_1_code (1 : Nat) (Option.none : Option Jvm.ClassFile.FieldType), Jvm.Cond.code ({ cls := "java/lang/Double", name := "isInfinite", desc := "(D)Z" } : Jvm.MethodName) jdk_117_method_7_code (2 : Nat) (Option.some Jvm.ClassFile.FieldType.boolean), Jvm.Cond.code ({ cls := "java/lang/Math", name := "abs", desc := "(D)D" } : Jvm.MethodName) jdk_29_method_64_code (2 : Nat) (Option.some Jvm.ClassFile.FieldType.double), Jvm.Cond.code ({ cls := "com/example/pickwright/pickwright/PickingTimes", name := "requireTime", desc := "(DLjava/lang/String;)V" } : Jvm.MethodName) prog_20_method_2_code (3 : Nat) (Option.none : Option Jvm.ClassFile.FieldType), Jvm.Cond.code ({ cls := "com/example/pickwright/pickwright/PickingTimes", name := "time", desc := "(DDD)D" } : Jvm.MethodName) prog_20_method_6_code (7 : Nat) (Option.some Jvm.ClassFile.FieldType.double)]
set_option maxRecDepth 65536 in
theorem codes_eq : words1.filter isCode = codes1 := rfl
theorem w_codes : ∀ c ∈ words1.filter isCode, c.before args0 about1 = true := by
  rw [codes_eq]
  intro c hc
  simp only [codes1, List.mem_cons, List.not_mem_nil, or_false] at hc
  rcases hc with rfl | rfl | rfl | rfl | rfl | rfl | rfl
  · exact w_c0
  · exact w_c1
  · exact w_c2
  · exact w_c3
  · exact w_c4
  · exact w_c5
  · exact w_c6
set_option maxRecDepth 65536 in
theorem w_t1 : (words1.take 24).all (fun c => isCode c || c.before args0 about1) = true := by decide +kernel
set_option maxRecDepth 65536 in
theorem w_t2 : (words1.drop 24).all (fun c => isCode c || c.before args0 about1) = true := by decide +kernel
theorem w_tables : (allAtoms (Jvm.Cond.code x code maxLocals ret :: tables_1)).before args0 about1 = true := by
  rw [allAtoms_all]
  show words1.all (fun c => c.before args0 about1) = true
  refine all_split ?_ w_codes
  rw [← List.take_append_drop 24 words1, List.all_append, w_t1, w_t2]
  rfl
set_option maxRecDepth 65536 in
theorem w_case : (Jvm.Cond.and given_1 narrow_1).before args0 about1 = true := by decide +kernel
theorem w_applies : (headSpec (Jvm.Cond.code x code maxLocals ret :: tables_1) room_1).applies x e0.platform about1 = true :=
  (Spec.applies_iff w_frames).mpr ⟨w_running, w_runnable, w_alone, w_named, w_hears, w_ripe, w_room, w_tables⟩
theorem atStart : AtStart classFile x code maxLocals ret World_1 tables_1 room_1 Calls_1 rest_1 Pre_1 launch0 p0 e0 about1 theMethod args0 below0 :=
  ⟨lists_1, trivial, launch0.admits_env _ _ _, launch0.least_env, fairChoices_fair.cas, fairChoices_fair.clock, w_frames, w_args, w_heap, w_applies, trivial, trivial, w_case⟩
end start1
theorem witness_1 : WitnessClaimed_1 := ⟨start1.p0, start1.e0, start1.about1, start1.theMethod, start1.args0, start1.below0, start1.atStart⟩
end Jvm.Pilot.@@N@@
