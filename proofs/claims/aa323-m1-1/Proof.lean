import JvmDerived
import JvmDerived.Pilot.@@N@@Statement
import JvmDerived.Pilot.@@N@@Code
set_option linter.unusedVariables false
set_option linter.unusedSimpArgs false
namespace Jvm.Pilot.@@N@@
namespace Own
open Jvm Jvm.ClassFile Sem Op Lib Jvm.Free Jvm.Stand Jvm.LawKit Jvm.RoadKit
/-! A WALK READ FORWARDS. 'Owe .. G T g': from the state T with the frame g on top the invocation comes back, and G holds of what it leaves. Each step's rule asks what is owed behind the step. -/
def Owe (tb : Tables) (e : Env) (below : List Frame) (G : Outcome → State → Prop) (T : State) (g : JFrame) : Prop := ∃ u o, Steps tb e below (T.setTop g) u ∧ u.status = .running ∧ Ended u below o ∧ G o u
theorem Owe.by {tb : Tables} {e : Env} {below : List Frame} {G : Outcome → State → Prop} {T T' : State} {g g' : JFrame} (k : ∀ t, Steps tb e below (T'.setTop g') t → Steps tb e below (T.setTop g) t) (h : Owe tb e below G T' g') : Owe tb e below G T g := by
  obtain ⟨u, o, h1, h2⟩ := h
  exact ⟨u, o, k _ h1, h2⟩
theorem Owe.cast {tb : Tables} {e : Env} {below : List Frame} {G : Outcome → State → Prop} {T : State} {g g' : JFrame} (q : g = g') (h : Owe tb e below G T g') : Owe tb e below G T g := q ▸ h
section Plain
variable {tb : Tables} [Ours tb] {e : Env} {below : List Frame} {G : Outcome → State → Prop} {T : State} {m : MethodId} {c : Code} {pc : Nat} {Ls : Array Slot} {st : List Value}
theorem Owe.aloadN (h : At T m c below) (hx : tb.exec = Jvm.exec) {k : Fin 4} {v : Value} (hd : decode c.code pc = .ok (.aload_n k, 1)) (hl : Ls[k.val]? = some (.val v)) (hv : v.isRef = true) (go : Owe tb e below G T (mkF m (pc + 1) Ls (v :: st))) : Owe tb e below G T (mkF m pc Ls st) := Owe.by (fun t k => XS.aloadN h hx rfl hd hl hv k) go
theorem Owe.aload (h : At T m c below) (hx : tb.exec = Jvm.exec) {k : Nat} {v : Value} (hd : decode c.code pc = .ok (.aload k, 2)) (hl : Ls[k]? = some (.val v)) (hv : v.isRef = true) (go : Owe tb e below G T (mkF m (pc + 2) Ls (v :: st))) : Owe tb e below G T (mkF m pc Ls st) := Owe.by (fun t k => XS.aload h hx rfl hd hl hv k) go
theorem Owe.iloadN (h : At T m c below) (hx : tb.exec = Jvm.exec) {k : Fin 4} {v : Int32} (hd : decode c.code pc = .ok (.iload_n k, 1)) (hl : Ls[k.val]? = some (.val (.int v))) (go : Owe tb e below G T (mkF m (pc + 1) Ls (.int v :: st))) : Owe tb e below G T (mkF m pc Ls st) := Owe.by (fun t k => XS.iloadN h hx rfl hd hl k) go
theorem Owe.iload (h : At T m c below) (hx : tb.exec = Jvm.exec) {k : Nat} {v : Int32} (hd : decode c.code pc = .ok (.iload k, 2)) (hl : Ls[k]? = some (.val (.int v))) (go : Owe tb e below G T (mkF m (pc + 2) Ls (.int v :: st))) : Owe tb e below G T (mkF m pc Ls st) := Owe.by (fun t k => XS.iload h hx rfl hd hl k) go
theorem Owe.iconst (h : At T m c below) (hx : tb.exec = Jvm.exec) {i : Int} (hd : decode c.code pc = .ok (.iconst i, 1)) {w : Int32} (hw : (Int32.ofInt i) = w) (go : Owe tb e below G T (mkF m (pc + 1) Ls (.int w :: st))) : Owe tb e below G T (mkF m pc Ls st) := by subst hw; exact Owe.by (fun t k => XS.iconst h hx rfl hd k) go
theorem Owe.bipush (h : At T m c below) (hx : tb.exec = Jvm.exec) {i : Int} (hd : decode c.code pc = .ok (.bipush i, 2)) {w : Int32} (hw : (Int8.ofInt i).toInt32 = w) (go : Owe tb e below G T (mkF m (pc + 2) Ls (.int w :: st))) : Owe tb e below G T (mkF m pc Ls st) := by subst hw; exact Owe.by (fun t k => XS.bipush h hx rfl hd k) go
theorem Owe.sipush (h : At T m c below) (hx : tb.exec = Jvm.exec) {i : Int} (hd : decode c.code pc = .ok (.sipush i, 3)) {w : Int32} (hw : (Int16.ofInt i).toInt32 = w) (go : Owe tb e below G T (mkF m (pc + 3) Ls (.int w :: st))) : Owe tb e below G T (mkF m pc Ls st) := by subst hw; exact Owe.by (fun t k => XS.sipush h hx rfl hd k) go
theorem Owe.aconstNull (h : At T m c below) (hx : tb.exec = Jvm.exec) (hd : decode c.code pc = .ok (.aconst_null, 1)) (go : Owe tb e below G T (mkF m (pc + 1) Ls (.null :: st))) : Owe tb e below G T (mkF m pc Ls st) := Owe.by (fun t k => XS.aconstNull h hx rfl hd k) go
theorem Owe.iadd (h : At T m c below) (hx : tb.exec = Jvm.exec) {x y : Int32} {rest : List Value} (hd : decode c.code pc = .ok (.iadd, 1)) (hs : st = .int y :: .int x :: rest) (go : Owe tb e below G T (mkF m (pc + 1) Ls (.int (x + y) :: rest))) : Owe tb e below G T (mkF m pc Ls st) := Owe.by (fun t k => XS.iadd h hx rfl hd hs k) go
theorem Owe.isub (h : At T m c below) (hx : tb.exec = Jvm.exec) {x y : Int32} {rest : List Value} (hd : decode c.code pc = .ok (.isub, 1)) (hs : st = .int y :: .int x :: rest) (go : Owe tb e below G T (mkF m (pc + 1) Ls (.int (x - y) :: rest))) : Owe tb e below G T (mkF m pc Ls st) := Owe.by (fun t k => XS.isub h hx rfl hd hs k) go
theorem Owe.imul (h : At T m c below) (hx : tb.exec = Jvm.exec) {x y : Int32} {rest : List Value} (hd : decode c.code pc = .ok (.imul, 1)) (hs : st = .int y :: .int x :: rest) (go : Owe tb e below G T (mkF m (pc + 1) Ls (.int (x * y) :: rest))) : Owe tb e below G T (mkF m pc Ls st) := Owe.by (fun t k => XS.imul h hx rfl hd hs k) go
theorem Owe.iand (h : At T m c below) (hx : tb.exec = Jvm.exec) {x y : Int32} {rest : List Value} (hd : decode c.code pc = .ok (.iand, 1)) (hs : st = .int y :: .int x :: rest) (go : Owe tb e below G T (mkF m (pc + 1) Ls (.int (x &&& y) :: rest))) : Owe tb e below G T (mkF m pc Ls st) := Owe.by (fun t k => XS.iand h hx rfl hd hs k) go
theorem Owe.ior (h : At T m c below) (hx : tb.exec = Jvm.exec) {x : Int32} {y : Int32} {rest : List Value} (hd : decode c.code pc = .ok (.ior, 1)) (hs : st = .int y :: .int x :: rest) (go : Owe tb e below G T (mkF m (pc + 1) Ls (.int (x ||| y) :: rest))) : Owe tb e below G T (mkF m pc Ls st) := Owe.by (fun t k => XS.ior h hx rfl hd hs k) go
theorem Owe.ixor (h : At T m c below) (hx : tb.exec = Jvm.exec) {x : Int32} {y : Int32} {rest : List Value} (hd : decode c.code pc = .ok (.ixor, 1)) (hs : st = .int y :: .int x :: rest) (go : Owe tb e below G T (mkF m (pc + 1) Ls (.int (x ^^^ y) :: rest))) : Owe tb e below G T (mkF m pc Ls st) := Owe.by (fun t k => XS.ixor h hx rfl hd hs k) go
theorem Owe.ishl (h : At T m c below) (hx : tb.exec = Jvm.exec) {x : Int32} {y : Int32} {rest : List Value} (hd : decode c.code pc = .ok (.ishl, 1)) (hs : st = .int y :: .int x :: rest) (go : Owe tb e below G T (mkF m (pc + 1) Ls (.int (x <<< (y &&& 31)) :: rest))) : Owe tb e below G T (mkF m pc Ls st) := Owe.by (fun t k => XS.ishl h hx rfl hd hs k) go
theorem Owe.ishr (h : At T m c below) (hx : tb.exec = Jvm.exec) {x : Int32} {y : Int32} {rest : List Value} (hd : decode c.code pc = .ok (.ishr, 1)) (hs : st = .int y :: .int x :: rest) (go : Owe tb e below G T (mkF m (pc + 1) Ls (.int (x >>> (y &&& 31)) :: rest))) : Owe tb e below G T (mkF m pc Ls st) := Owe.by (fun t k => XS.ishr h hx rfl hd hs k) go
theorem Owe.iushr (h : At T m c below) (hx : tb.exec = Jvm.exec) {x : Int32} {y : Int32} {rest : List Value} (hd : decode c.code pc = .ok (.iushr, 1)) (hs : st = .int y :: .int x :: rest) (go : Owe tb e below G T (mkF m (pc + 1) Ls (.int ((x.toUInt32 >>> (y &&& 31).toUInt32).toInt32) :: rest))) : Owe tb e below G T (mkF m pc Ls st) := Owe.by (fun t k => XS.iushr h hx rfl hd hs k) go
theorem Owe.irem (h : At T m c below) (hx : tb.exec = Jvm.exec) {x y : Int32} {rest : List Value} (hd : decode c.code pc = .ok (.irem, 1)) (hs : st = .int y :: .int x :: rest) (hy : y ≠ 0) (go : Owe tb e below G T (mkF m (pc + 1) Ls (.int (x - (x / y) * y) :: rest))) : Owe tb e below G T (mkF m pc Ls st) := Owe.by (fun t k => XS.irem h hx rfl hd hs hy k) go
theorem Owe.idiv (h : At T m c below) (hx : tb.exec = Jvm.exec) {x y : Int32} {rest : List Value} (hd : decode c.code pc = .ok (.idiv, 1)) (hs : st = .int y :: .int x :: rest) (hy : y ≠ 0) (go : Owe tb e below G T (mkF m (pc + 1) Ls (.int (x / y) :: rest))) : Owe tb e below G T (mkF m pc Ls st) := Owe.by (fun t k => XS.idiv h hx rfl hd hs hy k) go
theorem Owe.ineg (h : At T m c below) (hx : tb.exec = Jvm.exec) {x : Int32} {rest : List Value} (hd : decode c.code pc = .ok (.ineg, 1)) (hs : st = .int x :: rest) (go : Owe tb e below G T (mkF m (pc + 1) Ls (.int (-x) :: rest))) : Owe tb e below G T (mkF m pc Ls st) := Owe.by (fun t k => XS.ineg h hx rfl hd hs k) go
theorem Owe.iinc (h : At T m c below) (hx : tb.exec = Jvm.exec) {k : Nat} {cst : Int} {x : Int32} {l' : Array Slot} (hd : decode c.code pc = .ok (.iinc k cst, 3)) (hl : Ls[k]? = some (.val (.int x))) (hl' : storeLocals Ls k (.int (x + Int32.ofInt cst)) = some l') (go : Owe tb e below G T (mkF m (pc + 3) l' st)) : Owe tb e below G T (mkF m pc Ls st) := Owe.by (fun t k => XS.iinc h hx rfl hd hl hl' k) go
theorem Owe.dup (h : At T m c below) (hx : tb.exec = Jvm.exec) {x : Value} {rest : List Value} (hd : decode c.code pc = .ok (.dup, 1)) (hs : st = x :: rest) (hc : x.category = 1) (go : Owe tb e below G T (mkF m (pc + 1) Ls (x :: x :: rest))) : Owe tb e below G T (mkF m pc Ls st) := Owe.by (fun t k => XS.dup h hx rfl hd hs hc k) go
theorem Owe.pop (h : At T m c below) (hx : tb.exec = Jvm.exec) {x : Value} {rest : List Value} (hd : decode c.code pc = .ok (.pop, 1)) (hs : st = x :: rest) (hc : x.category = 1) (go : Owe tb e below G T (mkF m (pc + 1) Ls rest)) : Owe tb e below G T (mkF m pc Ls st) := Owe.by (fun t k => XS.pop h hx rfl hd hs hc k) go
theorem Owe.dupX1 (h : At T m c below) (hx : tb.exec = Jvm.exec) {x y : Value} {rest : List Value} (hd : decode c.code pc = .ok (.dup_x1, 1)) (hs : st = x :: y :: rest) (hc : x.category = 1) (hc2 : y.category = 1) (go : Owe tb e below G T (mkF m (pc + 1) Ls (x :: y :: x :: rest))) : Owe tb e below G T (mkF m pc Ls st) := Owe.by (fun t k => XS.dupX1 h hx rfl hd hs hc hc2 k) go
theorem Owe.dup2 (h : At T m c below) (hx : tb.exec = Jvm.exec) {x y : Value} {rest : List Value} (hd : decode c.code pc = .ok (.dup2, 1)) (hs : st = x :: y :: rest) (hc : x.category = 1) (hc' : y.category = 1) (go : Owe tb e below G T (mkF m (pc + 1) Ls (x :: y :: x :: y :: rest))) : Owe tb e below G T (mkF m pc Ls st) := Owe.by (fun t k => Jvm.Free.XT.dup2 h hx rfl hd hs hc hc' k) go
theorem Owe.istoreN (h : At T m c below) (hx : tb.exec = Jvm.exec) {k : Fin 4} {x : Int32} {rest : List Value} {l' : Array Slot} (hd : decode c.code pc = .ok (.istore_n k, 1)) (hs : st = .int x :: rest) (hl : storeLocals Ls k.val (.int x) = some l') (go : Owe tb e below G T (mkF m (pc + 1) l' rest)) : Owe tb e below G T (mkF m pc Ls st) := Owe.by (fun t k => XS.istoreN h hx rfl hd hs hl k) go
theorem Owe.istore (h : At T m c below) (hx : tb.exec = Jvm.exec) {k : Nat} {x : Int32} {rest : List Value} {l' : Array Slot} (hd : decode c.code pc = .ok (.istore k, 2)) (hs : st = .int x :: rest) (hl : storeLocals Ls k (.int x) = some l') (go : Owe tb e below G T (mkF m (pc + 2) l' rest)) : Owe tb e below G T (mkF m pc Ls st) := Owe.by (fun t k => XS.istore h hx rfl hd hs hl k) go
theorem Owe.astoreN (h : At T m c below) (hx : tb.exec = Jvm.exec) {k : Fin 4} {x : Value} {rest : List Value} {l' : Array Slot} (hd : decode c.code pc = .ok (.astore_n k, 1)) (hs : st = x :: rest) (hv : x.isRef = true) (hl : storeLocals Ls k.val x = some l') (go : Owe tb e below G T (mkF m (pc + 1) l' rest)) : Owe tb e below G T (mkF m pc Ls st) := Owe.by (fun t k => XS.astoreN h hx rfl hd hs hv hl k) go
theorem Owe.astore (h : At T m c below) (hx : tb.exec = Jvm.exec) {k : Nat} {x : Value} {rest : List Value} {l' : Array Slot} (hd : decode c.code pc = .ok (.astore k, 2)) (hs : st = x :: rest) (hv : x.isRef = true) (hl : storeLocals Ls k x = some l') (go : Owe tb e below G T (mkF m (pc + 2) l' rest)) : Owe tb e below G T (mkF m pc Ls st) := Owe.by (fun t k => XS.astore h hx rfl hd hs hv hl k) go
theorem Owe.goto (h : At T m c below) (hx : tb.exec = Jvm.exec) {o : Int} {pc' : Nat}  (hd : decode c.code pc = .ok (.goto o, 3)) (ho : 0 ≤ (pc : Int) + o) (hp : ((pc : Int) + o).toNat = pc') (go : Owe tb e below G T (mkF m pc' Ls st)) : Owe tb e below G T (mkF m pc Ls st) := Owe.by (fun t k => XS.goto h hx rfl rfl hd ho hp k) go
theorem Owe.ifYes (h : At T m c below) (hx : tb.exec = Jvm.exec) {cd : ClassFile.Cond} {x : Int32} {rest : List Value} {o : Int} {pc' : Nat}  (hd : decode c.code pc = .ok (.ifCond cd o, 3)) (hs : st = .int x :: rest) (hc : ifCond.holds cd x = true) (ho : 0 ≤ (pc : Int) + o) (hp : ((pc : Int) + o).toNat = pc') (go : Owe tb e below G T (mkF m pc' Ls rest)) : Owe tb e below G T (mkF m pc Ls st) := Owe.by (fun t k => XS.ifYes h hx rfl rfl hd hs hc ho hp k) go
theorem Owe.ifNo (h : At T m c below) (hx : tb.exec = Jvm.exec) {cd : ClassFile.Cond} {o : Int} {x : Int32} {rest : List Value} (hd : decode c.code pc = .ok (.ifCond cd o, 3)) (hs : st = .int x :: rest) (hc : ifCond.holds cd x = false) (go : Owe tb e below G T (mkF m (pc + 3) Ls rest)) : Owe tb e below G T (mkF m pc Ls st) := Owe.by (fun t k => XS.ifNo h hx rfl hd hs hc k) go
theorem Owe.icmpYes (h : At T m c below) (hx : tb.exec = Jvm.exec) {cd : ClassFile.Cond} {x y : Int32} {rest : List Value} {o : Int} {pc' : Nat}  (hd : decode c.code pc = .ok (.if_icmp cd o, 3)) (hs : st = .int y :: .int x :: rest) (hc : if_icmp.holds cd x y = true) (ho : 0 ≤ (pc : Int) + o) (hp : ((pc : Int) + o).toNat = pc') (go : Owe tb e below G T (mkF m pc' Ls rest)) : Owe tb e below G T (mkF m pc Ls st) := Owe.by (fun t k => XS.icmpYes h hx rfl rfl hd hs hc ho hp k) go
theorem Owe.icmpNo (h : At T m c below) (hx : tb.exec = Jvm.exec) {cd : ClassFile.Cond} {o : Int} {x y : Int32} {rest : List Value} (hd : decode c.code pc = .ok (.if_icmp cd o, 3)) (hs : st = .int y :: .int x :: rest) (hc : if_icmp.holds cd x y = false) (go : Owe tb e below G T (mkF m (pc + 3) Ls rest)) : Owe tb e below G T (mkF m pc Ls st) := Owe.by (fun t k => XS.icmpNo h hx rfl hd hs hc k) go
theorem Owe.ifnullYes (h : At T m c below) (hx : tb.exec = Jvm.exec) {rest : List Value} {o : Int} {pc' : Nat}  (hd : decode c.code pc = .ok (.ifnull o, 3)) (hs : st = .null :: rest) (ho : 0 ≤ (pc : Int) + o) (hp : ((pc : Int) + o).toNat = pc') (go : Owe tb e below G T (mkF m pc' Ls rest)) : Owe tb e below G T (mkF m pc Ls st) := Owe.by (fun t k => XS.ifnullYes h hx rfl rfl hd hs ho hp k) go
theorem Owe.ifnullNo (h : At T m c below) (hx : tb.exec = Jvm.exec) {o : Int} {b : Addr} {rest : List Value} (hd : decode c.code pc = .ok (.ifnull o, 3)) (hs : st = .ref b :: rest) (go : Owe tb e below G T (mkF m (pc + 3) Ls rest)) : Owe tb e below G T (mkF m pc Ls st) := Owe.by (fun t k => XS.ifnullNo h hx rfl hd hs k) go
theorem Owe.ifnonnullYes (h : At T m c below) (hx : tb.exec = Jvm.exec) {b : Addr} {rest : List Value} {o : Int} {pc' : Nat}  (hd : decode c.code pc = .ok (.ifnonnull o, 3)) (hs : st = .ref b :: rest) (ho : 0 ≤ (pc : Int) + o) (hp : ((pc : Int) + o).toNat = pc') (go : Owe tb e below G T (mkF m pc' Ls rest)) : Owe tb e below G T (mkF m pc Ls st) := Owe.by (fun t k => XS.ifnonnullYes h hx rfl rfl hd hs ho hp k) go
theorem Owe.ifnonnullNo (h : At T m c below) (hx : tb.exec = Jvm.exec) {o : Int} {rest : List Value} (hd : decode c.code pc = .ok (.ifnonnull o, 3)) (hs : st = .null :: rest) (go : Owe tb e below G T (mkF m (pc + 3) Ls rest)) : Owe tb e below G T (mkF m pc Ls st) := Owe.by (fun t k => XS.ifnonnullNo h hx rfl hd hs k) go
theorem Owe.acmpYes (h : At T m c below) (hx : tb.exec = Jvm.exec) {cd : ClassFile.ACond} {x y : Value} {rest : List Value} {o : Int} {pc' : Nat}  (hd : decode c.code pc = .ok (.if_acmp cd o, 3)) (hs : st = y :: x :: rest) (hx' : x.isRef = true) (hy' : y.isRef = true) (hc : Jvm.Free.XT.acmp cd x y = true) (ho : 0 ≤ (pc : Int) + o) (hp : ((pc : Int) + o).toNat = pc') (go : Owe tb e below G T (mkF m pc' Ls rest)) : Owe tb e below G T (mkF m pc Ls st) := Owe.by (fun t k => Jvm.Free.XT.acmpYes h hx rfl rfl hd hs hx' hy' hc ho hp k) go
theorem Owe.acmpNo (h : At T m c below) (hx : tb.exec = Jvm.exec) {cd : ClassFile.ACond} {o : Int} {x y : Value} {rest : List Value} (hd : decode c.code pc = .ok (.if_acmp cd o, 3)) (hs : st = y :: x :: rest) (hx' : x.isRef = true) (hy' : y.isRef = true) (hc : Jvm.Free.XT.acmp cd x y = false) (go : Owe tb e below G T (mkF m (pc + 3) Ls rest)) : Owe tb e below G T (mkF m pc Ls st) := Owe.by (fun t k => Jvm.Free.XT.acmpNo h hx rfl hd hs hx' hy' hc k) go
theorem Owe.ladd (h : At T m c below) (hx : tb.exec = Jvm.exec) {x : Int64} {y : Int64} {rest : List Value} (hd : decode c.code pc = .ok (.ladd, 1)) (hs : st = .long y :: .long x :: rest) (go : Owe tb e below G T (mkF m (pc + 1) Ls (.long (x + y) :: rest))) : Owe tb e below G T (mkF m pc Ls st) := Owe.by (fun t k => XS.ladd h hx rfl hd hs k) go
theorem Owe.lsub (h : At T m c below) (hx : tb.exec = Jvm.exec) {x : Int64} {y : Int64} {rest : List Value} (hd : decode c.code pc = .ok (.lsub, 1)) (hs : st = .long y :: .long x :: rest) (go : Owe tb e below G T (mkF m (pc + 1) Ls (.long (x - y) :: rest))) : Owe tb e below G T (mkF m pc Ls st) := Owe.by (fun t k => XS.lsub h hx rfl hd hs k) go
theorem Owe.lmul (h : At T m c below) (hx : tb.exec = Jvm.exec) {x : Int64} {y : Int64} {rest : List Value} (hd : decode c.code pc = .ok (.lmul, 1)) (hs : st = .long y :: .long x :: rest) (go : Owe tb e below G T (mkF m (pc + 1) Ls (.long (x * y) :: rest))) : Owe tb e below G T (mkF m pc Ls st) := Owe.by (fun t k => XS.lmul h hx rfl hd hs k) go
theorem Owe.land (h : At T m c below) (hx : tb.exec = Jvm.exec) {x : Int64} {y : Int64} {rest : List Value} (hd : decode c.code pc = .ok (.land, 1)) (hs : st = .long y :: .long x :: rest) (go : Owe tb e below G T (mkF m (pc + 1) Ls (.long (x &&& y) :: rest))) : Owe tb e below G T (mkF m pc Ls st) := Owe.by (fun t k => XS.land h hx rfl hd hs k) go
theorem Owe.lor (h : At T m c below) (hx : tb.exec = Jvm.exec) {x : Int64} {y : Int64} {rest : List Value} (hd : decode c.code pc = .ok (.lor, 1)) (hs : st = .long y :: .long x :: rest) (go : Owe tb e below G T (mkF m (pc + 1) Ls (.long (x ||| y) :: rest))) : Owe tb e below G T (mkF m pc Ls st) := Owe.by (fun t k => XS.lor h hx rfl hd hs k) go
theorem Owe.lxor (h : At T m c below) (hx : tb.exec = Jvm.exec) {x : Int64} {y : Int64} {rest : List Value} (hd : decode c.code pc = .ok (.lxor, 1)) (hs : st = .long y :: .long x :: rest) (go : Owe tb e below G T (mkF m (pc + 1) Ls (.long (x ^^^ y) :: rest))) : Owe tb e below G T (mkF m pc Ls st) := Owe.by (fun t k => XS.lxor h hx rfl hd hs k) go
theorem Owe.lshl (h : At T m c below) (hx : tb.exec = Jvm.exec) {x : Int64} {y : Int32} {rest : List Value} (hd : decode c.code pc = .ok (.lshl, 1)) (hs : st = .int y :: .long x :: rest) (go : Owe tb e below G T (mkF m (pc + 1) Ls (.long (x <<< (y &&& 0x3f).toInt64) :: rest))) : Owe tb e below G T (mkF m pc Ls st) := Owe.by (fun t k => XS.lshl h hx rfl hd hs k) go
theorem Owe.lshr (h : At T m c below) (hx : tb.exec = Jvm.exec) {x : Int64} {y : Int32} {rest : List Value} (hd : decode c.code pc = .ok (.lshr, 1)) (hs : st = .int y :: .long x :: rest) (go : Owe tb e below G T (mkF m (pc + 1) Ls (.long (x >>> (y &&& 0x3f).toInt64) :: rest))) : Owe tb e below G T (mkF m pc Ls st) := Owe.by (fun t k => XS.lshr h hx rfl hd hs k) go
theorem Owe.lushr (h : At T m c below) (hx : tb.exec = Jvm.exec) {x : Int64} {y : Int32} {rest : List Value} (hd : decode c.code pc = .ok (.lushr, 1)) (hs : st = .int y :: .long x :: rest) (go : Owe tb e below G T (mkF m (pc + 1) Ls (.long ((x.toUInt64 >>> (y &&& 0x3f).toInt64.toUInt64).toInt64) :: rest))) : Owe tb e below G T (mkF m pc Ls st) := Owe.by (fun t k => XS.lushr h hx rfl hd hs k) go
theorem Owe.lneg (h : At T m c below) (hx : tb.exec = Jvm.exec) {v : Int64} {rest : List Value} (hd : decode c.code pc = .ok (.lneg, 1)) (hs : st = .long v :: rest) (go : Owe tb e below G T (mkF m (pc + 1) Ls (.long (-v) :: rest))) : Owe tb e below G T (mkF m pc Ls st) := Owe.by (fun t k => XS.lneg h hx rfl hd hs k) go
theorem Owe.i2l (h : At T m c below) (hx : tb.exec = Jvm.exec) {v : Int32} {rest : List Value} (hd : decode c.code pc = .ok (.i2l, 1)) (hs : st = .int v :: rest) (go : Owe tb e below G T (mkF m (pc + 1) Ls (.long (v.toInt64) :: rest))) : Owe tb e below G T (mkF m pc Ls st) := Owe.by (fun t k => XS.i2l h hx rfl hd hs k) go
theorem Owe.l2i (h : At T m c below) (hx : tb.exec = Jvm.exec) {v : Int64} {rest : List Value} (hd : decode c.code pc = .ok (.l2i, 1)) (hs : st = .long v :: rest) (go : Owe tb e below G T (mkF m (pc + 1) Ls (.int (v.toInt32) :: rest))) : Owe tb e below G T (mkF m pc Ls st) := Owe.by (fun t k => XS.l2i h hx rfl hd hs k) go
theorem Owe.i2b (h : At T m c below) (hx : tb.exec = Jvm.exec) {v : Int32} {rest : List Value} (hd : decode c.code pc = .ok (.i2b, 1)) (hs : st = .int v :: rest) (go : Owe tb e below G T (mkF m (pc + 1) Ls (.int (v.toInt8.toInt32) :: rest))) : Owe tb e below G T (mkF m pc Ls st) := Owe.by (fun t k => XS.i2b h hx rfl hd hs k) go
theorem Owe.i2c (h : At T m c below) (hx : tb.exec = Jvm.exec) {v : Int32} {rest : List Value} (hd : decode c.code pc = .ok (.i2c, 1)) (hs : st = .int v :: rest) (go : Owe tb e below G T (mkF m (pc + 1) Ls (.int (v.toUInt32.toUInt16.toUInt32.toInt32) :: rest))) : Owe tb e below G T (mkF m pc Ls st) := Owe.by (fun t k => XS.i2c h hx rfl hd hs k) go
theorem Owe.i2s (h : At T m c below) (hx : tb.exec = Jvm.exec) {v : Int32} {rest : List Value} (hd : decode c.code pc = .ok (.i2s, 1)) (hs : st = .int v :: rest) (go : Owe tb e below G T (mkF m (pc + 1) Ls (.int (v.toInt16.toInt32) :: rest))) : Owe tb e below G T (mkF m pc Ls st) := Owe.by (fun t k => XS.i2s h hx rfl hd hs k) go
theorem Owe.lloadN (h : At T m c below) (hx : tb.exec = Jvm.exec) {k : Fin 4} {v : Int64} (hd : decode c.code pc = .ok (.lload_n k, 1)) (hl : Ls[k.val]? = some (.val (.long v))) (go : Owe tb e below G T (mkF m (pc + 1) Ls (.long v :: st))) : Owe tb e below G T (mkF m pc Ls st) := Owe.by (fun t k => XS.lloadN h hx rfl hd hl k) go
theorem Owe.lload (h : At T m c below) (hx : tb.exec = Jvm.exec) {k : Nat} {v : Int64} (hd : decode c.code pc = .ok (.lload k, 2)) (hl : Ls[k]? = some (.val (.long v))) (go : Owe tb e below G T (mkF m (pc + 2) Ls (.long v :: st))) : Owe tb e below G T (mkF m pc Ls st) := Owe.by (fun t k => XS.lload h hx rfl hd hl k) go
theorem Owe.lstoreN (h : At T m c below) (hx : tb.exec = Jvm.exec) {k : Fin 4} {x : Int64} {rest : List Value} {l' : Array Slot} (hd : decode c.code pc = .ok (.lstore_n k, 1)) (hs : st = .long x :: rest) (hl : storeLocals Ls k.val (.long x) = some l') (go : Owe tb e below G T (mkF m (pc + 1) l' rest)) : Owe tb e below G T (mkF m pc Ls st) := Owe.by (fun t k => XS.lstoreN h hx rfl hd hs hl k) go
theorem Owe.lstore (h : At T m c below) (hx : tb.exec = Jvm.exec) {k : Nat} {x : Int64} {rest : List Value} {l' : Array Slot} (hd : decode c.code pc = .ok (.lstore k, 2)) (hs : st = .long x :: rest) (hl : storeLocals Ls k (.long x) = some l') (go : Owe tb e below G T (mkF m (pc + 2) l' rest)) : Owe tb e below G T (mkF m pc Ls st) := Owe.by (fun t k => XS.lstore h hx rfl hd hs hl k) go
theorem Owe.lconst (h : At T m c below) (hx : tb.exec = Jvm.exec) {k : Fin 2} (hd : decode c.code pc = .ok (.lconst k, 1)) {w : Int64} (hw : (Int64.ofNat k) = w) (go : Owe tb e below G T (mkF m (pc + 1) Ls (.long w :: st))) : Owe tb e below G T (mkF m pc Ls st) := by subst hw; exact Owe.by (fun t k => XS.lconst h hx rfl hd k) go
theorem Owe.lcmp (h : At T m c below) (hx : tb.exec = Jvm.exec) {x y : Int64} {rest : List Value} (hd : decode c.code pc = .ok (.lcmp, 1)) (hs : st = .long y :: .long x :: rest) (go : Owe tb e below G T (mkF m (pc + 1) Ls (.int (lcmpW x y) :: rest))) : Owe tb e below G T (mkF m pc Ls st) := Owe.by (fun t k => XS.lcmp h hx rfl hd hs k) go
theorem Owe.tswIn (h : At T m c below) (hx : tb.exec = Jvm.exec) {dflt low high : Int} {offs : Array Int} {len : Nat} {o : Int} {pc' : Nat}  (hd : decode c.code pc = .ok (.tableswitch dflt low high offs, len)) {i : Int32} {rest : List Value} (hs : st = .int i :: rest) (hin : ¬ (i.toInt < low ∨ i.toInt > high)) (hoff : offs[(i.toInt - low).toNat]? = some o) (ho : 0 ≤ (pc : Int) + o) (hp : ((pc : Int) + o).toNat = pc') (go : Owe tb e below G T (mkF m pc' Ls rest)) : Owe tb e below G T (mkF m pc Ls st) := Owe.by (fun t k => XS.tswIn h hx rfl rfl hd hs hin hoff ho hp k) go
theorem Owe.tswOut (h : At T m c below) (hx : tb.exec = Jvm.exec) {dflt low high : Int} {offs : Array Int} {len : Nat} {pc' : Nat}  (hd : decode c.code pc = .ok (.tableswitch dflt low high offs, len)) {i : Int32} {rest : List Value} (hs : st = .int i :: rest) (hout : i.toInt < low ∨ i.toInt > high) (ho : 0 ≤ (pc : Int) + dflt) (hp : ((pc : Int) + dflt).toNat = pc') (go : Owe tb e below G T (mkF m pc' Ls rest)) : Owe tb e below G T (mkF m pc Ls st) := Owe.by (fun t k => XS.tswOut h hx rfl rfl hd hs hout ho hp k) go
theorem Owe.dload (h : At T m c below) (hx : tb.exec = Jvm.exec) {k : Nat} {v : UInt64} (hd : decode c.code pc = .ok (.dload k, 2)) (hl : Ls[k]? = some (.val (.double v))) (go : Owe tb e below G T (mkF m (pc + 2) Ls (.double v :: st))) : Owe tb e below G T (mkF m pc Ls st) := Owe.by (fun t k => XS.dload h hx rfl hd hl k) go
theorem Owe.dloadN (h : At T m c below) (hx : tb.exec = Jvm.exec) {k : Fin 4} {v : UInt64} (hd : decode c.code pc = .ok (.dload_n k, 1)) (hl : Ls[k.val]? = some (.val (.double v))) (go : Owe tb e below G T (mkF m (pc + 1) Ls (.double v :: st))) : Owe tb e below G T (mkF m pc Ls st) := Owe.by (fun t k => XS.dloadN h hx rfl hd hl k) go
theorem Owe.dstore (h : At T m c below) (hx : tb.exec = Jvm.exec) {k : Nat} {x : UInt64} {rest : List Value} {l' : Array Slot} (hd : decode c.code pc = .ok (.dstore k, 2)) (hs : st = .double x :: rest) (hl : storeLocals Ls k (.double x) = some l') (go : Owe tb e below G T (mkF m (pc + 2) l' rest)) : Owe tb e below G T (mkF m pc Ls st) := Owe.by (fun t k => XS.dstore h hx rfl hd hs hl k) go
theorem Owe.dstoreN (h : At T m c below) (hx : tb.exec = Jvm.exec) {k : Fin 4} {x : UInt64} {rest : List Value} {l' : Array Slot} (hd : decode c.code pc = .ok (.dstore_n k, 1)) (hs : st = .double x :: rest) (hl : storeLocals Ls k.val (.double x) = some l') (go : Owe tb e below G T (mkF m (pc + 1) l' rest)) : Owe tb e below G T (mkF m pc Ls st) := Owe.by (fun t k => XS.dstoreN h hx rfl hd hs hl k) go
theorem Owe.dconst0 (h : At T m c below) (hx : tb.exec = Jvm.exec) {v : UInt64} (hd : decode c.code pc = .ok (.dconst 0, 1)) (hv : FP.dconst0 = v) (go : Owe tb e below G T (mkF m (pc + 1) Ls (.double v :: st))) : Owe tb e below G T (mkF m pc Ls st) := Owe.by (fun t k => XS.dconst0 h hx rfl hd hv k) go
theorem Owe.dconst1 (h : At T m c below) (hx : tb.exec = Jvm.exec) {v : UInt64} (hd : decode c.code pc = .ok (.dconst 1, 1)) (hv : FP.dconst1 = v) (go : Owe tb e below G T (mkF m (pc + 1) Ls (.double v :: st))) : Owe tb e below G T (mkF m pc Ls st) := Owe.by (fun t k => XS.dconst1 h hx rfl hd hv k) go
theorem Owe.i2dS (h : At T m c below) (hx : tb.exec = Jvm.exec) {x : Int32} {v : UInt64} {rest : List Value} (hd : decode c.code pc = .ok (.i2d, 1)) (hs : st = .int x :: rest) (hv : FP.i2d x = v) (go : Owe tb e below G T (mkF m (pc + 1) Ls (.double v :: rest))) : Owe tb e below G T (mkF m pc Ls st) := Owe.by (fun t k => XS.i2dS h hx rfl hd hs hv k) go
theorem Owe.l2dS (h : At T m c below) (hx : tb.exec = Jvm.exec) {x : Int64} {v : UInt64} {rest : List Value} (hd : decode c.code pc = .ok (.l2d, 1)) (hs : st = .long x :: rest) (hv : FP.l2d x = v) (go : Owe tb e below G T (mkF m (pc + 1) Ls (.double v :: rest))) : Owe tb e below G T (mkF m pc Ls st) := Owe.by (fun t k => XS.l2dS h hx rfl hd hs hv k) go
theorem Owe.dcmpS (h : At T m c below) (hx : tb.exec = Jvm.exec) {o : CmpOp} {x y : UInt64} {v : Int32} {rest : List Value} (hd : decode c.code pc = .ok (.dcmp o, 1)) (hs : st = .double y :: .double x :: rest) (hv : cmpValue (FP.dcmp x y) o = v) (go : Owe tb e below G T (mkF m (pc + 1) Ls (.int v :: rest))) : Owe tb e below G T (mkF m pc Ls st) := Owe.by (fun t k => XS.dcmpS h hx rfl hd hs hv k) go
theorem Owe.daddS (h : At T m c below) (hx : tb.exec = Jvm.exec) {x y v : UInt64} {rest : List Value} (hd : decode c.code pc = .ok (.dadd, 1)) (hs : st = .double y :: .double x :: rest) (hn : Jvm.Free.Fl.NoNaN64 (FP.dadd x y)) (hv : FP.dadd x y = v) (go : Owe tb e below G T (mkF m (pc + 1) Ls (.double v :: rest))) : Owe tb e below G T (mkF m pc Ls st) := Owe.by (fun t k => XS.daddS h hx rfl hd hs hn hv k) go
theorem Owe.dmulS (h : At T m c below) (hx : tb.exec = Jvm.exec) {x y v : UInt64} {rest : List Value} (hd : decode c.code pc = .ok (.dmul, 1)) (hs : st = .double y :: .double x :: rest) (hn : Jvm.Free.Fl.NoNaN64 (FP.dmul x y)) (hv : FP.dmul x y = v) (go : Owe tb e below G T (mkF m (pc + 1) Ls (.double v :: rest))) : Owe tb e below G T (mkF m pc Ls st) := Owe.by (fun t k => XS.dmulS h hx rfl hd hs hn hv k) go
theorem Owe.ddivS (h : At T m c below) (hx : tb.exec = Jvm.exec) {x y v : UInt64} {rest : List Value} (hd : decode c.code pc = .ok (.ddiv, 1)) (hs : st = .double y :: .double x :: rest) (hn : Jvm.Free.Fl.NoNaN64 (FP.ddiv x y)) (hv : FP.ddiv x y = v) (go : Owe tb e below G T (mkF m (pc + 1) Ls (.double v :: rest))) : Owe tb e below G T (mkF m pc Ls st) := Owe.by (fun t k => XS.ddivS h hx rfl hd hs hn hv k) go
end Plain
section Heavy
variable {p : Program} {l : Launch} {e : Env} {R : Room} {s : State} {m : MethodId} {args : Array Value} {below : List Frame} {meth : Method} {c : Code} {T : State} {locs : List Loc} {cells slots : Nat} {Z : State} {a0 : Array Value} {h : Heap} {G : Outcome → State → Prop} {pc : Nat} {Ls : Array Slot} {st : List Value}
theorem Owe.ldcI (X : Stand p l e R s m args below meth c T locs cells slots) (hx : p.tables.exec = Jvm.exec) {own : String} {index : Nat} {v : Int32} (hown : s.vm.findClass own = some m.cls) (w : (Cond.constant own index v).before args s = true) (hd : decode c.code pc = .ok (.ldc index, 2)) (go : Owe p.tables e below G T (mkF m (pc + 2) Ls (.int v :: st))) : Owe p.tables e below G T (mkF m pc Ls st) :=
  Owe.by (X.ldcInt hx hown w (g := mkF m pc Ls st) rfl hd) go
theorem Owe.new (X : Stand p l e R s m args below meth c T locs cells slots) (hx : p.tables.exec = Jvm.exec) (hZ : Z.Warmed39 s.vm) {own C : String} {index n : Nat} (hown : s.vm.findClass own = some m.cls) (w : (Cond.classLink own index C).before a0 Z = true) (wi : (Cond.instantiable C n).before a0 Z = true) (wz : (Cond.initialized C).before a0 Z = true) (eT : T.heap = h) (hd : decode c.code pc = .ok (.new index, 3)) (hc : cells + 1 ≤ R.cells) (hl : slots + n ≤ R.slots)
    (go : ∀ (T' : State) (h' : Heap) (a : Addr), a = h.size → Stand p l e R s m args below meth c T' locs (cells + 1) (slots + n) → T'.heap = h' → Ext h h' → Exa Z h' a C → (∀ {O nm d : String} {ty : FieldType}, Laid Z a0 C O nm d → parseFieldDescriptor d = some ty → Fld Z h' a O nm d (defaultValue ty)) → Owe p.tables e below G T' (mkF m (pc + 3) Ls (.ref a :: st))) : Owe p.tables e below G T (mkF m pc Ls st) := by
  obtain ⟨T', h', X', e', E', A', D', -, st'⟩ := newO X hx hZ hown w wi wz eT (g := mkF m pc Ls st) rfl hd hc hl
  exact Owe.by st' (go T' h' _ rfl X' e' E' A' D')
theorem Owe.newarr (X : Stand p l e R s m args below meth c T locs cells slots) (hx : p.tables.exec = Jvm.exec) (hZ : Z.Warmed39 s.vm) {aty : ArrayType} (w : (Cond.arrayClass (newarray.typeOf aty)).before a0 Z = true) (eT : T.heap = h) (hd : decode c.code pc = .ok (.newarray aty, 2)) {n : Int32} {rest : List Value} (hs : st = .int n :: rest) (hn : ¬ n < 0) {cap : Nat} (hcap : n.toNatClampNeg ≤ cap) (hb : cap * 8 ≤ 536870912) (hc : cells + 1 ≤ R.cells) (hl : slots + cap ≤ R.slots)
    (go : ∀ (T' : State) (h' : Heap) (a : Addr) (k : ClassId), a = h.size → Stand p l e R s m args below meth c T' locs (cells + 1) (slots + cap) → T'.heap = h' → Ext h h' → Arv Z h' a k (newarray.typeOf aty) n [] (defaultValue (newarray.typeOf aty)) → Owe p.tables e below G T' (mkF m (pc + 2) Ls (.ref a :: rest))) : Owe p.tables e below G T (mkF m pc Ls st) := by
  obtain ⟨T', h', k, X', e', E', A', st'⟩ := newP X hx hZ w eT (g := mkF m pc Ls st) rfl hd hs hn hcap hb hc hl
  exact Owe.by st' (go T' h' _ k rfl X' e' E' (Arv.new A' hn))
theorem Owe.castore (X : Stand p l e R s m args below meth c T locs cells slots) (hx : p.tables.exec = Jvm.exec) (hZ : Z.Warmed39 s.vm) (eT : T.heap = h) {a : Addr} {k : ClassId} {n : Int32} {vs : List Value} {dv : Value} (V : Arv Z h a k .char n vs dv) {j x : Int32} (i : Nat) (hj : j.toNatClampNeg = i) (hi : i < vs.length) (hin : ¬ j < 0 ∧ j < n) (hd : decode c.code pc = .ok (.castore, 1)) {rest : List Value} (hs : st = .int x :: .int j :: .ref a :: rest)
    (go : ∀ (T' : State) (h' : Heap), Stand p l e R s m args below meth c T' (locs ++ [⟨a, j.toNatClampNeg⟩]) cells slots → T'.heap = h' → Wr h h' a j.toNatClampNeg (.int (nar .char x)) → Arv Z h' a k .char n (vs.set i (.int (nar .char x))) dv → Owe p.tables e below G T' (mkF m (pc + 1) Ls rest)) : Owe p.tables e below G T (mkF m pc Ls st) := by
  obtain ⟨cl, A, q, S, M, H, U⟩ := V
  obtain ⟨T', h', X', e', W', st'⟩ := stC X hx hZ eT A (j := j) (inb_of S hin) (g := mkF m pc Ls st) rfl hs hd
  exact Owe.by st' (go T' h' X' e' W' (Arv.set A q S M H U (fits_nar_char _) W' i hj hi))
theorem Owe.bastore (X : Stand p l e R s m args below meth c T locs cells slots) (hx : p.tables.exec = Jvm.exec) (hZ : Z.Warmed39 s.vm) (eT : T.heap = h) {a : Addr} {k : ClassId} {n : Int32} {vs : List Value} {dv : Value} (V : Arv Z h a k .byte n vs dv) {j x : Int32} (i : Nat) (hj : j.toNatClampNeg = i) (hi : i < vs.length) (hin : ¬ j < 0 ∧ j < n) (hd : decode c.code pc = .ok (.bastore, 1)) {rest : List Value} (hs : st = .int x :: .int j :: .ref a :: rest)
    (go : ∀ (T' : State) (h' : Heap), Stand p l e R s m args below meth c T' (locs ++ [⟨a, j.toNatClampNeg⟩]) cells slots → T'.heap = h' → Wr h h' a j.toNatClampNeg (.int (x.toInt8.toInt32)) → Arv Z h' a k .byte n (vs.set i (.int (x.toInt8.toInt32))) dv → Owe p.tables e below G T' (mkF m (pc + 1) Ls rest)) : Owe p.tables e below G T (mkF m pc Ls st) := by
  obtain ⟨cl, A, q, S, M, H, U⟩ := V
  obtain ⟨T', h', X', e', W', st'⟩ := stB X hx hZ eT A (j := j) (inb_of S hin) (g := mkF m pc Ls st) rfl hs hd
  exact Owe.by st' (go T' h' X' e' W' (Arv.set A q S M H U (fits_nar_byte _) W' i hj hi))
theorem Owe.caload (X : Stand p l e R s m args below meth c T locs cells slots) (hx : p.tables.exec = Jvm.exec) (hZ : Z.Warmed39 s.vm) (eT : T.heap = h) {a : Addr} {k : ClassId} {n : Int32} {vs : List Value} {dv : Value} (V : Arv Z h a k .char n vs dv) {j : Int32} {v : Value} (hin : ¬ j < 0 ∧ j < n) (hv : vs.getD j.toNatClampNeg dv = v) (hd : decode c.code pc = .ok (.caload, 1)) {rest : List Value} (hs : st = .int j :: .ref a :: rest)
    (go : Owe p.tables e below G T (mkF m (pc + 1) Ls (v :: rest))) : Owe p.tables e below G T (mkF m pc Ls st) := by
  obtain ⟨cl, A, q, S, M, H, U⟩ := V
  exact Owe.by (fun t k => X.caload hx (by rw [eT]; exact A.1) (State.isArrayOf_alike hZ.alike A.2.1) A.2.2 (inb_of S hin) (H.at (inb_of S hin) hv) (g := mkF m pc Ls st) rfl hs hd t k) go
theorem Owe.baload (X : Stand p l e R s m args below meth c T locs cells slots) (hx : p.tables.exec = Jvm.exec) (hZ : Z.Warmed39 s.vm) (eT : T.heap = h) {a : Addr} {k : ClassId} {n : Int32} {vs : List Value} {dv : Value} (V : Arv Z h a k .byte n vs dv) {j : Int32} {v : Value} (hin : ¬ j < 0 ∧ j < n) (hv : vs.getD j.toNatClampNeg dv = v) (hd : decode c.code pc = .ok (.baload, 1)) {rest : List Value} (hs : st = .int j :: .ref a :: rest)
    (go : Owe p.tables e below G T (mkF m (pc + 1) Ls (v :: rest))) : Owe p.tables e below G T (mkF m pc Ls st) := by
  obtain ⟨cl, A, q, S, M, H, U⟩ := V
  exact Owe.by (fun t k => X.baloadBytes hx (by rw [eT]; exact A.1) (State.isArrayOf_alike hZ.alike A.2.1) A.2.2 (inb_of S hin) (H.at (inb_of S hin) hv) (g := mkF m pc Ls st) rfl hs hd t k) go
theorem Owe.arrlen (X : Stand p l e R s m args below meth c T locs cells slots) (hx : p.tables.exec = Jvm.exec) (hZ : Z.Warmed39 s.vm) (eT : T.heap = h) {a : Addr} {k : ClassId} {ty : FieldType} {n : Int32} {vs : List Value} {dv : Value} (V : Arv Z h a k ty n vs dv) (hd : decode c.code pc = .ok (.arraylength, 1)) {rest : List Value} (hs : st = .ref a :: rest)
    (go : Owe p.tables e below G T (mkF m (pc + 1) Ls (.int n :: rest))) : Owe p.tables e below G T (mkF m pc Ls st) := by
  obtain ⟨cl, A, q, S, M, H, U⟩ := V
  refine Owe.by (fun t k => X.arraylength hx (by rw [eT]; exact A.1) (State.isArrayOf_alike hZ.alike A.2.1) (g := mkF m pc Ls st) rfl hs hd t ?_) go
  rw [len_of S M]; exact k
theorem Owe.getf (X : Stand p l e R s m args below meth c T locs cells slots) (hx : p.tables.exec = Jvm.exec) (hZ : Z.Warmed39 s.vm) {own R0 O n d host : String} {index : Nat} (hown : s.vm.findClass own = some m.cls) (w : (Cond.fieldLink own index R0 n d).before a0 Z = true ∨ (Cond.fieldLinkNest own index R0 n d host).before a0 Z = true) (via : Via Z R0 O n d) (eT : T.heap = h) {a : Addr} {v : Value} (F : Fld Z h a O n d v) (hd : decode c.code pc = .ok (.getfield index, 3)) {rest : List Value} (hs : st = .ref a :: rest)
    (go : ∀ T' : State, Stand p l e R s m args below meth c T' locs cells slots → T'.heap = h → Owe p.tables e below G T' (mkF m (pc + 3) Ls (v :: rest))) : Owe p.tables e below G T (mkF m pc Ls st) := by
  obtain ⟨T', X', e', st'⟩ := getF X hx hZ hown w via eT F (g := mkF m pc Ls st) rfl hs hd
  exact Owe.by st' (go T' X' e')
theorem Owe.gets (X : Stand p l e R s m args below meth c T locs cells slots) (hx : p.tables.exec = Jvm.exec) (hZ : Z.Warmed39 s.vm) {own R0 O n d : String} {index : Nat} (hown : s.vm.findClass own = some m.cls) (w : (Cond.fieldLink own index R0 n d).before a0 Z = true) (via : Via Z R0 O n d) (eT : T.heap = h) {v : Value} (F : Sta Z h O n d v) (hd : decode c.code pc = .ok (.getstatic index, 3))
    (go : ∀ T' : State, Stand p l e R s m args below meth c T' locs cells slots → T'.heap = h → Owe p.tables e below G T' (mkF m (pc + 3) Ls (v :: st))) : Owe p.tables e below G T (mkF m pc Ls st) := by
  obtain ⟨T', X', e', st'⟩ := getS X hx hZ (host := "") hown w via eT F (g := mkF m pc Ls st) rfl hd
  exact Owe.by st' (go T' X' e')
theorem Owe.putf (X : Stand p l e R s m args below meth c T locs cells slots) (hx : p.tables.exec = Jvm.exec) (hZ : Z.Warmed39 s.vm) {own R0 O n d host C : String} {index kk : Nat} {ty : FieldType} (hown : s.vm.findClass own = some m.cls) (w : (Cond.fieldLink own index R0 n d).before a0 Z = true ∨ (Cond.fieldLinkNest own index R0 n d host).before a0 Z = true) (via : Via Z R0 O n d) (eT : T.heap = h) {a : Addr} {v old : Value} (F : Fld Z h a O n d old) (E : Exa Z h a C)
    (L : (Cond.lays C O n d).before a0 Z = true ∨ ((Cond.laysFinal C O n d).before a0 Z = true ∧ own = O ∧ meth.name = "<init>")) (wi : (Cond.instantiable C kk).before a0 Z = true) (hty : parseFieldDescriptor d = some ty) (hn : narrow ty v = v) (hf : fits ty v = true) (hd : decode c.code pc = .ok (.putfield index, 3)) {rest : List Value} (hs : st = v :: .ref a :: rest)
    (go : ∀ (T' : State) (h' : Heap), Stand p l e R s m args below meth c T' (locs ++ [⟨a, Jvm.RoadKit.slotOf Z O n d⟩]) cells slots → T'.heap = h' → Wr h h' a (Jvm.RoadKit.slotOf Z O n d) v → Owe p.tables e below G T' (mkF m (pc + 3) Ls rest)) : Owe p.tables e below G T (mkF m pc Ls st) := by
  obtain ⟨T', h', X', e', W', st'⟩ := putF X hx hZ hown w via eT F E L wi hty hn hf (g := mkF m pc Ls st) rfl hs hd
  exact Owe.by st' (go T' h' X' e' W')
theorem Owe.objinit (X : Stand p l e R s m args below meth c T locs cells slots) (hx : p.tables.exec = Jvm.exec) (hZ : Z.Warmed39 s.vm) {own : String} {idx : Nat} (hown : s.vm.findClass own = some m.cls) (w1 : (Cond.methodLink own idx Lib.objectInit).before a0 Z = true) (w2 : (Cond.instanceMethod Lib.objectInit).before a0 Z = true) (w3 : (Cond.code Lib.objectInit ⟨#[0xb1]⟩ 1 none).before a0 Z = true) (eT : T.heap = h) (hsize : Ls.size = c.maxLocals) {a : Addr} {rest : List Value} (hs : st = .ref a :: rest) (hd : decode c.code pc = .ok (.invokespecial idx, 3)) (hf : 1 ≤ R.frames) {W : Nat} (hW : (rest.map fun v => v.category).sum ≤ W) (hl : W + 12 ≤ R.locals)
    (go : ∀ T' : State, Stand p l e R s m args below meth c T' locs cells slots → T'.heap = h → Owe p.tables e below G T' (mkF m (pc + 3) Ls rest)) : Owe p.tables e below G T (mkF m pc Ls st) := by
  obtain ⟨T', X', e', st'⟩ := initO X hx hZ hown w1 w2 w3 eT (g := mkF m pc Ls st) rfl hsize hs hd hf (W := W) (by show 2 * 0 + _ ≤ W; omega) hl
  exact Owe.by st' (go T' X' e')
theorem Owe.castY (X : Stand p l e R s m args below meth c T locs cells slots) (hx : p.tables.exec = Jvm.exec) (hZ : Z.Warmed39 s.vm) {own K : String} {index : Nat} (hown : s.vm.findClass own = some m.cls) (w : (Cond.classLink own index K).before a0 Z = true) (eT : T.heap = h) {a : Addr} (F : Ins Z h a K true) (hd : decode c.code pc = .ok (.checkcast index, 3)) {rest : List Value} (hs : st = .ref a :: rest)
    (go : ∀ T' : State, Stand p l e R s m args below meth c T' locs cells slots → T'.heap = h → Owe p.tables e below G T' (mkF m (pc + 3) Ls st)) : Owe p.tables e below G T (mkF m pc Ls st) := by
  obtain ⟨T', X', e', st'⟩ := Jvm.RoadKit.castY X hx hZ hown w eT F (g := mkF m pc Ls st) rfl hs hd
  exact Owe.by st' (go T' X' e')
theorem Owe.instY (X : Stand p l e R s m args below meth c T locs cells slots) (hx : p.tables.exec = Jvm.exec) (hZ : Z.Warmed39 s.vm) {own K : String} {index : Nat} (hown : s.vm.findClass own = some m.cls) (w : (Cond.classLink own index K).before a0 Z = true) (eT : T.heap = h) {a : Addr} (F : Ins Z h a K true) (hd : decode c.code pc = .ok (.instanceof index, 3)) {rest : List Value} (hs : st = .ref a :: rest)
    (go : ∀ T' : State, Stand p l e R s m args below meth c T' locs cells slots → T'.heap = h → Owe p.tables e below G T' (mkF m (pc + 3) Ls (.int 1 :: rest))) : Owe p.tables e below G T (mkF m pc Ls st) := by
  obtain ⟨T', X', e', st'⟩ := Jvm.RoadKit.instY X hx hZ hown w eT F (g := mkF m pc Ls st) rfl hs hd
  exact Owe.by st' (go T' X' e')
theorem Owe.instNo (X : Stand p l e R s m args below meth c T locs cells slots) (hx : p.tables.exec = Jvm.exec) (hZ : Z.Warmed39 s.vm) {own K C : String} {index : Nat} (hown : s.vm.findClass own = some m.cls) (w : (Cond.classLink own index K).before a0 Z = true) (eT : T.heap = h) {a : Addr} (E : Exa Z h a C) (F : ∃ c t, Z.vm.findClass C = some c ∧ Z.vm.findClass K = some t ∧ Z.vm.assignable c t = false) (hd : decode c.code pc = .ok (.instanceof index, 3)) {rest : List Value} (hs : st = .ref a :: rest)
    (go : ∀ T' : State, Stand p l e R s m args below meth c T' locs cells slots → T'.heap = h → Owe p.tables e below G T' (mkF m (pc + 3) Ls (.int 0 :: rest))) : Owe p.tables e below G T (mkF m pc Ls st) := by
  obtain ⟨T', X', e', st'⟩ := Jvm.RoadKit.instNo X hx hZ hown w eT E F (g := mkF m pc Ls st) rfl hs hd
  exact Owe.by st' (go T' X' e')
theorem Owe.instNull (X : Stand p l e R s m args below meth c T locs cells slots) (hx : p.tables.exec = Jvm.exec) {index : Nat} (hd : decode c.code pc = .ok (.instanceof index, 3)) {rest : List Value} (hs : st = .null :: rest) (go : Owe p.tables e below G T (mkF m (pc + 3) Ls (.int 0 :: rest))) : Owe p.tables e below G T (mkF m pc Ls st) :=
  Owe.by (Jvm.Stand.instanceofNull X hx (g := mkF m pc Ls st) rfl hs hd) go
theorem Owe.aaload (X : Stand p l e R s m args below meth c T locs cells slots) (hx : p.tables.exec = Jvm.exec) (hZ : Z.Warmed39 s.vm) (eT : T.heap = h) {a : Addr} {cl : Cell} {ty : FieldType} (A : Jvm.RoadKit.Arr Z h a cl ty) (hty : ty.isReference = true) {j : Int32} {v : Value} (hin : ¬ (j < 0 ∨ cl.slots.size ≤ j.toNatClampNeg)) (hv : cl.slots[j.toNatClampNeg]? = some v) (hd : decode c.code pc = .ok (.aaload, 1)) {rest : List Value} (hs : st = .int j :: .ref a :: rest)
    (go : Owe p.tables e below G T (mkF m (pc + 1) Ls (v :: rest))) : Owe p.tables e below G T (mkF m pc Ls st) :=
  Owe.by (fun t k => X.aaload hx (by rw [eT]; exact A.1) (State.isArrayOf_alike hZ.alike A.2.1) hty A.2.2 hin hv (g := mkF m pc Ls st) rfl hs hd t k) go
theorem Owe.aaloadV (X : Stand p l e R s m args below meth c T locs cells slots) (hx : p.tables.exec = Jvm.exec) (hZ : Z.Warmed39 s.vm) (eT : T.heap = h) {a : Addr} {k : ClassId} {ty : FieldType} {n : Int32} {vs : List Value} {dv : Value} (V : Arv Z h a k ty n vs dv) (hty : ty.isReference = true) {j : Int32} {v : Value} (hin : ¬ j < 0 ∧ j < n) (hv : vs.getD j.toNatClampNeg dv = v) (hd : decode c.code pc = .ok (.aaload, 1)) {rest : List Value} (hs : st = .int j :: .ref a :: rest)
    (go : Owe p.tables e below G T (mkF m (pc + 1) Ls (v :: rest))) : Owe p.tables e below G T (mkF m pc Ls st) := by
  obtain ⟨cl, A, q, S, M, H, U⟩ := V
  exact Owe.aaload X hx hZ eT A hty (inb_of S hin) (H.at (inb_of S hin) hv) hd hs go
theorem Owe.ldc2L (X : Stand p l e R s m args below meth c T locs cells slots) (hx : p.tables.exec = Jvm.exec) {own : String} {index : Nat} {v : Int64} (hown : s.vm.findClass own = some m.cls) (w : (Cond.constantLong own index v).before args s = true) (hd : decode c.code pc = .ok (.ldc2_w index, 3)) (go : Owe p.tables e below G T (mkF m (pc + 3) Ls (.long v :: st))) : Owe p.tables e below G T (mkF m pc Ls st) :=
  Owe.by (X.ldc2Long hx hown w (g := mkF m pc Ls st) rfl hd) go
theorem Owe.clone (X : Stand p l e R s m args below meth c T locs cells slots) (hx : p.tables.exec = Jvm.exec) (hZ : Z.Warmed39 s.vm) {own ad : String} {index : Nat} (hown : s.vm.findClass own = some m.cls) (w1 : (Cond.methodLink own index ⟨ad, "clone", "()Ljava/lang/Object;"⟩).before a0 Z = true) (w2 : (Cond.sameMethod ad "java/lang/Object" "clone" "()Ljava/lang/Object;").before a0 Z = true) (w3 : (Cond.native ⟨"java/lang/Object", "clone", "()Ljava/lang/Object;"⟩).before a0 Z = true)
    (w4 : (Cond.instanceMethod ⟨"java/lang/Object", "clone", "()Ljava/lang/Object;"⟩).before a0 Z = true) (w5 : (Cond.selects ad ⟨ad, "clone", "()Ljava/lang/Object;"⟩ ⟨"java/lang/Object", "clone", "()Ljava/lang/Object;"⟩).before a0 Z = true) (w6 : (Cond.castable ad "java/lang/Cloneable").before a0 Z = true)
    (eT : T.heap = h) {a : Addr} {k : ClassId} {ty : FieldType} {n : Int32} {vs : List Value} {dv : Value} (V : Arv Z h a k ty n vs dv) (E : Exa Z h a ad) (hsize : Ls.size = c.maxLocals) {rest : List Value} (hs : st = .ref a :: rest) (hd : decode c.code pc = .ok (.invokevirtual index, 3))
    (hf : 1 ≤ R.frames) {W cap : Nat} (hW : (rest.map fun v => v.category).sum ≤ W) (hl : W + 14 ≤ R.locals) (hcap : n.toNatClampNeg ≤ cap) (hc : cells + 1 ≤ R.cells) (hsl : slots + cap ≤ R.slots)
    (go : ∀ (T' : State) (h' : Heap) (b : Addr), b = h.size → Stand p l e R s m args below meth c T' locs (cells + 1) (slots + cap) → T'.heap = h' → Ext h h' → Arv Z h' b k ty n vs dv → Exa Z h' b ad → Owe p.tables e below G T' (mkF m (pc + 3) Ls (.ref b :: rest))) : Owe p.tables e below G T (mkF m pc Ls st) := by
  obtain ⟨T', h', X', e', E', A', B', st'⟩ := cloneH X hx hZ hown w1 w2 w3 w4 w5 w6 eT V.arh E (g := mkF m pc Ls st) rfl hsize hs hd hf (W := W) (by show 2 * 0 + _ ≤ W; omega) hl hcap hc hsl
  exact Owe.by st' (go T' h' _ rfl X' e' E' A' B')
/-! calls by a contract in the Back form of 'backOf' and of the pasted String laws -/
variable {y z : MethodName} {as' : Array Value} {Q : Option Value → Heap → List Loc → Prop} {W kc ks : Nat}
theorem Owe.special (X : Stand p l e R s m args below meth c T locs cells slots) (hx : p.tables.exec = Jvm.exec) {own : String} {index : Nat} (hy1 : y.name = "<init>") (hown : s.vm.findClass own = some m.cls) (hlink : (Cond.methodLink own index y).before args s = true) (hinst : (Cond.instanceMethod y).before args s = true) {bytes : ByteArray} {maxL : Nat} (hcode : (Cond.code y bytes maxL none).before args s = true) (hy : y.cls ≠ "java/lang/invoke/MethodHandle" ∧ y.cls ≠ "java/lang/invoke/VarHandle")
    (hK : Back l R p e below s args y 3 W (fun A a => a = as' ∧ A.U.heap = h ∧ A.cells + kc ≤ R.cells ∧ A.slots + ks ≤ R.slots) (fun A _ v B => ∃ L, Q v B.U.heap L ∧ B.locs = A.locs ++ L ∧ B.cells = A.cells + kc ∧ B.slots = A.slots + ks))
    (hsize : Ls.size = c.maxLocals) {a : Addr} {argsL rest : List Value} (hlen : ∀ sig, parseMethodDescriptor y.desc = some sig → argsL.length = sig.parameters.length) (hs : st = argsL.reverse ++ .ref a :: rest) (hW : (rest.map fun v => v.category).sum ≤ W) (hd : decode c.code pc = .ok (.invokespecial index, 3))
    (has : (.ref a :: argsL).toArray = as') (eT : T.heap = h) (hc : cells + kc ≤ R.cells) (hl : slots + ks ≤ R.slots)
    (go : ∀ (T' : State) (v : Option Value) (L : List Loc), Stand p l e R s m args below meth c T' (locs ++ L) (cells + kc) (slots + ks) → Q v T'.heap L → Owe p.tables e below G T' (mkF m (pc + 3) Ls (v.toList ++ rest))) : Owe p.tables e below G T (mkF m pc Ls st) := by
  obtain ⟨v, _, ⟨T', L', k', n'⟩, -, X', ⟨L, hQ, l', y', z'⟩, st'⟩ := X.specialBack hx hy1 hown hlink hinst hcode hy hK (g := mkF m pc Ls st) rfl hsize (Steps.refl _) hlen hs (by show 2 * 0 + _ ≤ W; omega) hd (fun _ _ => ⟨has, eT, hc, hl⟩)
  dsimp only [Pt.U, Pt.locs, Pt.cells, Pt.slots] at X' l' y' z' st' hQ
  subst l' y' z'
  exact Owe.by (fun t k => st'.trans k) (go T' v L X' hQ)
theorem Owe.specialRef (X : Stand p l e R s m args below meth c T locs cells slots) (hx : p.tables.exec = Jvm.exec) (hZ : Z.Warmed39 s.vm) {own : String} {index : Nat} (hy1 : y.name = "<init>") (hown : s.vm.findClass own = some m.cls) (href : (Cond.methodRef own index y).before a0 Z = true) (hinst : (Cond.instanceMethod y).before a0 Z = true) {bytes : ByteArray} {maxL : Nat} (hcode : (Cond.code y bytes maxL none).before a0 Z = true) (hy : y.cls ≠ "java/lang/invoke/MethodHandle" ∧ y.cls ≠ "java/lang/invoke/VarHandle")
    (hK : Back l R p e below s args y 3 W (fun A a => a = as' ∧ A.U.heap = h ∧ A.cells + kc ≤ R.cells ∧ A.slots + ks ≤ R.slots) (fun A _ v B => ∃ L, Q v B.U.heap L ∧ B.locs = A.locs ++ L ∧ B.cells = A.cells + kc ∧ B.slots = A.slots + ks))
    (hsize : Ls.size = c.maxLocals) {a : Addr} {argsL rest : List Value} (hlen : ∀ sig, parseMethodDescriptor y.desc = some sig → argsL.length = sig.parameters.length) (hs : st = argsL.reverse ++ .ref a :: rest) (hW : (rest.map fun v => v.category).sum ≤ W) (hd : decode c.code pc = .ok (.invokespecial index, 3))
    (has : (.ref a :: argsL).toArray = as') (eT : T.heap = h) (hc : cells + kc ≤ R.cells) (hl : slots + ks ≤ R.slots)
    (go : ∀ (T' : State) (v : Option Value) (L : List Loc), Stand p l e R s m args below meth c T' (locs ++ L) (cells + kc) (slots + ks) → Q v T'.heap L → Owe p.tables e below G T' (mkF m (pc + 3) Ls (v.toList ++ rest))) : Owe p.tables e below G T (mkF m pc Ls st) := by
  have hU : Z.Warmed39 T.vm := wtrans hZ X.warmed
  obtain ⟨obj, methO, hnO, hmO, hstO, habO⟩ := Cond.instanceMethod_spec hinst
  obtain ⟨methO', cO, hmO', hcO, hbO, hlO, -, hlockO, -, hsigO⟩ := Cond.code_spec hnO hcode
  cases hmO.symm.trans hmO'
  obtain ⟨kO, hkO, hnameO⟩ := className_of_methodNamed hnO
  obtain ⟨hnameMO, hdescO⟩ := name_of_methodNamed hnO hmO
  have href' := Cond.methodRef_warmed39 (vm' := T.vm) hU hnO hy href
  have hownT : (Z.setVm T.vm).vm.findClass own = some m.cls := by show T.vm.findClass own = _; rw [X.warmed.alike.findClass]; exact hown
  have hnT : (Z.setVm T.vm).methodNamed? y = some obj := by rw [State.methodNamed?_setVm hU.alike]; exact hnO
  obtain ⟨m', c', hf, hready, hfind, hnr⟩ := Cond.methodRef_named e hownT href'
  have hfo := State.methodFound?_of_named hnT hy
  cases hfo.symm.trans hf
  cases (findClass_of_methodNamed hnT).symm.trans hfind
  obtain ⟨kO₂, hkO₂, heO₂⟩ := hU.alike.2.2 _ _ hkO
  have hmO₂ : T.vm.method? obj = some methO := by rw [hU.alike.method?]; exact hmO
  have hfound : lookupSpecial T.vm obj.cls "<init>" methO.desc = .method obj := by
    rw [hU.alike.lookupSpecial, hdescO, ← hy1]; exact lookupSpecial_of_named hnO hmO hstO
  obtain ⟨v, ⟨T', L', k', n'⟩, X', ⟨L, hQ, l', y', z'⟩, st'⟩ := hK m meth c ⟨T, locs, cells, slots⟩ (mkF m pc Ls rest) (.invokespecial index) obj (.ref a :: argsL).toArray X rfl hsize hd (by show 2 * 0 + (rest.map fun v => v.category).sum ≤ W; omega) hnT ⟨has, eT, hc, hl⟩
  dsimp only [Pt.U, Pt.locs, Pt.cells, Pt.slots] at X' l' y' z' st' hQ
  subst l' y' z'
  refine Owe.by (fun t k => ?_) (go T' v L X' hQ)
  have hstep : ∀ target, (∀ acts, Steps p.tables e below (doInvoke e (T.setTop (mkF m pc Ls rest)) acts obj (.ref a :: argsL).toArray).1 target) → Steps p.tables e below (T.setTop (mkF m pc Ls st)) target := fun target hrest => by
    jvm_step X.here [hx, hd, invokespecial.wp_init (e := e) (s := T) (k := kO₂) (meth := methO) (m := obj) (a := a) (args := argsL) (rest := rest) (f := mkF m pc Ls st)
      X.here.top hnr hready hkO₂ hmO₂ (by rw [hnameMO]; exact hy1) hstO habO hfound (hlen _ hsigO) hs]
    exact hrest
  exact hstep _ fun acts => by rw [doInvoke_state]; exact st'.trans k
theorem Owe.virt (X : Stand p l e R s m args below meth c T locs cells slots) (hx : p.tables.exec = Jvm.exec) (hZ : Z.Warmed39 s.vm) {own C : String} {index : Nat} (hown : s.vm.findClass own = some m.cls) (hlink : (Cond.methodLink own index y).before args s = true) (hdecl : (Cond.declares y).before args s = true) (hsel : (Cond.selects C y z).before args s = true) (hinst : (Cond.instanceMethod z).before args s = true) (hnf : NotFace s y) (hy : y.cls ≠ "java/lang/invoke/MethodHandle" ∧ y.cls ≠ "java/lang/invoke/VarHandle")
    (hK : Back l R p e below s args z 3 W (fun A a => a = as' ∧ A.U.heap = h ∧ A.cells + kc ≤ R.cells ∧ A.slots + ks ≤ R.slots) (fun A _ v B => ∃ L, Q v B.U.heap L ∧ B.locs = A.locs ++ L ∧ B.cells = A.cells + kc ∧ B.slots = A.slots + ks))
    (hsize : Ls.size = c.maxLocals) {a : Addr} {argsL rest : List Value} (E : Exa Z h a C) (hlen : ∀ sig, parseMethodDescriptor y.desc = some sig → argsL.length = sig.parameters.length) (hs : st = argsL.reverse ++ .ref a :: rest) (hW : (rest.map fun v => v.category).sum ≤ W) (hd : decode c.code pc = .ok (.invokevirtual index, 3))
    (has : (.ref a :: argsL).toArray = as') (eT : T.heap = h) (hc : cells + kc ≤ R.cells) (hl : slots + ks ≤ R.slots)
    (go : ∀ (T' : State) (v : Option Value) (L : List Loc), Stand p l e R s m args below meth c T' (locs ++ L) (cells + kc) (slots + ks) → Q v T'.heap L → Owe p.tables e below G T' (mkF m (pc + 3) Ls (v.toList ++ rest))) : Owe p.tables e below G T (mkF m pc Ls st) := by
  obtain ⟨cq, kq, qa, qb, qc⟩ := isOf hZ eT E
  obtain ⟨v, _, ⟨T', L', k', n'⟩, -, X', ⟨L, hQ, l', y', z'⟩, st'⟩ := X.virtualBack hx hown hlink hdecl hnf hsel hinst hy hK qa qc (g := mkF m pc Ls st) rfl hsize (Steps.refl _) hlen hs (by show 2 * 0 + _ ≤ W; omega) hd (fun _ _ => ⟨has, eT, hc, hl⟩)
  dsimp only [Pt.U, Pt.locs, Pt.cells, Pt.slots] at X' l' y' z' st' hQ
  subst l' y' z'
  exact Owe.by (fun t k => st'.trans k) (go T' v L X' hQ)
theorem Owe.virtUp (X : Stand p l e R s m args below meth c T locs cells slots) (hx : p.tables.exec = Jvm.exec) (hZ : Z.Warmed39 s.vm) {own C owner : String} {index : Nat} (hown : s.vm.findClass own = some m.cls) (hlink : (Cond.methodLink own index y).before args s = true) (hsame : (Cond.sameMethod y.cls owner y.name y.desc).before args s = true) (hdecl : (Cond.declares ⟨owner, y.name, y.desc⟩).before args s = true) (howner : owner ≠ "java/lang/invoke/MethodHandle" ∧ owner ≠ "java/lang/invoke/VarHandle") (hsel : (Cond.selects C y z).before args s = true) (hinst : (Cond.instanceMethod z).before args s = true)
    (hK : Back l R p e below s args z 3 W (fun A a => a = as' ∧ A.U.heap = h ∧ A.cells + kc ≤ R.cells ∧ A.slots + ks ≤ R.slots) (fun A _ v B => ∃ L, Q v B.U.heap L ∧ B.locs = A.locs ++ L ∧ B.cells = A.cells + kc ∧ B.slots = A.slots + ks))
    (hsize : Ls.size = c.maxLocals) {a : Addr} {argsL rest : List Value} (E : Exa Z h a C) (hlen : ∀ sig, parseMethodDescriptor y.desc = some sig → argsL.length = sig.parameters.length) (hs : st = argsL.reverse ++ .ref a :: rest) (hW : (rest.map fun v => v.category).sum ≤ W) (hd : decode c.code pc = .ok (.invokevirtual index, 3))
    (has : (.ref a :: argsL).toArray = as') (eT : T.heap = h) (hc : cells + kc ≤ R.cells) (hl : slots + ks ≤ R.slots)
    (go : ∀ (T' : State) (v : Option Value) (L : List Loc), Stand p l e R s m args below meth c T' (locs ++ L) (cells + kc) (slots + ks) → Q v T'.heap L → Owe p.tables e below G T' (mkF m (pc + 3) Ls (v.toList ++ rest))) : Owe p.tables e below G T (mkF m pc Ls st) := by
  obtain ⟨cq, kq, qa, qb, qc⟩ := isOf hZ eT E
  obtain ⟨v, _, ⟨T', L', k', n'⟩, -, X', ⟨L, hQ, l', y', z'⟩, st'⟩ := X.virtualBackUp hx hown hlink hsame hdecl howner hsel hinst hK qa qc (g := mkF m pc Ls st) rfl hsize (Steps.refl _) hlen hs (by show 2 * 0 + _ ≤ W; omega) hd (fun _ _ => ⟨has, eT, hc, hl⟩)
  dsimp only [Pt.U, Pt.locs, Pt.cells, Pt.slots] at X' l' y' z' st' hQ
  subst l' y' z'
  exact Owe.by (fun t k => st'.trans k) (go T' v L X' hQ)
theorem Owe.stat (X : Stand p l e R s m args below meth c T locs cells slots) (hx : p.tables.exec = Jvm.exec) {own : String} {index : Nat} {bytes : ByteArray} {maxL : Nat} {ret : Option FieldType} (hown : s.vm.findClass own = some m.cls) (hlink : (Cond.methodLink own index y).before args s = true) (hstat : (Cond.static y).before args s = true) (hinit : (Cond.initialized y.cls).before args s = true) (hcode : (Cond.code y bytes maxL ret).before args s = true) (hy : y.cls ≠ "java/lang/invoke/MethodHandle" ∧ y.cls ≠ "java/lang/invoke/VarHandle")
    (hK : Back l R p e below s args y 3 W (fun A a => a = as' ∧ A.U.heap = h ∧ A.cells + kc ≤ R.cells ∧ A.slots + ks ≤ R.slots) (fun A _ v B => ∃ L, Q v B.U.heap L ∧ B.locs = A.locs ++ L ∧ B.cells = A.cells + kc ∧ B.slots = A.slots + ks))
    (hsize : Ls.size = c.maxLocals) {argsL rest : List Value} (hlen : ∀ sig, parseMethodDescriptor y.desc = some sig → argsL.length = sig.parameters.length) (hs : st = argsL.reverse ++ rest) (hW : (rest.map fun v => v.category).sum ≤ W) (hd : decode c.code pc = .ok (.invokestatic index, 3))
    (has : argsL.toArray = as') (eT : T.heap = h) (hc : cells + kc ≤ R.cells) (hl : slots + ks ≤ R.slots)
    (go : ∀ (T' : State) (v : Option Value) (L : List Loc), Stand p l e R s m args below meth c T' (locs ++ L) (cells + kc) (slots + ks) → Q v T'.heap L → Owe p.tables e below G T' (mkF m (pc + 3) Ls (v.toList ++ rest))) : Owe p.tables e below G T (mkF m pc Ls st) := by
  obtain ⟨v, _, ⟨T', L', k', n'⟩, -, X', ⟨L, hQ, l', y', z'⟩, st'⟩ := Jvm.LawKit.callS X hx hown hlink hstat hinit hcode hy hK (g := mkF m pc Ls st) rfl hsize hlen hs (by show 2 * 0 + _ ≤ W; omega) hd (fun _ _ => ⟨has, eT, hc, hl⟩)
  dsimp only [Pt.U, Pt.locs, Pt.cells, Pt.slots] at X' l' y' z' st' hQ
  subst l' y' z'
  exact Owe.by st' (go T' v L X' hQ)
/-! the end: it returns -/
theorem Owe.retN (X : Stand p l e R s m args below meth c T locs cells slots) (hx : p.tables.exec = Jvm.exec) (hlk : meth.locks = false) {z : Int32} {t : FieldType} {rest : List Value} (hret : meth.sig.returnType = some t) (ht : t = .boolean ∨ t = .byte ∨ t = .char ∨ t = .short) (hd : decode c.code pc = .ok (.ireturn, 1)) (hs : st = .int z :: rest)
    (go : ∀ fs : List Frame, FrameEnd s (.returned (some (.int (nar t z)))) (T.setFrames fs) locs cells slots → G (.returned (some (.int (nar t z)))) (T.setFrames fs)) : Owe p.tables e below G T (mkF m pc Ls st) := by
  subst hs
  obtain ⟨fs, hr, hrun, hended, hW, hsame⟩ := X.leave (v := some (.int (nar t z))) (fun h => by rw [hret] at h; cases h) hlk
  exact ⟨_, _, Jvm.RoadKit.retN X hx hret ht hd hr, hrun, hended, go fs ⟨⟨_, rfl⟩, hW, hsame⟩⟩
theorem Owe.retI (X : Stand p l e R s m args below meth c T locs cells slots) (hx : p.tables.exec = Jvm.exec) (hlk : meth.locks = false) {z : Int32} {rest : List Value} (hret : meth.sig.returnType = some .int) (hd : decode c.code pc = .ok (.ireturn, 1)) (hs : st = .int z :: rest)
    (go : ∀ fs : List Frame, FrameEnd s (.returned (some (.int z))) (T.setFrames fs) locs cells slots → G (.returned (some (.int z))) (T.setFrames fs)) : Owe p.tables e below G T (mkF m pc Ls st) := by
  subst hs
  obtain ⟨fs, hr, hrun, hended, hW, hsame⟩ := X.leave (v := some (.int z)) (fun h => by rw [hret] at h; cases h) hlk
  have hm' : T.vm.method? m = some meth := X.method'
  have hn : narrow .int (.int z) = .int z := rfl
  refine ⟨_, _, ?_, hrun, hended, go fs ⟨⟨_, rfl⟩, hW, hsame⟩⟩
  show Steps p.tables e below (T.setTop { method := m, pc := pc, locals := Ls, stack := _ :: rest, locked := none }) _
  jvm_step X.here [X.here.top, hx, hd, hm', hret, hn]
  first | (intro acts; rw [hr _ acts rfl rfl rfl]) | rw [hr _ _ rfl rfl rfl]
  exact Steps.refl _
theorem Owe.retR (X : Stand p l e R s m args below meth c T locs cells slots) (hx : p.tables.exec = Jvm.exec) (hlk : meth.locks = false) {w : Value} {t : FieldType} {rest : List Value} (hret : meth.sig.returnType = some t) (hn : narrow t w = w) (ht : t.isReference = true) (hw : w.isRef = true) (hd : decode c.code pc = .ok (.areturn, 1)) (hs : st = w :: rest)
    (go : ∀ fs : List Frame, FrameEnd s (.returned (some w)) (T.setFrames fs) locs cells slots → G (.returned (some w)) (T.setFrames fs)) : Owe p.tables e below G T (mkF m pc Ls st) := by
  subst hs
  obtain ⟨fs, hr, hrun, hended, hW, hsame⟩ := X.leave (v := some w) (fun h => by rw [hret] at h; cases h) hlk
  have hm' : T.vm.method? m = some meth := X.method'
  refine ⟨_, _, ?_, hrun, hended, go fs ⟨⟨_, rfl⟩, hW, hsame⟩⟩
  show Steps p.tables e below (T.setTop { method := m, pc := pc, locals := Ls, stack := _ :: rest, locked := none }) _
  jvm_step X.here [X.here.top, hx, hd, hm', hret, hn, hw]
  try (refine ⟨ht, ?_⟩)
  first | (intro acts; rw [hr _ acts rfl rfl rfl]) | rw [hr _ _ rfl rfl rfl]
  exact Steps.refl _
theorem Owe.ret0 (X : Stand p l e R s m args below meth c T locs cells slots) (hx : p.tables.exec = Jvm.exec) (hlk : meth.locks = false) (hret : meth.sig.returnType = none) (hd : decode c.code pc = .ok (.return_, 1)) (hs : st = [])
    (go : ∀ fs : List Frame, FrameEnd s (.returned none) (T.setFrames fs) locs cells slots → G (.returned none) (T.setFrames fs)) : Owe p.tables e below G T (mkF m pc Ls st) := by
  subst hs
  obtain ⟨fs, hr, hrun, hended, hW, hsame⟩ := X.leave (v := none) (fun _ => rfl) hlk
  exact ⟨_, _, X.returnOut hx hret hd hr, hrun, hended, go fs ⟨⟨_, rfl⟩, hW, hsame⟩⟩
end Heavy
theorem frameMono {s t : State} {o : Outcome} {L : List Loc} {k n k' n' : Nat} (h : FrameEnd s o t L k n) (hk : k ≤ k') (hn : n ≤ n') : FrameEnd s o t L k' n' := ⟨h.1, h.2.1, h.2.2.mono hk hn⟩
end Own
end Jvm.Pilot.@@N@@
namespace Jvm.Pilot.@@N@@
namespace Own
open Jvm Jvm.ClassFile Sem Op Lib Jvm.Free Jvm.Stand Jvm.LawKit Jvm.RoadKit
section
variable {p : Program} {l : Launch} {e : Env} {R R' : Room} {s Z : State} {m : MethodId} {args a0 : Array Value} {below : List Frame} {meth : Method} {c : Code} {T : State} {locs : List Loc} {cells slots : Nat} {G : Outcome → State → Prop} {pc : Nat} {Ls : Array Slot} {st : List Value} {h : Heap}
theorem Owe.rawBits (X : Stand p l e R s m args below meth c T locs cells slots) (hx : p.tables.exec = Jvm.exec) (hZ : Z.Warmed39 s.vm) {own : String} {index : Nat} (hown : s.vm.findClass own = some m.cls) (w1 : (Cond.methodLink own index doubleToRawLongBitsName).before a0 Z = true) (w2 : (Cond.native doubleToRawLongBitsName).before a0 Z = true) (w3 : (Cond.static doubleToRawLongBitsName).before a0 Z = true) (w4 : (Cond.initialized "java/lang/Double").before a0 Z = true) (eT : T.heap = h) (hsize : Ls.size = c.maxLocals) {b : UInt64} {rest : List Value} (hs : st = .double b :: rest) (hd : decode c.code pc = .ok (.invokestatic index, 3))
    (hf : 1 ≤ R.frames) {W : Nat} (hW : (rest.map fun v => v.category).sum ≤ W) (hl : W + (nativeFrameWords "java/lang/Double" "doubleToRawLongBits" 2 + 11) ≤ R.locals)
    (go : ∀ T' : State, Stand p l e R s m args below meth c T' locs cells slots → T'.heap = h → Owe p.tables e below G T' (mkF m (pc + 3) Ls (.long b.toInt64 :: rest))) : Owe p.tables e below G T (mkF m pc Ls st) := by
  obtain ⟨vm', X', st'⟩ := X.doubleToRawLongBits hx hown (mvT hZ w1) (mvT hZ w2) (mvT hZ w3) (mvT hZ w4) (g := mkF m pc Ls st) rfl hsize hs hd hf (by show 2 * 0 + (rest.map fun v => v.category).sum + _ ≤ R.locals; omega)
  exact Owe.by st' (go _ X' eT)
theorem Owe.maxD (X : Stand p l e R s m args below meth c T locs cells slots) (hx : p.tables.exec = Jvm.exec) (hZ : Z.Warmed39 s.vm) {own : String} {index ml : Nat} {bytes : ByteArray} (hown : s.vm.findClass own = some m.cls) (w1 : (Cond.methodLink own index NT.mathMax64N).before a0 Z = true) (w2 : (Cond.static NT.mathMax64N).before a0 Z = true) (w3 : (Cond.initialized "java/lang/Math").before a0 Z = true) (w4 : (Cond.code NT.mathMax64N bytes ml (some .double)).before a0 Z = true) (eT : T.heap = h) {a b : UInt64} (ha : FP.dIsNaN a = false) (hb : FP.dIsNaN b = false) (hsize : Ls.size = c.maxLocals) {rest : List Value} (hs : st = .double b :: .double a :: rest) (hd : decode c.code pc = .ok (.invokestatic index, 3))
    (hf : 1 ≤ R.frames) {W : Nat} (hW : (rest.map fun v => v.category).sum ≤ W) (hl : W + (ml + 11) ≤ R.locals)
    (go : ∀ T' : State, Stand p l e R s m args below meth c T' locs cells slots → T'.heap = h → Owe p.tables e below G T' (mkF m (pc + 3) Ls (.double (Native.java_lang_Math.nans.pick64 true a b) :: rest))) : Owe p.tables e below G T (mkF m pc Ls st) := by
  have c4 : (Cond.code NT.mathMax64N bytes ml (some .double)).before args s = true := mvT hZ w4
  obtain ⟨mk, hnamed⟩ := Cond.code_named c4
  obtain ⟨methM, cM, hmethM, -, -, -, -, -, -, hsigM⟩ := Cond.code_spec hnamed c4
  obtain ⟨v, vm1, B, hW1, X', ⟨hB, hv⟩, st'⟩ := Stand.staticBack (args := args) X hx hown (mvT hZ w1) (mvT hZ w2) (mvT hZ w3) hnamed hmethM hsigM (by decide) (NT.Max64.pays c4 (mvT hZ w2) hf hl) (g := mkF m pc Ls st) rfl hsize (Steps.refl _) (argsL := [.double a, .double b]) (rest := rest) (lenOf NT.mathMax64_desc rfl) hs (by show 2 * 0 + (rest.map fun v => v.category).sum ≤ W; omega) hd (fun vm1 _ => ⟨(a, b), rfl, ha, hb⟩)
  have hv' := hv (a, b) ⟨rfl, ha, hb⟩
  subst hv' hB
  exact Owe.by (fun t k => st'.trans k) (go _ X' eT)
theorem Owe.minD (X : Stand p l e R s m args below meth c T locs cells slots) (hx : p.tables.exec = Jvm.exec) (hZ : Z.Warmed39 s.vm) {own : String} {index ml : Nat} {bytes : ByteArray} (hown : s.vm.findClass own = some m.cls) (w1 : (Cond.methodLink own index NT.mathMin64N).before a0 Z = true) (w2 : (Cond.static NT.mathMin64N).before a0 Z = true) (w3 : (Cond.initialized "java/lang/Math").before a0 Z = true) (w4 : (Cond.code NT.mathMin64N bytes ml (some .double)).before a0 Z = true) (eT : T.heap = h) {a b : UInt64} (ha : FP.dIsNaN a = false) (hb : FP.dIsNaN b = false) (hsize : Ls.size = c.maxLocals) {rest : List Value} (hs : st = .double b :: .double a :: rest) (hd : decode c.code pc = .ok (.invokestatic index, 3))
    (hf : 1 ≤ R.frames) {W : Nat} (hW : (rest.map fun v => v.category).sum ≤ W) (hl : W + (ml + 11) ≤ R.locals)
    (go : ∀ T' : State, Stand p l e R s m args below meth c T' locs cells slots → T'.heap = h → Owe p.tables e below G T' (mkF m (pc + 3) Ls (.double (Native.java_lang_Math.nans.pick64 false a b) :: rest))) : Owe p.tables e below G T (mkF m pc Ls st) := by
  have c4 : (Cond.code NT.mathMin64N bytes ml (some .double)).before args s = true := mvT hZ w4
  obtain ⟨mk, hnamed⟩ := Cond.code_named c4
  obtain ⟨methM, cM, hmethM, -, -, -, -, -, -, hsigM⟩ := Cond.code_spec hnamed c4
  obtain ⟨v, vm1, B, hW1, X', ⟨hB, hv⟩, st'⟩ := Stand.staticBack (args := args) X hx hown (mvT hZ w1) (mvT hZ w2) (mvT hZ w3) hnamed hmethM hsigM (by decide) (NT.Min64.pays c4 (mvT hZ w2) hf hl) (g := mkF m pc Ls st) rfl hsize (Steps.refl _) (argsL := [.double a, .double b]) (rest := rest) (lenOf NT.mathMin64_desc rfl) hs (by show 2 * 0 + (rest.map fun v => v.category).sum ≤ W; omega) hd (fun vm1 _ => ⟨(a, b), rfl, ha, hb⟩)
  have hv' := hv (a, b) ⟨rfl, ha, hb⟩
  subst hv' hB
  exact Owe.by (fun t k => st'.trans k) (go _ X' eT)
theorem Owe.absD (X : Stand p l e R s m args below meth c T locs cells slots) (hx : p.tables.exec = Jvm.exec) (hZ : Z.Warmed39 s.vm) {own : String} {index ml : Nat} {bytes : ByteArray} (hown : s.vm.findClass own = some m.cls) (w1 : (Cond.methodLink own index NT.mathAbs64N).before a0 Z = true) (w2 : (Cond.static NT.mathAbs64N).before a0 Z = true) (w3 : (Cond.initialized "java/lang/Math").before a0 Z = true) (w4 : (Cond.code NT.mathAbs64N bytes ml (some .double)).before a0 Z = true) (eT : T.heap = h) {a : UInt64} (ha : a &&& 0x7fffffffffffffff ≤ 0x7ff0000000000000) (hsize : Ls.size = c.maxLocals) {rest : List Value} (hs : st = .double a :: rest) (hd : decode c.code pc = .ok (.invokestatic index, 3))
    (hf : 1 ≤ R.frames) {W : Nat} (hW : (rest.map fun v => v.category).sum ≤ W) (hl : W + (ml + 11) ≤ R.locals)
    (go : ∀ T' : State, Stand p l e R s m args below meth c T' locs cells slots → T'.heap = h → Owe p.tables e below G T' (mkF m (pc + 3) Ls (.double (a &&& 0x7fffffffffffffff) :: rest))) : Owe p.tables e below G T (mkF m pc Ls st) := by
  have c4 : (Cond.code NT.mathAbs64N bytes ml (some .double)).before args s = true := mvT hZ w4
  obtain ⟨mk, hnamed⟩ := Cond.code_named c4
  obtain ⟨methM, cM, hmethM, -, -, -, -, -, -, hsigM⟩ := Cond.code_spec hnamed c4
  obtain ⟨v, vm1, B, hW1, X', ⟨hB, hv⟩, st'⟩ := Stand.staticBack (args := args) X hx hown (mvT hZ w1) (mvT hZ w2) (mvT hZ w3) hnamed hmethM hsigM (by decide) (NT.Abs64.pays c4 (mvT hZ w2) hf hl) (g := mkF m pc Ls st) rfl hsize (Steps.refl _) (argsL := [.double a]) (rest := rest) (lenOf NT.mathAbs64_desc rfl) hs (by show 2 * 0 + (rest.map fun v => v.category).sum ≤ W; omega) hd (fun vm1 _ => ⟨a, rfl, ha⟩)
  have hv' := hv a ⟨rfl, ha⟩
  subst hv' hB
  exact Owe.by (fun t k => st'.trans k) (go _ X' eT)
theorem Owe.laloadA (X : Stand p l e R s m args below meth c T locs cells slots) (hx : p.tables.exec = Jvm.exec) (hZ : Z.Warmed39 s.vm) (eT : T.heap = h) {a : Addr} {k : ClassId} {n : Int32} {vs : List Value} {dv : Value} (V : Arv Z h a k .long n vs dv) {j : Int32} (hin : ¬ j < 0 ∧ j < n) (hd : decode c.code pc = .ok (.laload, 1)) {rest : List Value} (hs : st = .int j :: .ref a :: rest)
    (go : ∀ x : Int64, Owe p.tables e below G T (mkF m (pc + 1) Ls (.long x :: rest))) : Owe p.tables e below G T (mkF m pc Ls st) := by
  obtain ⟨cl, A, q, S, M, H, U⟩ := V
  have hb := inb_of S hin
  have hf := U j.toNatClampNeg (Nat.lt_of_not_le fun z => hb (Or.inr z))
  obtain ⟨x, hv⟩ : ∃ x, vs.getD j.toNatClampNeg dv = .long x := by
    cases hq : vs.getD j.toNatClampNeg dv <;> rw [hq] at hf <;> first | exact ⟨_, rfl⟩ | (cases hf; done)
  exact Owe.by (fun t k => X.laload hx (by rw [eT]; exact A.1) (State.isArrayOf_alike hZ.alike A.2.1) A.2.2 hb (H.at hb hv) (g := mkF m pc Ls st) rfl hs hd t k) (go x)
theorem Owe.lastoreA (X : Stand p l e R s m args below meth c T locs cells slots) (hx : p.tables.exec = Jvm.exec) (hZ : Z.Warmed39 s.vm) (eT : T.heap = h) {a : Addr} {k : ClassId} {n : Int32} {vs : List Value} {dv : Value} (V : Arv Z h a k .long n vs dv) {j : Int32} {x : Int64} (hin : ¬ j < 0 ∧ j < n) (hd : decode c.code pc = .ok (.lastore, 1)) {rest : List Value} (hs : st = .long x :: .int j :: .ref a :: rest)
    (go : ∀ (T' : State) (h' : Heap) (vs' : List Value), Stand p l e R s m args below meth c T' (locs ++ [⟨a, j.toNatClampNeg⟩]) cells slots → T'.heap = h' → Wr h h' a j.toNatClampNeg (.long x) → Arv Z h' a k .long n vs' dv → Owe p.tables e below G T' (mkF m (pc + 1) Ls rest)) : Owe p.tables e below G T (mkF m pc Ls st) := by
  obtain ⟨cl, A, q, S, M, H, U⟩ := V.pad (pad_rep vs dv n.toNatClampNeg)
  have hb := inb_of S hin
  have hlt : j.toNatClampNeg < cl.slots.size := Nat.lt_of_not_le fun z => hb (Or.inr z)
  obtain ⟨X', st'⟩ := X.lastore hx (by rw [eT]; exact A.1) (State.isArrayOf_alike hZ.alike A.2.1) A.2.2 hb (g := mkF m pc Ls st) rfl hs hd
  have W' : Wr h (T.setCell a (cl.setSlot j.toNatClampNeg (.long x))).heap a j.toNatClampNeg (.long x) := ⟨cl, A.1, A.plain, hlt, by rw [← eT]; rfl⟩
  exact Owe.by st' (go _ _ _ X' rfl W' (Arv.set A q S M H U rfl W' _ rfl (by simp; omega)))
theorem Owe.virtP (X : Stand p l e R s m args below meth c T locs cells slots) (hx : p.tables.exec = Jvm.exec) (hZ : Z.Warmed39 s.vm) {y : MethodName} {as' : Array Value} {Q : Option Value → Heap → List Loc → Prop} {W kc ks : Nat} {own C : String} {index ni maxL : Nat} {bytes : ByteArray} {ret : Option FieldType} (hown : s.vm.findClass own = some m.cls) (hlink : (Cond.methodLink own index y).before args s = true) (hinst : (Cond.instanceMethod y).before args s = true) (hpriv : (Cond.privateMethod y).before args s = true) (hcode : (Cond.code y bytes maxL ret).before args s = true) (hi : (Cond.instantiable y.cls ni).before args s = true) (hy : y.cls ≠ "java/lang/invoke/MethodHandle" ∧ y.cls ≠ "java/lang/invoke/VarHandle")
    (hK : Back l R p e below s args y 3 W (fun A a => a = as' ∧ A.U.heap = h ∧ A.cells + kc ≤ R.cells ∧ A.slots + ks ≤ R.slots) (fun A _ v B => ∃ L, Q v B.U.heap L ∧ B.locs = A.locs ++ L ∧ B.cells = A.cells + kc ∧ B.slots = A.slots + ks))
    (hsize : Ls.size = c.maxLocals) {a : Addr} {argsL rest : List Value} (E : Exa Z h a C) (hlen : ∀ sig, parseMethodDescriptor y.desc = some sig → argsL.length = sig.parameters.length) (hs : st = argsL.reverse ++ .ref a :: rest) (hW : (rest.map fun v => v.category).sum ≤ W) (hd : decode c.code pc = .ok (.invokevirtual index, 3))
    (has : (.ref a :: argsL).toArray = as') (eT : T.heap = h) (hc : cells + kc ≤ R.cells) (hl : slots + ks ≤ R.slots)
    (go : ∀ (T' : State) (v : Option Value) (L : List Loc), Stand p l e R s m args below meth c T' (locs ++ L) (cells + kc) (slots + ks) → Q v T'.heap L → Owe p.tables e below G T' (mkF m (pc + 3) Ls (v.toList ++ rest))) : Owe p.tables e below G T (mkF m pc Ls st) := by
  obtain ⟨cq, kq, qa, qb, ⟨cell, g1, g2, g3⟩⟩ := isOf hZ eT E
  obtain ⟨mk, methM, hnamed, hmethM, hstM, habM⟩ := Cond.instanceMethod_spec hinst
  obtain ⟨methM', cM, hmethM', -, -, -, -, -, -, hsigM⟩ := Cond.code_spec hnamed hcode
  cases hmethM.symm.trans hmethM'
  obtain ⟨cI, kI, i1, i2, -, i4, -⟩ := Cond.instantiable_spec hi
  cases (findClass_of_methodNamed hnamed).symm.trans i1
  have hni : kI.isInterface = false := (Bool.or_eq_false_iff.mp i4).1
  have hselP : selectMethod e.platform s.vm cell.cls mk = .method mk := selectMethod_private hmethM (Cond.privateMethod_at hpriv mk methM hnamed hmethM)
  obtain ⟨vm₁, X₁, hstep₁⟩ := X.invokevirtual hx hown hlink hnamed hmethM hstM i2 hni hy (a := a) (cell := cell) g1 (fun q z => by rw [z] at g3; cases g3) hselP hmethM habM i2 hni (g := mkF m pc Ls st) rfl (argsL := argsL) (rest := rest) (hlen _ hsigM) hs hd
  obtain ⟨v, ⟨T', L', k', n'⟩, X', ⟨L, hQ, l', y', z'⟩, st'⟩ := hK m meth c ⟨T.setVm vm₁, locs, cells, slots⟩ (mkF m pc Ls rest) (.invokevirtual index) mk (.ref a :: argsL).toArray X₁ rfl hsize hd (by show 2 * 0 + (rest.map fun v => v.category).sum ≤ W; omega) (X₁.named hnamed) ⟨has, eT, hc, hl⟩
  dsimp only [Pt.U, Pt.locs, Pt.cells, Pt.slots] at X' l' y' z' st' hQ
  subst l' y' z'
  exact Owe.by (fun t k => hstep₁ _ fun acts => by rw [doInvoke_state]; exact st'.trans k) (go T' v L X' hQ)
theorem Owe.ldc2D (X : Stand p l e R s m args below meth c T locs cells slots) (hx : p.tables.exec = Jvm.exec) {own : String} {index : Nat} {v : UInt64} (hown : s.vm.findClass own = some m.cls) (w : (Cond.constantDouble own index v).before args s = true) (hd : decode c.code pc = .ok (.ldc2_w index, 3)) (go : Owe p.tables e below G T (mkF m (pc + 3) Ls (.double v :: st))) : Owe p.tables e below G T (mkF m pc Ls st) :=
  Owe.by (X.ldc2DoubleC hx hown w (g := mkF m pc Ls st) rfl hd) go
theorem Owe.retJ (X : Stand p l e R s m args below meth c T locs cells slots) (hx : p.tables.exec = Jvm.exec) (hlk : meth.locks = false) {z : Int64} {rest : List Value} (hret : meth.sig.returnType = some .long) (hd : decode c.code pc = .ok (.lreturn, 1)) (hs : st = .long z :: rest)
    (go : ∀ fs : List Frame, FrameEnd s (.returned (some (.long z))) (T.setFrames fs) locs cells slots → G (.returned (some (.long z))) (T.setFrames fs)) : Owe p.tables e below G T (mkF m pc Ls st) := by
  subst hs
  obtain ⟨fs, hr, hrun, hended, hW, hsame⟩ := X.leave (v := some (.long z)) (fun h => by rw [hret] at h; cases h) hlk
  have hm' : T.vm.method? m = some meth := X.method'
  have hn : narrow .long (.long z) = .long z := rfl
  refine ⟨_, _, ?_, hrun, hended, go fs ⟨⟨_, rfl⟩, hW, hsame⟩⟩
  show Steps p.tables e below (T.setTop { method := m, pc := pc, locals := Ls, stack := _ :: rest, locked := none }) _
  jvm_step X.here [X.here.top, hx, hd, hm', hret, hn]
  first | (intro acts; rw [hr _ acts rfl rfl rfl]) | rw [hr _ _ rfl rfl rfl]
  exact Steps.refl _
theorem Owe.retD (X : Stand p l e R s m args below meth c T locs cells slots) (hx : p.tables.exec = Jvm.exec) (hlk : meth.locks = false) {z : UInt64} {rest : List Value} (hret : meth.sig.returnType = some .double) (hd : decode c.code pc = .ok (.dreturn, 1)) (hs : st = .double z :: rest)
    (go : ∀ fs : List Frame, FrameEnd s (.returned (some (.double z))) (T.setFrames fs) locs cells slots → G (.returned (some (.double z))) (T.setFrames fs)) : Owe p.tables e below G T (mkF m pc Ls st) := by
  subst hs
  obtain ⟨fs, hr, hrun, hended, hW, hsame⟩ := X.leave (v := some (.double z)) (fun h => by rw [hret] at h; cases h) hlk
  have hm' : T.vm.method? m = some meth := X.method'
  have hn : narrow .double (.double z) = .double z := rfl
  refine ⟨_, _, ?_, hrun, hended, go fs ⟨⟨_, rfl⟩, hW, hsame⟩⟩
  show Steps p.tables e below (T.setTop { method := m, pc := pc, locals := Ls, stack := _ :: rest, locked := none }) _
  jvm_step X.here [X.here.top, hx, hd, hm', hret, hn]
  first | (intro acts; rw [hr _ acts rfl rfl rfl]) | rw [hr _ _ rfl rfl rfl]
  exact Steps.refl _
end
end Own
end Jvm.Pilot.@@N@@
namespace Jvm.Pilot.@@N@@
namespace Own
open Jvm Jvm.ClassFile Jvm.FP.Core Jvm.LawKit Jvm.RoadKit Jvm.Free Sem Op
theorem rr_mono {s t t' : Bool} {A B A' B' c c' : Nat} {e e' q q' e0 : Int} (hB : 0 < B) (hB' : 0 < B') (h1 : roundRatio b64 s A B e = .fin t c q) (h2 : roundRatio b64 s A' B' e' = .fin t' c' q') (h0 : e0 ≤ b64.qmin) (h0e : e0 ≤ e) (h0e' : e0 ≤ e') (h : inUnits A e e0 * B' ≤ inUnits A' e' e0 * B) :
    zmag b64 (roundRatio b64 s A B e) ≤ zmag b64 (roundRatio b64 s A' B' e') := by
  have hf : Good b64 := good_b64
  have f1 := roundRatio_fits hf s A hB e
  have f2 := roundRatio_fits hf s A' hB' e'
  refine Nat.le_of_not_lt fun hlt => ?_
  rw [h1] at f1; rw [h2] at f2
  have d1 := roundRatio_nearest hf hB h1 f2.1 f2.2.1 h0 h0e
  have d2 := roundRatio_nearest hf hB' h2 f1.1 f1.2.1 h0 h0e'
  unfold distance at d1 d2
  rw [units_fin f1 h0, units_fin f2 h0] at d1 d2
  have hne : inUnits A e e0 * B' ≠ inUnits A' e' e0 * B := fun eq => by
    have : roundRatio b64 s A B e = roundRatio b64 s A' B' e' := by
      refine roundRatio_congr hB hB' ?_
      unfold inUnits at eq
      by_cases hm : e ≤ e'
      · rw [show (e - e').toNat = 0 by omega, Nat.pow_zero, Nat.mul_one]
        have p := Nat.two_pow_pos (e - e0).toNat
        refine Nat.eq_of_mul_eq_mul_right p ?_
        rw [show (e' - e0).toNat = (e' - e).toNat + (e - e0).toNat by omega, Nat.pow_add] at eq
        calc A * B' * 2 ^ (e - e0).toNat = A * 2 ^ (e - e0).toNat * B' := by ac_rfl
          _ = A' * (2 ^ (e' - e).toNat * 2 ^ (e - e0).toNat) * B := eq
          _ = A' * B * 2 ^ (e' - e).toNat * 2 ^ (e - e0).toNat := by ac_rfl
      · rw [show (e' - e).toNat = 0 by omega, Nat.pow_zero, Nat.mul_one]
        have p := Nat.two_pow_pos (e' - e0).toNat
        refine Nat.eq_of_mul_eq_mul_right p ?_
        rw [show (e - e0).toNat = (e - e').toNat + (e' - e0).toNat by omega, Nat.pow_add] at eq
        calc A * B' * 2 ^ (e - e').toNat * 2 ^ (e' - e0).toNat = A * (2 ^ (e - e').toNat * 2 ^ (e' - e0).toNat) * B' := by ac_rfl
          _ = A' * 2 ^ (e' - e0).toNat * B := eq
          _ = A' * B * 2 ^ (e' - e0).toNat := by ac_rfl
    rw [this] at hlt
    exact Nat.lt_irrefl _ hlt
  rw [h1, h2] at hlt
  generalize zmag b64 (.fin t c q) = x at *
  generalize zmag b64 (.fin t' c' q') = y at *
  have hP : 0 < 2 ^ (b64.qmin - e0).toNat := Nat.two_pow_pos _
  generalize 2 ^ (b64.qmin - e0).toNat = P at *
  generalize inUnits A e e0 = U at *
  generalize inUnits A' e' e0 = V at *
  -- y < x; 2U ≥ (x+y)PB; 2V ≤ (x+y)PB'
  have g1 : (x * P * B + y * P * B) ≤ 2 * U := by
    have m : y * P * B ≤ x * P * B := Nat.mul_le_mul_right _ (Nat.mul_le_mul_right _ (Nat.le_of_lt hlt))
    rw [← Int.natCast_mul, ← Int.natCast_mul] at d1
    by_cases z : y * P * B = x * P * B
    · have hp : P = 0 := by
        rcases Nat.eq_zero_or_pos P with w | w
        · exact w
        · have := Nat.mul_lt_mul_of_pos_right (Nat.mul_lt_mul_of_pos_right hlt w) hB; omega
      subst hp; simp
    · generalize x * P * B = X at *; generalize y * P * B = Y at *; omega
  have g2 : 2 * V ≤ (x * P * B' + y * P * B') ∨ P = 0 := by
    have m : y * P * B' ≤ x * P * B' := Nat.mul_le_mul_right _ (Nat.mul_le_mul_right _ (Nat.le_of_lt hlt))
    rw [← Int.natCast_mul, ← Int.natCast_mul] at d2
    by_cases z : y * P * B' = x * P * B'
    · right
      rcases Nat.eq_zero_or_pos P with w | w
      · exact w
      · have := Nat.mul_lt_mul_of_pos_right (Nat.mul_lt_mul_of_pos_right hlt w) hB'; omega
    · left; generalize x * P * B' = X at *; generalize y * P * B' = Y at *; omega
  have g3 := g2.resolve_right (by omega)
  have k1 := Nat.mul_le_mul_right B' g1
  have k2 := Nat.mul_le_mul_right B g3
  have k3 : (x * P * B + y * P * B) * B' = (x * P * B' + y * P * B') * B := by rw [Nat.add_mul, Nat.add_mul]; congr 1 <;> ac_rfl
  rw [k3, Nat.mul_assoc 2 U B'] at k1
  rw [Nat.mul_assoc 2 V B] at k2
  generalize (x * P * B' + y * P * B') * B = S at *
  generalize U * B' = a at *
  generalize V * B = b at *
  omega
/-- the quotient of two positive whole numbers -/
theorem whole_pos {i : Int} {s : Bool} {c : Nat} {q : Int} (h : Whole i (.fin s c q)) (hi : 0 < i) : s = false := by
  cases s with
  | false => rfl
  | true =>
    exfalso
    have h' : signed true (c * 2 ^ q.toNat) = i * ((2 ^ (-q).toNat : Nat) : Int) := h
    have p2 : (0 : Int) < ((2 ^ (-q).toNat : Nat) : Int) := by have := Nat.two_pow_pos (-q).toNat; omega
    have := Int.mul_pos hi p2
    have z : signed true (c * 2 ^ q.toNat) ≤ 0 := by simp only [signed]; show -_ ≤ _; omega
    omega
theorem whole_nat {i : Int} {c : Nat} {q e : Int} (h : Whole i (.fin false c q)) (he : e ≤ q) (h0 : e ≤ 0) (hi : 0 ≤ i) : inUnits c q e = i.toNat * 2 ^ (-e).toNat := by
  have u := whole_units h he
  rw [show e.toNat = 0 by omega] at u
  have : signed false (inUnits c q e) = (inUnits c q e : Int) := rfl
  rw [this] at u
  have e1 : i = (i.toNat : Int) := by omega
  rw [e1, ← Int.natCast_mul] at u
  have u2 : ((inUnits c q e : Nat) : Int) = ((i.toNat * 2 ^ (-e).toNat : Nat) : Int) := by simpa using u
  exact Int.ofNat.inj u2
theorem quot_whole {i j : Int} {x y : Datum} (hx : Whole i x) (hy : Whole j y) (hi : 0 < i) (hj : 0 < j) : quotient b64 x y = roundRatio b64 false i.toNat j.toNat 0 := by
  cases x with
  | nan => exact hx.elim
  | inf => exact hx.elim
  | fin s c q =>
  cases y with
  | nan => exact hy.elim
  | inf => exact hy.elim
  | fin t d r =>
    obtain rfl := whole_pos hx hi
    obtain rfl := whole_pos hy hj
    have e0 : ∃ e0 : Int, e0 ≤ q ∧ e0 ≤ r ∧ e0 ≤ 0 := ⟨min (min q r) 0, by omega, by omega, by omega⟩
    obtain ⟨e0, a1, a2, a3⟩ := e0
    have u1 := whole_nat hx a1 a3 (by omega)
    have u2 := whole_nat hy a2 a3 (by omega)
    have pE := Nat.two_pow_pos (-e0).toNat
    have hd : d ≠ 0 := fun z => by
      rw [z] at u2; unfold inUnits at u2; rw [Nat.zero_mul] at u2
      rcases Nat.mul_eq_zero.mp u2.symm with w | w <;> omega
    simp only [quotient, hd, if_false]
    refine roundRatio_congr (by omega) (by omega) ?_
    unfold inUnits at u1 u2
    rw [show q - r - 0 = q - r by omega, show (0 - (q - r)).toNat = (r - q).toNat by omega]
    by_cases hm : r ≤ q
    · rw [show (r - q).toNat = 0 by omega, Nat.pow_zero, Nat.mul_one]
      refine Nat.eq_of_mul_eq_mul_right (Nat.two_pow_pos (r - e0).toNat) ?_
      rw [show (q - e0).toNat = (q - r).toNat + (r - e0).toNat by omega, Nat.pow_add] at u1
      calc c * j.toNat * 2 ^ (q - r).toNat * 2 ^ (r - e0).toNat = c * (2 ^ (q - r).toNat * 2 ^ (r - e0).toNat) * j.toNat := by ac_rfl
        _ = i.toNat * 2 ^ (-e0).toNat * j.toNat := by rw [u1]
        _ = i.toNat * (j.toNat * 2 ^ (-e0).toNat) := by ac_rfl
        _ = i.toNat * (d * 2 ^ (r - e0).toNat) := by rw [u2]
        _ = i.toNat * d * 2 ^ (r - e0).toNat := by ac_rfl
    · rw [show (q - r).toNat = 0 by omega, Nat.pow_zero, Nat.mul_one]
      refine Nat.eq_of_mul_eq_mul_right (Nat.two_pow_pos (q - e0).toNat) ?_
      rw [show (r - e0).toNat = (r - q).toNat + (q - e0).toNat by omega, Nat.pow_add] at u2
      calc c * j.toNat * 2 ^ (q - e0).toNat = c * 2 ^ (q - e0).toNat * j.toNat := by ac_rfl
        _ = i.toNat * 2 ^ (-e0).toNat * j.toNat := by rw [u1]
        _ = i.toNat * (j.toNat * 2 ^ (-e0).toNat) := by ac_rfl
        _ = i.toNat * (d * (2 ^ (r - q).toNat * 2 ^ (q - e0).toNat)) := by rw [u2]
        _ = i.toNat * d * 2 ^ (r - q).toNat * 2 ^ (q - e0).toNat := by ac_rfl
theorem qm : b64.qmin = -1074 := by decide
theorem one_fits : FP.Core.fits b64 (.fin false (2 ^ 52) (-52)) := by unfold FP.Core.fits; decide
theorem near_fits : FP.Core.fits b64 (.fin false (2 ^ 53 - 1) (-53)) := by unfold FP.Core.fits; decide
theorem tiny_fits : FP.Core.fits b64 (.fin false (2 ^ 52) (-112)) := by unfold FP.Core.fits; decide
theorem rr_le_one {a n : Nat} (hn : 0 < n) (h : a ≤ n) : zmag b64 (roundRatio b64 false a n 0) ≤ zmag b64 (.fin false (2 ^ 52) (-52)) := by
  refine zmag_roundRatio_le good_b64 (e0 := b64.qmin) hn one_fits (by simp) (Int.le_refl _) (by rw [qm]; decide) ?_
  simp only [zmag, inUnits, qm]
  rw [show (-1074 - -1074 : Int).toNat = 0 by decide, show (-52 - -1074 : Int).toNat = 1022 by decide, show (0 - -1074 : Int).toNat = 1074 by decide, Nat.pow_zero, Nat.mul_one, ← Nat.pow_add, Nat.mul_comm]
  exact Nat.mul_le_mul_left _ h
theorem rr_lt_one {a n : Nat} (hn : n < 2 ^ 53) (h : a < n) : zmag b64 (roundRatio b64 false a n 0) ≤ zmag b64 (.fin false (2 ^ 53 - 1) (-53)) := by
  refine zmag_roundRatio_le good_b64 (e0 := b64.qmin) (by omega) near_fits (by simp) (Int.le_refl _) (by rw [qm]; decide) ?_
  simp only [zmag, inUnits, qm]
  rw [show (-1074 - -1074 : Int).toNat = 0 by decide, show (-53 - -1074 : Int).toNat = 1021 by decide, show (0 - -1074 : Int).toNat = 53 + 1021 by decide, Nat.pow_zero, Nat.mul_one, Nat.pow_add, ← Nat.mul_assoc, Nat.mul_right_comm (2 ^ 53 - 1)]
  refine Nat.mul_le_mul_right _ ?_
  rw [Nat.sub_mul]
  have e : (2 : Nat) ^ 53 = 9007199254740992 := by decide
  rw [e] at hn ⊢
  omega
theorem rr_pos {a n : Nat} (ha : 0 < a) (hn0 : 0 < n) (hn : n ≤ 2 ^ 60) : zmag b64 (.fin false (2 ^ 52) (-112)) ≤ zmag b64 (roundRatio b64 false a n 0) := by
  refine zmag_roundRatio_ge good_b64 (e0 := b64.qmin) hn0 tiny_fits (Int.le_refl _) (by rw [qm]; decide) ?_
  simp only [zmag, inUnits, qm]
  rw [show (-1074 - -1074 : Int).toNat = 0 by decide, show (-112 - -1074 : Int).toNat = 962 by decide, show (0 - -1074 : Int).toNat = 60 + (52 + 962) by decide, Nat.pow_zero, Nat.mul_one, ← Nat.pow_add, Nat.pow_add 2 60, Nat.mul_comm, ← Nat.mul_assoc]
  exact Nat.mul_le_mul_right _ (Nat.le_trans hn (Nat.le_mul_of_pos_left _ ha))
theorem rr_one {a : Nat} (ha : 0 < a) : roundRatio b64 false a a 0 = .fin false (2 ^ 52) (-52) := by
  refine roundRatio_exact good_b64 ha one_fits ?_
  rw [show (0 - -52 : Int).toNat = 52 by decide, show (-52 - 0 : Int).toNat = 0 by decide, Nat.pow_zero, Nat.mul_one, Nat.mul_comm]
theorem half_fits : FP.Core.fits b64 (.fin false (2 ^ 52) (-53)) := by unfold FP.Core.fits; decide
theorem rr_half {a : Nat} (ha : 0 < a) : roundRatio b64 false a (a + a) 0 = .fin false (2 ^ 52) (-53) := by
  refine roundRatio_exact good_b64 (by omega) half_fits ?_
  rw [show (0 - -53 : Int).toNat = 52 + 1 by decide, show (-53 - 0 : Int).toNat = 0 by decide, Nat.pow_zero, Nat.mul_one, Nat.pow_succ]
  rw [← Nat.two_mul]; ac_rfl
theorem signed_mul' (s : Bool) (a b : Nat) : signed s (a * b) = signed s a * (b : Int) := by cases s <;> simp [signed, Int.neg_mul]
theorem l2d_nat {m : Int64} {k : Nat} (hm : m.toInt = (k : Int)) : val64 (l2d m) = roundRatio b64 false k 1 0 := by
  rw [val64_l2d, hm]
  show FP.Core.round b64 (.fin (decide ((k : Int) < 0)) (k : Int).natAbs 0) = _
  rw [show decide ((k : Int) < 0) = false by simp]
  rfl
theorem dbl {n : Nat} (h0 : 0 < n) (h1 : n ≤ 2 ^ 53) : Whole ((2 * n : Nat) : Int) (roundRatio b64 false (2 * n) 1 0) := by
  have hf : Good b64 := good_b64
  obtain ⟨c, q, hfit, hv⟩ := natFit hf (by unfold Wide; decide) false (n := n) h1
  obtain ⟨f1, f2, f3, f4⟩ := hfit
  have hp : b64.p = 53 := rfl
  have hqm : b64.qmin = -1074 := by decide
  have hqx : b64.qmax = 971 := by decide
  have ht : b64.tails = 2 ^ 52 := rfl
  rw [Nat.mul_one] at hv
  have hlow : -60 ≤ q := by
    refine Int.not_lt.mp fun hlt => ?_
    rw [show (q - 0).toNat = 0 by omega, Nat.pow_zero, Nat.mul_one] at hv
    have m1 : 2 ^ 60 ≤ 2 ^ (0 - q).toNat := Nat.pow_le_pow_right (by decide) (by omega)
    have m2 : 1 * 2 ^ 60 ≤ n * 2 ^ (0 - q).toNat := Nat.mul_le_mul (by omega) m1
    rw [hv] at m2
    rw [hp] at f1
    have : (2 : Nat) ^ 53 < 1 * 2 ^ 60 := by decide
    omega
  have hc : 2 ^ 52 ≤ c := by rw [← ht]; exact f4.resolve_left (by omega)
  have hhi : q ≤ 1 := by
    refine Int.not_lt.mp fun hlt => ?_
    rw [show (0 - q).toNat = 0 by omega, Nat.pow_zero, Nat.mul_one] at hv
    have m1 : 2 ^ 2 ≤ 2 ^ (q - 0).toNat := Nat.pow_le_pow_right (by decide) (by omega)
    have m2 : 2 ^ 52 * 2 ^ 2 ≤ c * 2 ^ (q - 0).toNat := Nat.mul_le_mul hc m1
    rw [← hv] at m2
    have : (2 : Nat) ^ 53 < 2 ^ 52 * 2 ^ 2 := by decide
    omega
  have hE : roundRatio b64 false (2 * n) 1 0 = .fin false c (q + 1) := by
    refine roundRatio_exact hf (by decide) ⟨f1, by omega, by omega, .inr (by rw [ht]; exact hc)⟩ ?_
    rw [Nat.mul_one]
    by_cases hq : 0 ≤ q
    · rw [show (0 - q).toNat = 0 by omega, Nat.pow_zero, Nat.mul_one] at hv
      rw [show (0 - (q + 1)).toNat = 0 by omega, Nat.pow_zero, Nat.mul_one, show (q + 1 - 0).toNat = (q - 0).toNat + 1 by omega, Nat.pow_succ, ← Nat.mul_assoc, ← hv, Nat.mul_comm]
    · rw [show (q - 0).toNat = 0 by omega, Nat.pow_zero, Nat.mul_one] at hv
      rw [show (q + 1 - 0).toNat = 0 by omega, Nat.pow_zero, Nat.mul_one, ← hv, show (0 - q).toNat = (0 - (q + 1)).toNat + 1 by omega, Nat.pow_succ]
      ac_rfl
  rw [hE]
  show signed false (c * 2 ^ (q + 1).toNat) = ((2 * n : Nat) : Int) * ((2 ^ (-(q + 1)).toNat : Nat) : Int)
  rw [← Int.natCast_mul]
  show ((c * 2 ^ (q + 1).toNat : Nat) : Int) = _
  congr 1
  by_cases hq : 0 ≤ q
  · rw [show (0 - q).toNat = 0 by omega, Nat.pow_zero, Nat.mul_one] at hv
    rw [show (-(q + 1)).toNat = 0 by omega, Nat.pow_zero, Nat.mul_one, show (q + 1).toNat = (q - 0).toNat + 1 by omega, Nat.pow_succ, ← Nat.mul_assoc, ← hv, Nat.mul_comm]
  · rw [show (q - 0).toNat = 0 by omega, Nat.pow_zero, Nat.mul_one] at hv
    rw [show (q + 1).toNat = 0 by omega, Nat.pow_zero, Nat.mul_one, ← hv, show (0 - q).toNat = (-(q + 1)).toNat + 1 by omega, Nat.pow_succ]
    ac_rfl
theorem rr_fin {s : Bool} {A B : Nat} {e : Int} (h : zmag b64 (roundRatio b64 s A B e) ≤ zmag b64 (.fin false (2 ^ 52) (-52))) : ∃ c q, roundRatio b64 s A B e = .fin s c q := by
  rcases roundRatio_cases b64 s A B e with ⟨c, q, hR⟩ | hR
  · exact ⟨c, q, hR⟩
  · rw [hR] at h
    exact absurd h (by cases s <;> decide +kernel)
/-- dividing by the rounded m >= n gives no more than dividing by n, and more than nothing -/
theorem cm_le {x y : Datum} {a n : Int} {m : Nat} (hx : Whole a x) (hxf : FP.Core.fits b64 x) (hy : Whole n y) (hyf : FP.Core.fits b64 y) (ha : 0 < a) (hn : 0 < n) (hnm : n.toNat ≤ m) (han : a ≤ n) :
    zmag b64 (quotient b64 x (roundRatio b64 false m 1 0)) ≤ zmag b64 (quotient b64 x y) := by
  cases x with
  | nan => exact hx.elim
  | inf => exact hx.elim
  | fin s c1 q1 =>
  cases y with
  | nan => exact hy.elim
  | inf => exact hy.elim
  | fin t c2 q2 =>
    obtain rfl := whole_pos hx ha
    obtain rfl := whole_pos hy hn
    have hq := quot_whole hx hy ha hn
    have hle : zmag b64 (quotient b64 (.fin false c1 q1) (.fin false c2 q2)) ≤ zmag b64 (.fin false (2 ^ 52) (-52)) := by rw [hq]; exact rr_le_one (by omega) (by omega)
    have hge : zmag b64 (.fin false c2 q2) ≤ zmag b64 (roundRatio b64 false m 1 0) := by
      refine zmag_roundRatio_ge good_b64 (e0 := b64.qmin) (by decide) hyf (Int.le_refl _) (by rw [qm]; decide) ?_
      have u := whole_nat hy hyf.2.1 (by rw [qm]; decide) (by omega)
      simp only [zmag]
      rw [u, qm, show (-1074 - -1074 : Int).toNat = 0 by decide, Nat.pow_zero, Nat.mul_one, Nat.mul_one]
      unfold inUnits
      rw [show (0 - -1074 : Int).toNat = (- -1074 : Int).toNat by decide]
      exact Nat.mul_le_mul_right _ hnm
    have hc2 : c2 ≠ 0 := fun z => by
      have u := whole_nat hy hyf.2.1 (by rw [qm]; decide) (by omega)
      rw [z] at u; unfold inUnits at u; rw [Nat.zero_mul] at u
      have := Nat.two_pow_pos (-b64.qmin).toNat
      rcases Nat.mul_eq_zero.mp u.symm with w | w <;> omega
    have hfm := roundRatio_fits good_b64 false m (B := 1) (by decide) 0
    rcases roundRatio_cases b64 false m 1 0 with ⟨cy, qy, hR⟩ | hR
    · rw [hR] at hge hfm ⊢
      have hcy : cy ≠ 0 := fun z => by
        rw [z] at hge
        simp only [zmag, inUnits, Nat.zero_mul] at hge
        have p := Nat.two_pow_pos (q2 - b64.qmin).toNat
        rcases Nat.mul_eq_zero.mp (Nat.le_zero.mp hge) with w | w <;> omega
      simp only [quotient, hc2, hcy, if_false] at hle ⊢
      obtain ⟨ck, qk, hk⟩ := rr_fin hle
      have hxy : zmag b64 (.fin false c1 q1) ≤ zmag b64 (.fin false c2 q2) := by
        have u := whole_nat hy hyf.2.1 (by rw [qm]; decide) (by omega)
        have v := whole_nat hx hxf.2.1 (by rw [qm]; decide) (by omega)
        simp only [zmag]; rw [u, v]
        exact Nat.mul_le_mul_right _ (by omega)
      have hxm := Nat.le_trans hxy hge
      obtain ⟨b1, b2, b3, -⟩ := hxf
      obtain ⟨b4, b5, b6, -⟩ := hfm
      obtain ⟨b7, b8, b9, -⟩ := hyf
      simp only [zmag, inUnits] at hxm hge
      rw [qm] at hxm hge b2 b5 b8
      have hqx : b64.qmax = 971 := by decide
      rw [hqx] at b3 b6 b9
      obtain ⟨K5, h5⟩ : ∃ K : Nat, K = 5000 := ⟨_, rfl⟩
      obtain ⟨K8, h8⟩ : ∃ K : Nat, K = 8000 := ⟨_, rfl⟩
      obtain ⟨K9, h9⟩ : ∃ K : Nat, K = 9000 := ⟨_, rfl⟩
      have hle1 : zmag b64 (roundRatio b64 (false != false) c1 cy (q1 - qy)) ≤ zmag b64 (.fin false (2 ^ 52) (-52)) := by
        refine zmag_roundRatio_le good_b64 (e0 := -(K5 : Int)) (by omega) one_fits (by simp) (by rw [qm]; omega) (by omega) ?_
        simp only [zmag, inUnits, qm]
        rw [← Nat.pow_add, ← Nat.pow_add, show 52 + (-52 - -1074 : Int).toNat + (-1074 - -(K5 : Int)).toNat = K5 by omega]
        refine Nat.le_of_mul_le_mul_right ?_ (Nat.two_pow_pos (qy + 1074).toNat)
        calc c1 * 2 ^ (q1 - qy - -(K5 : Int)).toNat * 2 ^ (qy + 1074).toNat = c1 * 2 ^ (q1 - -1074).toNat * 2 ^ K5 := by
              rw [Nat.mul_assoc, Nat.mul_assoc, ← Nat.pow_add, ← Nat.pow_add]; congr 2; omega
          _ ≤ cy * 2 ^ (qy - -1074).toNat * 2 ^ K5 := Nat.mul_le_mul_right _ hxm
          _ = 2 ^ K5 * cy * 2 ^ (qy + 1074).toNat := by rw [show (qy - -1074).toNat = (qy + 1074).toNat by omega]; ac_rfl
      obtain ⟨cl, ql, hl⟩ := rr_fin hle1
      refine rr_mono (e0 := -(K9 : Int)) (by omega) (by omega) hl hk (by rw [qm]; omega) (by omega) (by omega) ?_
      unfold inUnits
      refine Nat.le_of_mul_le_mul_right ?_ (Nat.two_pow_pos (qy + q2 + 1074 + K8).toNat)
      have k := Nat.mul_le_mul_left (c1 * 2 ^ (q1 + K9).toNat * 2 ^ K8) hge
      calc c1 * 2 ^ (q1 - qy - -(K9 : Int)).toNat * c2 * 2 ^ (qy + q2 + 1074 + K8).toNat = c1 * 2 ^ (q1 + K9).toNat * 2 ^ K8 * (c2 * 2 ^ (q2 - -1074).toNat) := by
            have e : 2 ^ (q1 - qy - -(K9 : Int)).toNat * 2 ^ (qy + q2 + 1074 + K8).toNat = 2 ^ (q1 + K9).toNat * 2 ^ K8 * 2 ^ (q2 - -1074).toNat := by
              rw [← Nat.pow_add, ← Nat.pow_add, ← Nat.pow_add]; congr 1; omega
            calc c1 * 2 ^ (q1 - qy - -(K9 : Int)).toNat * c2 * 2 ^ (qy + q2 + 1074 + K8).toNat = c1 * c2 * (2 ^ (q1 - qy - -(K9 : Int)).toNat * 2 ^ (qy + q2 + 1074 + K8).toNat) := by ac_rfl
              _ = c1 * c2 * (2 ^ (q1 + K9).toNat * 2 ^ K8 * 2 ^ (q2 - -1074).toNat) := by rw [e]
              _ = _ := by ac_rfl
        _ ≤ c1 * 2 ^ (q1 + K9).toNat * 2 ^ K8 * (cy * 2 ^ (qy - -1074).toNat) := k
        _ = c1 * 2 ^ (q1 - q2 - -(K9 : Int)).toNat * cy * 2 ^ (qy + q2 + 1074 + K8).toNat := by
            have e : 2 ^ (q1 - q2 - -(K9 : Int)).toNat * 2 ^ (qy + q2 + 1074 + K8).toNat = 2 ^ (q1 + K9).toNat * 2 ^ K8 * 2 ^ (qy - -1074).toNat := by
              rw [← Nat.pow_add, ← Nat.pow_add, ← Nat.pow_add]; congr 1; omega
            calc c1 * 2 ^ (q1 + K9).toNat * 2 ^ K8 * (cy * 2 ^ (qy - -1074).toNat) = c1 * cy * (2 ^ (q1 + K9).toNat * 2 ^ K8 * 2 ^ (qy - -1074).toNat) := by ac_rfl
              _ = c1 * cy * (2 ^ (q1 - q2 - -(K9 : Int)).toNat * 2 ^ (qy + q2 + 1074 + K8).toNat) := by rw [e]
              _ = _ := by ac_rfl
    · rw [hR]
      simp only [quotient, zmag, inUnits, Nat.zero_mul]
      exact Nat.zero_le _
theorem big_fits : FP.Core.fits b64 (.fin false (2 ^ 52) 3) := by unfold FP.Core.fits; decide
theorem cm_pos {x : Datum} {a : Int} {m : Nat} (hx : Whole a x) (hxf : FP.Core.fits b64 x) (ha : 0 < a) (hm0 : 0 < m) (hm : m ≤ 2 ^ 55) :
    zmag b64 (.fin false (2 ^ 52) (-112)) ≤ zmag b64 (quotient b64 x (roundRatio b64 false m 1 0)) := by
  cases x with
  | nan => exact hx.elim
  | inf => exact hx.elim
  | fin s c1 q1 =>
    obtain rfl := whole_pos hx ha
    have hu : zmag b64 (roundRatio b64 false m 1 0) ≤ zmag b64 (.fin false (2 ^ 52) 3) := by
      refine zmag_roundRatio_le good_b64 (e0 := b64.qmin) (by decide) big_fits (by simp) (Int.le_refl _) (by rw [qm]; decide) ?_
      simp only [zmag, inUnits, qm]
      rw [show (-1074 - -1074 : Int).toNat = 0 by decide, show (3 - -1074 : Int).toNat = 3 + 1074 by decide, show (0 - -1074 : Int).toNat = 1074 by decide, Nat.pow_zero, Nat.mul_one, Nat.mul_one, Nat.pow_add, ← Nat.mul_assoc, ← Nat.pow_add]
      exact Nat.mul_le_mul_right _ hm
    have hl : zmag b64 (.fin false (2 ^ 52) (-52)) ≤ zmag b64 (roundRatio b64 false m 1 0) := by
      refine zmag_roundRatio_ge good_b64 (e0 := b64.qmin) (by decide) one_fits (Int.le_refl _) (by rw [qm]; decide) ?_
      simp only [zmag, inUnits, qm]
      rw [show (-1074 - -1074 : Int).toNat = 0 by decide, show (-52 - -1074 : Int).toNat = 1022 by decide, show (0 - -1074 : Int).toNat = 52 + 1022 by decide, Nat.pow_zero, Nat.mul_one, Nat.mul_one, ← Nat.pow_add]
      exact Nat.le_mul_of_pos_left _ hm0
    have hfm := roundRatio_fits good_b64 false m (B := 1) (by decide) 0
    rcases roundRatio_cases b64 false m 1 0 with ⟨cy, qy, hR⟩ | hR
    · rw [hR] at hu hl hfm ⊢
      obtain ⟨b1, b2, b3, -⟩ := hxf
      obtain ⟨b4, b5, b6, -⟩ := hfm
      have v := whole_nat hx b2 (by rw [qm]; decide) (by omega)
      rw [qm] at b2 b5 v
      have hqx : b64.qmax = 971 := by decide
      rw [hqx] at b3 b6
      have hcy : cy ≠ 0 := fun z => by
        rw [z] at hl
        simp only [zmag, inUnits, Nat.zero_mul] at hl
        exact absurd hl (by decide +kernel)
      simp only [quotient, hcy, if_false]
      simp only [zmag, inUnits, qm] at hu v
      obtain ⟨K5, h5⟩ : ∃ K : Nat, K = 5000 := ⟨_, rfl⟩
      refine zmag_roundRatio_ge good_b64 (e0 := -(K5 : Int)) (by omega) tiny_fits (by rw [qm]; omega) (by omega) ?_
      simp only [zmag, inUnits, qm]
      rw [← Nat.pow_add, ← Nat.pow_add]
      refine Nat.le_of_mul_le_mul_right ?_ (Nat.two_pow_pos (qy + 1074).toNat)
      have h3 : 2 ^ 52 * 2 ^ (3 - -1074 : Int).toNat ≤ 2 ^ 60 * (a.toNat * 2 ^ (- -1074 : Int).toNat) := by
        have e : 2 ^ 52 * 2 ^ (3 - -1074 : Int).toNat = 2 ^ 55 * 2 ^ (- -1074 : Int).toNat := by rw [← Nat.pow_add, ← Nat.pow_add]; congr 1
        rw [e, ← Nat.mul_assoc]
        refine Nat.mul_le_mul_right _ ?_
        have : (2 : Nat) ^ 55 ≤ 2 ^ 60 * 1 := by decide
        exact Nat.le_trans this (Nat.mul_le_mul_left _ (by omega))
      have h4 := Nat.le_trans hu h3
      rw [← v] at h4
      have k := Nat.mul_le_mul_left (2 ^ (K5 - 60)) h4
      calc 2 ^ (52 + (-112 - -1074 : Int).toNat + (-1074 - -(K5 : Int)).toNat) * cy * 2 ^ (qy + 1074).toNat = 2 ^ (K5 - 60) * (cy * 2 ^ (qy - -1074).toNat) := by
            rw [show 52 + (-112 - -1074 : Int).toNat + (-1074 - -(K5 : Int)).toNat = K5 - 60 by omega, show (qy - -1074).toNat = (qy + 1074).toNat by omega, Nat.mul_assoc]
        _ ≤ 2 ^ (K5 - 60) * (2 ^ 60 * (c1 * 2 ^ (q1 - -1074).toNat)) := k
        _ = c1 * 2 ^ (q1 - qy - -(K5 : Int)).toNat * 2 ^ (qy + 1074).toNat := by
            rw [← Nat.mul_assoc, ← Nat.pow_add, Nat.mul_left_comm, ← Nat.pow_add, Nat.mul_assoc, ← Nat.pow_add]
            congr 2; omega
    · rw [hR] at hu
      exact absurd hu (by decide +kernel)
theorem own_e53 : (2 : Nat) ^ 53 = 9007199254740992 := by decide
theorem own_e55 : (2 : Nat) ^ 55 = 36028797018963968 := by decide
theorem own_e60 : (2 : Nat) ^ 60 = 1152921504606846976 := by decide
theorem sgn_quot {c : Nat} {q : Int} {y : Datum} (hy : sgn y = false) (h : 0 < zmag b64 (quotient b64 (.fin false c q) y)) : sgn (quotient b64 (.fin false c q) y) = false ∧ quotient b64 (.fin false c q) y ≠ .nan := by
  cases y with
  | nan => exact absurd h (by simp [quotient, zmag])
  | inf t => obtain rfl : t = false := hy; exact ⟨rfl, by simp [quotient]⟩
  | fin t d r =>
    obtain rfl : t = false := hy
    simp only [quotient] at h ⊢
    split
    · split
      · rename_i h1 h2; rw [if_pos h1, if_pos h2] at h; exact absurd h (by simp [zmag])
      · exact ⟨rfl, by simp⟩
    · exact ⟨sgn_roundRatio _ _ _ _ _, roundRatio_ne_nan _ _ _ _ _⟩
theorem dc {x y : UInt64} (hx : sgn (val64 x) = false ∧ val64 x ≠ .nan) (hy : sgn (val64 y) = false ∧ val64 y ≠ .nan) : FP.dcmp x y = some (compare (zmag b64 (val64 x) : Int) (zmag b64 (val64 y) : Int)) := by
  have h := dcmp_zval hx.2 hy.2
  unfold zval at h
  rw [hx.1, hy.1] at h
  exact h
theorem cv_lt {x y : UInt64} (h : FP.dcmp x y = some .lt) (o : CmpOp) : cmpValue (FP.dcmp x y) o = -1 := by rw [h]; cases o <;> rfl
theorem cv_eq {x y : UInt64} (h : FP.dcmp x y = some .eq) (o : CmpOp) : cmpValue (FP.dcmp x y) o = 0 := by rw [h]; cases o <;> rfl
theorem cv_gt {x y : UInt64} (h : FP.dcmp x y = some .gt) (o : CmpOp) : cmpValue (FP.dcmp x y) o = 1 := by rw [h]; cases o <;> rfl
theorem co_lt {a b : Nat} (h : a < b) : compare (a : Int) (b : Int) = .lt := by
  show compareOfLessAndEq (a : Int) (b : Int) = .lt
  unfold compareOfLessAndEq
  rw [if_pos (by omega)]
theorem co_gt {a b : Nat} (h : b < a) : compare (a : Int) (b : Int) = .gt := by
  show compareOfLessAndEq (a : Int) (b : Int) = .gt
  unfold compareOfLessAndEq
  rw [if_neg (by omega), if_neg (by omega)]
theorem co_eq {a b : Nat} (h : a = b) : compare (a : Int) (b : Int) = .eq := by simp [compare, compareOfLessAndEq, h]
theorem v_zero : val64 0 = .fin false 0 (-1074) := by decide +kernel
theorem v_one : val64 4607182418800017408 = .fin false (2 ^ 52) (-52) := by decide +kernel
theorem v_half : val64 4602678819172646912 = .fin false (2 ^ 52) (-53) := by decide +kernel
theorem val_fin {x : UInt64} {i : Int} (h : Whole i (val64 x)) : ∃ s c q, val64 x = .fin s c q := by
  cases e : val64 x with
  | nan => rw [e] at h; exact h.elim
  | inf => rw [e] at h; exact h.elim
  | fin s c q => exact ⟨s, c, q, rfl⟩
theorem lw {a : Int64} (h : 0 ≤ a.toInt) (h2 : a.toInt ≤ 9007199254740992) : Whole a.toInt (val64 (FP.l2d a)) := l2d_int (by omega)
theorem q_ab {A N : Int64} (hA : 1 ≤ A.toInt) (hN : A.toInt ≤ N.toInt) (hN2 : N.toInt ≤ 9007199254740992) : val64 (FP.ddiv (FP.l2d A) (FP.l2d N)) = roundRatio b64 false A.toInt.toNat N.toInt.toNat 0 := by
  show val64 (ddiv (l2d A) (l2d N)) = _
  rw [val64_ddiv]
  exact quot_whole (lw (by omega) (by omega)) (lw (by omega) hN2) (by omega) (by omega)
theorem rsg {A N : Nat} : sgn (roundRatio b64 false A N 0) = false ∧ roundRatio b64 false A N 0 ≠ .nan := ⟨sgn_roundRatio _ _ _ _ _, roundRatio_ne_nan _ _ _ _ _⟩
theorem zt : 0 < zmag b64 (.fin false (2 ^ 52) (-112)) := by decide +kernel
theorem zn : zmag b64 (.fin false (2 ^ 53 - 1) (-53)) < zmag b64 (.fin false (2 ^ 52) (-52)) := by decide +kernel
theorem own_nn {x : UInt64} (h : val64 x ≠ .nan) : Jvm.Free.Fl.NoNaN64 x := Jvm.Free.Fl.val64_no.mpr h
/-- c = A / N, N = A + D -/
theorem own_c {A N : Int64} (hA : 1 ≤ A.toInt) (hN : A.toInt ≤ N.toInt) (hN2 : N.toInt ≤ 9007199254740992) :
    Jvm.Free.Fl.NoNaN64 (FP.ddiv (FP.l2d A) (FP.l2d N)) ∧ cmpValue (FP.dcmp (FP.ddiv (FP.l2d A) (FP.l2d N)) 0) .l = 1 ∧
    (A.toInt = N.toInt → cmpValue (FP.dcmp (FP.ddiv (FP.l2d A) (FP.l2d N)) 4607182418800017408) .l = 0 ∧ cmpValue (FP.dcmp (FP.ddiv (FP.l2d A) (FP.l2d N)) 4607182418800017408) .g = 0) ∧
    (A.toInt < N.toInt ∧ N.toInt < 9007199254740992 → cmpValue (FP.dcmp (FP.ddiv (FP.l2d A) (FP.l2d N)) 4607182418800017408) .l = -1 ∧ cmpValue (FP.dcmp (FP.ddiv (FP.l2d A) (FP.l2d N)) 4607182418800017408) .g = -1) ∧
    (N.toInt = A.toInt + A.toInt → cmpValue (FP.dcmp (FP.ddiv (FP.l2d A) (FP.l2d N)) 4602678819172646912) .l = 0) := by
  have hv := q_ab hA hN hN2
  have hs : sgn (val64 (FP.ddiv (FP.l2d A) (FP.l2d N))) = false ∧ val64 (FP.ddiv (FP.l2d A) (FP.l2d N)) ≠ .nan := by rw [hv]; exact rsg
  have s0 : sgn (val64 0) = false ∧ val64 0 ≠ .nan := by rw [v_zero]; exact ⟨rfl, by simp⟩
  have s1 : sgn (val64 4607182418800017408) = false ∧ val64 4607182418800017408 ≠ .nan := by rw [v_one]; exact ⟨rfl, by simp⟩
  have s2 : sgn (val64 4602678819172646912) = false ∧ val64 4602678819172646912 ≠ .nan := by rw [v_half]; exact ⟨rfl, by simp⟩
  refine ⟨own_nn hs.2, ?_, fun e => ?_, fun e => ?_, fun e => ?_⟩
  · refine cv_gt ((dc hs s0).trans (congrArg some (co_gt ?_))) _
    rw [hv, v_zero]
    have := rr_pos (a := A.toInt.toNat) (n := N.toInt.toNat) (by omega) (by omega) (by have := own_e60; omega)
    have z : zmag b64 (.fin false 0 (-1074)) = 0 := by simp [zmag, inUnits]
    rw [z]; have := zt; omega
  · have q : FP.dcmp (FP.ddiv (FP.l2d A) (FP.l2d N)) 4607182418800017408 = some .eq := (dc hs s1).trans (congrArg some (co_eq (by rw [hv, v_one, e, rr_one (by omega)])))
    exact ⟨cv_eq q _, cv_eq q _⟩
  · have q : FP.dcmp (FP.ddiv (FP.l2d A) (FP.l2d N)) 4607182418800017408 = some .lt := (dc hs s1).trans (congrArg some (co_lt (by
      rw [hv, v_one]
      exact Nat.lt_of_le_of_lt (rr_lt_one (by have := own_e53; omega) (by omega)) zn)))
    exact ⟨cv_lt q _, cv_lt q _⟩
  · refine cv_eq ((dc hs s2).trans (congrArg some (co_eq ?_))) _
    rw [hv, v_half, e, show (A.toInt + A.toInt).toNat = A.toInt.toNat + A.toInt.toNat by omega, rr_half (by omega)]
/-- twice over -/
theorem own_c2 {A N A2 N2 : Int64} (hA : 1 ≤ A.toInt) (hN : A.toInt ≤ N.toInt) (hNs : N.toInt < 9007199254740992) (h1 : A2.toInt = 2 * A.toInt) (h2 : N2.toInt = 2 * N.toInt) :
    Jvm.Free.Fl.NoNaN64 (FP.ddiv (FP.l2d A2) (FP.l2d N2)) ∧ cmpValue (FP.dcmp (FP.ddiv (FP.l2d A2) (FP.l2d N2)) (FP.ddiv (FP.l2d A) (FP.l2d N))) .l = 0 := by
  have hv := q_ab hA hN (by omega)
  have w1 : Whole ((2 * A.toInt.toNat : Nat) : Int) (val64 (l2d A2)) := by rw [l2d_nat (m := A2) (k := 2 * A.toInt.toNat) (by omega)]; exact dbl (by omega) (by have := own_e53; omega)
  have w2 : Whole ((2 * N.toInt.toNat : Nat) : Int) (val64 (l2d N2)) := by rw [l2d_nat (m := N2) (k := 2 * N.toInt.toNat) (by omega)]; exact dbl (by omega) (by have := own_e53; omega)
  have hv2 : val64 (FP.ddiv (FP.l2d A2) (FP.l2d N2)) = roundRatio b64 false A.toInt.toNat N.toInt.toNat 0 := by
    show val64 (ddiv (l2d A2) (l2d N2)) = _
    rw [val64_ddiv, quot_whole w1 w2 (by omega) (by omega)]
    refine roundRatio_congr (by omega) (by omega) ?_
    rw [show ((2 * A.toInt.toNat : Nat) : Int).toNat = 2 * A.toInt.toNat by omega, show ((2 * N.toInt.toNat : Nat) : Int).toNat = 2 * N.toInt.toNat by omega]
    simp; ac_rfl
  have hs : sgn (val64 (FP.ddiv (FP.l2d A) (FP.l2d N))) = false ∧ val64 (FP.ddiv (FP.l2d A) (FP.l2d N)) ≠ .nan := by rw [hv]; exact rsg
  have hs2 : sgn (val64 (FP.ddiv (FP.l2d A2) (FP.l2d N2))) = false ∧ val64 (FP.ddiv (FP.l2d A2) (FP.l2d N2)) ≠ .nan := by rw [hv2]; exact rsg
  exact ⟨own_nn hs2.2, cv_eq ((dc hs2 hs).trans (congrArg some (co_eq (by rw [hv, hv2])))) _⟩
theorem own_cm {A N M : Int64} (hA : 1 ≤ A.toInt) (hN : A.toInt ≤ N.toInt) (hNs : N.toInt < 9007199254740992) (hM : N.toInt ≤ M.toInt) (hM2 : M.toInt ≤ 36028797018963968) :
    Jvm.Free.Fl.NoNaN64 (FP.ddiv (FP.l2d A) (FP.l2d M)) ∧ ¬ (0 : Int32) < cmpValue (FP.dcmp (FP.ddiv (FP.l2d A) (FP.l2d M)) (FP.ddiv (FP.l2d A) (FP.l2d N))) .g ∧ cmpValue (FP.dcmp (FP.ddiv (FP.l2d A) (FP.l2d M)) 0) .l = 1 := by
  have hv := q_ab hA hN (by omega)
  have wA := lw (a := A) (by omega) (by omega)
  have wN := lw (a := N) (by omega) (by omega)
  have hm := l2d_nat (m := M) (k := M.toInt.toNat) (by omega)
  have e1 : val64 (FP.ddiv (FP.l2d A) (FP.l2d M)) = quotient b64 (val64 (l2d A)) (roundRatio b64 false M.toInt.toNat 1 0) := by
    show val64 (ddiv (l2d A) (l2d M)) = _
    rw [val64_ddiv, hm]
  have e2 : val64 (FP.ddiv (FP.l2d A) (FP.l2d N)) = quotient b64 (val64 (l2d A)) (val64 (l2d N)) := val64_ddiv _ _
  have p1 := cm_pos (m := M.toInt.toNat) wA (val64_fits _) (by omega) (by omega) (by have := own_e55; omega)
  have p2 := cm_le (m := M.toInt.toNat) wA (val64_fits _) wN (val64_fits _) (by omega) (by omega) (by omega) hN
  have hs : sgn (val64 (FP.ddiv (FP.l2d A) (FP.l2d N))) = false ∧ val64 (FP.ddiv (FP.l2d A) (FP.l2d N)) ≠ .nan := by rw [hv]; exact rsg
  have hsm : sgn (val64 (FP.ddiv (FP.l2d A) (FP.l2d M))) = false ∧ val64 (FP.ddiv (FP.l2d A) (FP.l2d M)) ≠ .nan := by
    rw [e1]
    obtain ⟨s, c, q, hx⟩ := val_fin wA
    change val64 (l2d A) = _ at hx
    have wA' := wA
    change Whole _ (val64 (l2d A)) at wA'
    rw [hx] at wA' p1 ⊢
    obtain rfl := whole_pos wA' (by omega)
    exact sgn_quot rsg.1 (Nat.lt_of_lt_of_le zt p1)
  have s0 : sgn (val64 0) = false ∧ val64 0 ≠ .nan := by rw [v_zero]; exact ⟨rfl, by simp⟩
  refine ⟨own_nn hsm.2, ?_, ?_⟩
  · have hle : zmag b64 (val64 (FP.ddiv (FP.l2d A) (FP.l2d M))) ≤ zmag b64 (val64 (FP.ddiv (FP.l2d A) (FP.l2d N))) := by rw [e1, e2]; exact p2
    rcases Nat.lt_or_eq_of_le hle with h | h
    · rw [cv_lt ((dc hsm hs).trans (congrArg some (co_lt h))) _]; decide
    · rw [cv_eq ((dc hsm hs).trans (congrArg some (co_eq h))) _]; decide
  · refine cv_gt ((dc hsm s0).trans (congrArg some (co_gt ?_))) _
    rw [e1, v_zero]
    have z : zmag b64 (.fin false 0 (-1074)) = 0 := by simp [zmag, inUnits]
    rw [z]; exact Nat.lt_of_lt_of_le zt p1
theorem own_A (x : Int64) : 1 ≤ ((x &&& (4503599627370495 : Int64)) + (1 : Int64)).toInt ∧ ((x &&& (4503599627370495 : Int64)) + (1 : Int64)).toInt ≤ 4503599627370496 := by
  have a := c_maskL x (4503599627370495 : Int64) 52 (by decide) (by decide)
  have b := c_ladd (x &&& (4503599627370495 : Int64)) (1 : Int64)
  have e1 : (1 : Int64).toInt = 1 := rfl
  have r := rng64 ((x &&& (4503599627370495 : Int64)) + (1 : Int64))
  omega
theorem own_D (x : Int64) : 0 ≤ (x &&& (4503599627370495 : Int64)).toInt ∧ (x &&& (4503599627370495 : Int64)).toInt ≤ 4503599627370495 := by
  have a := c_maskL x (4503599627370495 : Int64) 52 (by decide) (by decide)
  omega
theorem own_sums {A D E : Int64} (hA : 1 ≤ A.toInt ∧ A.toInt ≤ 4503599627370496) (hD : 0 ≤ D.toInt ∧ D.toInt ≤ 4503599627370495) (hE : 0 ≤ E.toInt ∧ E.toInt ≤ 4503599627370495) :
    (A + D).toInt = A.toInt + D.toInt ∧ (A + (0 : Int64)).toInt = A.toInt ∧ (A + A).toInt = A.toInt + A.toInt ∧ ((2 : Int64) * A).toInt = 2 * A.toInt ∧ (((2 : Int64) * A) + ((2 : Int64) * D)).toInt = 2 * (A + D).toInt ∧ (A + (D + E)).toInt = A.toInt + D.toInt + E.toInt := by
  have e0 : (0 : Int64).toInt = 0 := rfl
  have e2 : (2 : Int64).toInt = 2 := rfl
  have a1 := c_ladd A D; have r1 := rng64 (A + D)
  have a2 := c_ladd A (0 : Int64); have r2 := rng64 (A + (0 : Int64))
  have a3 := c_ladd A A; have r3 := rng64 (A + A)
  have a4 := c_lmul (2 : Int64) A; have r4 := rng64 ((2 : Int64) * A); rw [e2] at a4
  have a5 := c_lmul (2 : Int64) D; have r5 := rng64 ((2 : Int64) * D); rw [e2] at a5
  have a6 := c_ladd ((2 : Int64) * A) ((2 : Int64) * D); have r6 := rng64 (((2 : Int64) * A) + ((2 : Int64) * D))
  have a7 := c_ladd D E; have r7 := rng64 (D + E)
  have a8 := c_ladd A (D + E); have r8 := rng64 (A + (D + E))
  refine ⟨by omega, by omega, by omega, by omega, by omega, by omega⟩
theorem own_p {x : Int32} (h : x = 1) : (0 : Int32) < x := by rw [h]; decide
theorem own_z {x : Int32} (h : x = 0) : ¬ (0 : Int32) < x := by rw [h]; decide
theorem own_m {x : Int32} (h : x = -1) : ¬ (0 : Int32) < x := by rw [h]; decide
theorem own_m0 {x : Int32} (h : x = -1) : ¬ x = (0 : Int32) := by rw [h]; decide
theorem own_lc {x : Int64} : (lcmpW x (0 : Int64)) = (0 : Int32) ↔ x = (0 : Int64) := by
  unfold lcmpW; constructor
  · intro h; split at h
    · cases h
    · split at h
      · assumption
      · cases h
  · intro h; subst h; decide
theorem own_c255 (x : Int32) : ¬ ((x &&& (255 : Int32)).toUInt32.toUInt16.toUInt32.toInt32) < 0 ∧ ¬ (255 : Int32) < ((x &&& (255 : Int32)).toUInt32.toUInt16.toUInt32.toInt32) := by
  have e0 : (0 : Int32).toInt = 0 := rfl
  have e1 : (255 : Int32).toInt = 255 := rfl
  have a := c_mask x (255 : Int32) 8 (by decide) (by decide)
  have c := c_i2c (x &&& (255 : Int32))
  simp only [Int32.lt_iff_toInt_lt]
  omega
end Own
end Jvm.Pilot.@@N@@
namespace Jvm.Pilot.@@N@@
open Jvm Jvm.ClassFile Sem Op Lib Jvm.Free Jvm.Stand Jvm.LawKit Jvm.RoadKit Bundle Jvm.Pilot.@@N@@.Jvm.D Jvm.Pilot.@@N@@.Own
theorem own_dconst0 : FP.dconst0 = (0 : UInt64) := by decide +kernel
theorem own_dconst1 : FP.dconst1 = (4607182418800017408 : UInt64) := by decide +kernel
abbrev Hw (Z : State) (a0 : Array Value) : Prop := ∀ d ∈ tables_1, d.before a0 Z = true
theorem wd {Z : State} {a0 : Array Value} (hw : Hw Z a0) (i : Nat) {d : Jvm.Cond} (h : tables_1[i]? = some d := by rfl) : d.before a0 Z = true := hw d (List.mem_of_getElem? h)
theorem nb {a b : Nat} (h : Nat.ble a b = true) : a ≤ b := Nat.le_of_ble_eq_true h
abbrev MF (l : Launch) (Z : State) (y : MethodName) (bytes : ByteArray) (maxL : Nat) (ret : Option FieldType) (ws : List Jvm.Cond) (RT : Room) (as' : Array Value) (h0 : Heap) (Q : Option Value → Heap → List Loc → Prop) : Prop :=
  MetFree l y (head1 (Jvm.Cond.code y bytes maxL ret :: ws) RT) (fun a U => a = as' ∧ Z.Warmed39 U.vm ∧ U.heap = h0) (fun _ _ _ _ _ => True) (fun _ U o U' => ∃ v L, o = .returned v ∧ Q v U'.heap L ∧ FrameEnd U o U' L RT.cells RT.slots)
theorem MF.of {l : Launch} {Z : State} {y : MethodName} {bytes : ByteArray} {maxL : Nat} {ret : Option FieldType} {ws : List Jvm.Cond} {RT : Room} {as' : Array Value} {h0 : Heap} {Q : Option Value → Heap → List Loc → Prop} {Ls : Array Slot} (pn : plainFor y = true) (ef : ∀ m, entryFrame m as' maxL = mkF m 0 Ls [])
    (k : ∀ (p : Program) (e : Env) (s : State) (m : MethodId) (below : List Frame) (meth : Method) (c : Code) (s₁ : State) (G : Outcome → State → Prop), Stand p l e RT s m as' below meth c s₁ [] 0 0 → s₁.heap = h0 → p.tables.exec = Jvm.exec → c.code = bytes → c.maxLocals = maxL → s.vm.findClass y.cls = some m.cls → meth.name = y.name → meth.locks = false → meth.sig.returnType = ret → Z.Warmed39 s.vm → s.methodNamed? y = some m →
      (∀ o u, (∃ v L, o = .returned v ∧ Q v u.heap L ∧ FrameEnd s o u L RT.cells RT.slots) → G o u) → Owe p.tables e below G s₁ (mkF m 0 Ls [])) : MF l Z y bytes maxL ret ws RT as' h0 Q := by
  refine MetFree.of_bodySF pn hisR ?_
  intro p e s m args below meth c s₁ Bd hml hP hK
  obtain ⟨rfl, hZ, hh⟩ := hP
  obtain ⟨u, o, h1, h2, h3, h4⟩ := k p e s m below meth c s₁ (fun o u => ∃ v L, o = .returned v ∧ Q v u.heap L ∧ FrameEnd s o u L RT.cells RT.slots) (Stand.of_body Bd) (by rw [← hh, Bd.state]; rfl) Bd.exec Bd.bytes hml (findClass_of_methodNamed Bd.named) (name_of_methodNamed Bd.named Bd.method).1 (BodyLoose.notSynchronized Bd) Bd.returns hZ Bd.named (fun _ _ q => q)
  exact ⟨u, o, castTop (ef m) h1, h2, h3, h4⟩
theorem and255_chars (x : Int32) : ¬ nar .char ((x &&& (255 : Int32)).toUInt32.toUInt16.toUInt32.toInt32) < 0 ∧ ¬ (255 : Int32) < nar .char ((x &&& (255 : Int32)).toUInt32.toUInt16.toUInt32.toInt32) := by
  have t : ∀ k : Fin 256, ¬ nar .char ((Int32.ofNat k.val).toUInt32.toUInt16.toUInt32.toInt32) < 0 ∧ ¬ (255 : Int32) < nar .char ((Int32.ofNat k.val).toUInt32.toUInt16.toUInt32.toInt32) := by decide +kernel
  have h : (x &&& 255).toBitVec.toNat < 256 := by
    simp only [Int32.toBitVec_and, BitVec.toNat_and]
    exact Nat.lt_succ_of_le Nat.and_le_right
  have e : (x &&& 255) = Int32.ofNat (x &&& 255).toBitVec.toNat := by
    apply Int32.toBitVec_inj.mp
    show _ = BitVec.ofNat 32 _
    rw [BitVec.ofNat_toNat]; simp
  rw [e]
  exact t ⟨_, h⟩
theorem own_narrow_ref {v : Value} {t : FieldType} (h : v.isRef = true) (ht : t.isReference = true) : narrow t v = v := by cases t <;> first | (cases ht; done) | (cases v <;> first | rfl | (cases h; done))
theorem own_fits_ref {v : Value} {t : FieldType} (h : v.isRef = true) (ht : t.isReference = true) : fits t v = true := by cases t <;> first | (cases ht; done) | (cases v <;> first | rfl | (cases h; done))
theorem own_cat_ref {v : Value} (h : v.isRef = true) : v.category = 1 := by cases v <;> first | rfl | (cases h; done)
abbrev Y0 : MethodName := ⟨"java/lang/Record", "<init>", "()V"⟩
abbrev Y1 : MethodName := ⟨"java/lang/StringLatin1", "canEncode", "(C)Z"⟩
abbrev Y2 : MethodName := ⟨"java/lang/StringLatin1", "toBytes", "(C)[B"⟩
abbrev Y3 : MethodName := ⟨"java/lang/String", "<init>", "([BB)V"⟩
abbrev Y4 : MethodName := ⟨"java/lang/String", "valueOf", "(C)Ljava/lang/String;"⟩
abbrev Y5 : MethodName := ⟨"com/example/casewarden/casewarden/conformance/hmm/HmmVerdict", "<init>", "(Ljava/lang/String;JLjava/lang/String;DJZ)V"⟩
abbrev Y6 : MethodName := ⟨"com/example/casewarden/casewarden/conformance/hmm/HmmVerdict", "completeness", "()D"⟩
theorem pd_0 : parseMethodDescriptor "(C)Z" = some ⟨[.char], some .boolean⟩ := by decide +kernel
theorem pd_1 : parseMethodDescriptor "(C)[B" = some ⟨[.char], some (.array .byte)⟩ := by decide +kernel
theorem pd_2 : parseMethodDescriptor "([BB)V" = some ⟨[(.array .byte), .byte], none⟩ := by decide +kernel
theorem pd_3 : parseMethodDescriptor "()V" = some ⟨[], none⟩ := by decide +kernel
theorem pd_4 : parseMethodDescriptor "(C)Ljava/lang/String;" = some ⟨[.char], some (.object "java/lang/String")⟩ := by decide +kernel
theorem pd_5 : parseMethodDescriptor "(Ljava/lang/String;JLjava/lang/String;DJZ)V" = some ⟨[(.object "java/lang/String"), .long, (.object "java/lang/String"), .double, .long, .boolean], none⟩ := by decide +kernel
theorem pd_6 : parseMethodDescriptor "()D" = some ⟨[], some .double⟩ := by decide +kernel
theorem d0_0 : decode jdk_30_method_1_code 0 = .ok (.aload_n 0, 1) := by decide +kernel
theorem d0_1 : decode jdk_30_method_1_code 1 = .ok (.invokespecial 1, 3) := by decide +kernel
theorem d0_4 : decode jdk_30_method_1_code 4 = .ok (.return_, 1) := by decide +kernel
theorem pn_0 : plainName "java/lang/Record" = true := by first | (simp [plainName, overriddenIn]; done) | decide +kernel
theorem ef_rec (m : MethodId) (x0 : Addr)  : entryFrame m #[(.ref x0)] 1 = mkF m 0 #[.val (.ref x0)] [] := by first | (simp [entryFrame, mkF, argsToLocals, Value.category]; done) | rfl
def Qrec (Z : State) (a1 : Addr) (h0 : Heap) (n0 : Nat) (v : Option Value) (h : Heap) (L : List Loc) : Prop := v = none ∧ Fr n0 L ∧ h = h0
set_option maxRecDepth 65536 in
set_option maxHeartbeats 40000000 in
theorem rmrec (l : Launch) (Z : State) (a0 : Array Value) (hw : Hw Z a0) (ws : List Jvm.Cond) (a1 : Addr) (h0 : Heap) (n0 : Nat) (Z0 : n0 ≤ h0.size)  :
    MF l Z Y0 jdk_30_method_1_code 1 none ws ({ frames := 1, cells := 0, slots := 0, locals := 12 } : Room) #[(.ref a1)] h0 (Qrec Z a1 h0 n0) := by
  refine MF.of (plainFor_of_name pn_0) (fun m => ef_rec m a1) ?_
  intro p e s m below meth c s₁ G X0 e0 hx hby hml hown hnm hlk hrt hZ hnd hG
  have N0 := Fr.nil n0
  refine Owe.aloadN X0.here hx (hb hby d0_0) rfl rfl ?_
  refine Owe.objinit X0 hx hZ hown (wd hw 38) (wd hw 21) (wd hw 22) e0 (by rw [hml]; rfl) rfl (hb hby d0_1) (by decide) (W := 0) (nb rfl) (by decide) fun T1 X1 e1 => ?_
  refine Owe.ret0 X1 hx hlk hrt (hb hby d0_4) rfl fun fs hE => ?_
  refine hG _ _ ⟨_, _, rfl, ?_, frameMono hE (by decide) (by decide)⟩
  show Qrec Z a1 h0 n0 _ T1.heap _
  rw [e1]
  exact ⟨rfl, N0, rfl⟩
theorem d1_0 : decode jdk_43_method_3_code 0 = .ok (.iload_n 0, 1) := by decide +kernel
theorem d1_1 : decode jdk_43_method_3_code 1 = .ok (.sipush 255, 3) := by decide +kernel
theorem d1_4 : decode jdk_43_method_3_code 4 = .ok (.if_icmp .gt 7, 3) := by decide +kernel
theorem d1_7 : decode jdk_43_method_3_code 7 = .ok (.iconst 1, 1) := by decide +kernel
theorem d1_8 : decode jdk_43_method_3_code 8 = .ok (.goto 4, 3) := by decide +kernel
theorem d1_11 : decode jdk_43_method_3_code 11 = .ok (.iconst 0, 1) := by decide +kernel
theorem d1_12 : decode jdk_43_method_3_code 12 = .ok (.ireturn, 1) := by decide +kernel
theorem pn_1 : plainName "java/lang/StringLatin1" = true := by first | (simp [plainName, overriddenIn]; done) | decide +kernel
theorem ef_cen (m : MethodId) (x0 : Int32)  : entryFrame m #[(.int x0)] 1 = mkF m 0 #[.val (.int x0)] [] := by first | (simp [entryFrame, mkF, argsToLocals, Value.category]; done) | rfl
def Qcen (Z : State) (c1 : Int32) (h0 : Heap) (n0 : Nat) (v : Option Value) (h : Heap) (L : List Loc) : Prop := v = some (.int (1 : Int32)) ∧ Fr n0 L ∧ h = h0
set_option maxRecDepth 65536 in
set_option maxHeartbeats 40000000 in
theorem rmcen (l : Launch) (Z : State) (a0 : Array Value) (hw : Hw Z a0) (ws : List Jvm.Cond) (c1 : Int32) (h0 : Heap) (n0 : Nat) (Z0 : n0 ≤ h0.size) (hle : ¬ (255 : Int32) < c1) :
    MF l Z Y1 jdk_43_method_3_code 1 (some .boolean) ws ({ frames := 0, cells := 0, slots := 0, locals := 0 } : Room) #[(.int c1)] h0 (Qcen Z c1 h0 n0) := by
  refine MF.of (plainFor_of_name pn_1) (fun m => ef_cen m c1) ?_
  intro p e s m below meth c s₁ G X0 e0 hx hby hml hown hnm hlk hrt hZ hnd hG
  have N0 := Fr.nil n0
  refine Owe.iloadN X0.here hx (hb hby d1_0) rfl ?_
  refine Owe.sipush X0.here hx (hb hby d1_1) (w := (255 : Int32)) rfl ?_
  refine Owe.icmpNo X0.here hx (hb hby d1_4) rfl (flt hle).2.2.1 ?_
  refine Owe.iconst X0.here hx (hb hby d1_7) (w := (1 : Int32)) rfl ?_
  refine Owe.goto X0.here hx (hb hby d1_8) (pc' := 12) (by decide) (by decide) ?_
  refine Owe.retN X0 hx hlk (t := .boolean) hrt (by simp) (hb hby d1_12) rfl fun fs hE => ?_
  refine hG _ _ ⟨_, _, rfl, ?_, frameMono hE (by decide) (by decide)⟩
  show Qcen Z c1 h0 n0 _ s₁.heap _
  rw [e0]
  exact ⟨rfl, N0, rfl⟩
theorem d2_0 : decode jdk_43_method_46_code 0 = .ok (.iconst 1, 1) := by decide +kernel
theorem d2_1 : decode jdk_43_method_46_code 1 = .ok (.newarray .byte, 2) := by decide +kernel
theorem d2_3 : decode jdk_43_method_46_code 3 = .ok (.dup, 1) := by decide +kernel
theorem d2_4 : decode jdk_43_method_46_code 4 = .ok (.iconst 0, 1) := by decide +kernel
theorem d2_5 : decode jdk_43_method_46_code 5 = .ok (.iload_n 0, 1) := by decide +kernel
theorem d2_6 : decode jdk_43_method_46_code 6 = .ok (.i2b, 1) := by decide +kernel
theorem d2_7 : decode jdk_43_method_46_code 7 = .ok (.bastore, 1) := by decide +kernel
theorem d2_8 : decode jdk_43_method_46_code 8 = .ok (.areturn, 1) := by decide +kernel
theorem ef_tob (m : MethodId) (x0 : Int32)  : entryFrame m #[(.int x0)] 1 = mkF m 0 #[.val (.int x0)] [] := by first | (simp [entryFrame, mkF, argsToLocals, Value.category]; done) | rfl
def Qtob (Z : State) (c1 : Int32) (h0 : Heap) (n0 : Nat) (v : Option Value) (h : Heap) (L : List Loc) : Prop := ∃ (t1 : Addr), ∃ (k1 : ClassId), v = some (.ref t1) ∧ Fr n0 L ∧ Keep h0 h [] ∧ n0 ≤ t1 ∧ h0.size ≤ t1 ∧ Arv Z h t1 k1 .byte (1 : Int32) [(.int (c1.toInt8.toInt32.toInt8.toInt32))] (.int (0 : Int32))
set_option maxRecDepth 65536 in
set_option maxHeartbeats 40000000 in
theorem rmtob (l : Launch) (Z : State) (a0 : Array Value) (hw : Hw Z a0) (ws : List Jvm.Cond) (c1 : Int32) (h0 : Heap) (n0 : Nat) (Z0 : n0 ≤ h0.size)  :
    MF l Z Y2 jdk_43_method_46_code 1 (some (.array .byte)) ws ({ frames := 0, cells := 1, slots := 1, locals := 0 } : Room) #[(.int c1)] h0 (Qtob Z c1 h0 n0) := by
  refine MF.of (plainFor_of_name pn_1) (fun m => ef_tob m c1) ?_
  intro p e s m below meth c s₁ G X0 e0 hx hby hml hown hnm hlk hrt hZ hnd hG
  have N0 := Fr.nil n0
  have K0 := Keep.refl h0 []
  refine Owe.iconst X0.here hx (hb hby d2_0) (w := (1 : Int32)) rfl ?_
  refine Owe.newarr X0 hx hZ (aty := .byte) (wd hw 15) e0 (hb hby d2_1) rfl (by decide) (cap := 1) (by decide) (by decide) (by decide) (by decide) fun T2 h2 b2 k2 g2 X2 e2 E2 V2 => ?_
  have sz_b2 := Nat.le_trans K0.1 (Nat.le_of_eq g2.symm)
  have ge_b2 := Nat.le_trans Z0 (Nat.le_of_eq g2.symm)
  have K_3 := K0.ext E2
  have Z_4 := Nat.le_trans Z0 E2.1
  have V_b2_2 : Arv Z h2 b2 k2 .byte (1 : Int32) [(.int (0 : Int32))] (.int (0 : Int32)) := V2.pad (pad_rep [] (.int (0 : Int32)) 1)
  refine Owe.dup X2.here hx (hb hby d2_3) rfl rfl ?_
  refine Owe.iconst X2.here hx (hb hby d2_4) (w := (0 : Int32)) rfl ?_
  refine Owe.iloadN X2.here hx (hb hby d2_5) rfl ?_
  refine Owe.i2b X2.here hx (hb hby d2_6) rfl ?_
  refine Owe.bastore X2 hx hZ e2 V_b2_2 (x := (c1.toInt8.toInt32)) 0 rfl (nb rfl) (by decide) (hb hby d2_7) rfl fun T5 h5 X5 e5 W5 (V5 : Arv Z h5 b2 k2 .byte (1 : Int32) [(.int ((c1.toInt8.toInt32).toInt8.toInt32))] (.int (0 : Int32))) => ?_
  have K_6 := K_3.wr W5 (Or.inr sz_b2)
  have Z_7 := Nat.le_trans Z_4 (Keep.of_wr W5).1
  have N5 := Fr.snoc X5 N0 ge_b2
  refine Owe.retR X5 hx hlk (t := (.array .byte)) hrt rfl rfl rfl (hb hby d2_8) rfl fun fs hE => ?_
  refine hG _ _ ⟨_, _, rfl, ?_, frameMono hE (by decide) (by decide)⟩
  show Qtob Z c1 h0 n0 _ T5.heap _
  rw [e5]
  exact ⟨b2, k2, rfl, N5, K_6, ge_b2, sz_b2, V5⟩
theorem d3_0 : decode jdk_42_method_151_code 0 = .ok (.aload_n 0, 1) := by decide +kernel
theorem d3_1 : decode jdk_42_method_151_code 1 = .ok (.invokespecial 1, 3) := by decide +kernel
theorem d3_4 : decode jdk_42_method_151_code 4 = .ok (.aload_n 0, 1) := by decide +kernel
theorem d3_5 : decode jdk_42_method_151_code 5 = .ok (.aload_n 1, 1) := by decide +kernel
theorem d3_6 : decode jdk_42_method_151_code 6 = .ok (.putfield 9, 3) := by decide +kernel
theorem d3_9 : decode jdk_42_method_151_code 9 = .ok (.aload_n 0, 1) := by decide +kernel
theorem d3_10 : decode jdk_42_method_151_code 10 = .ok (.iload_n 2, 1) := by decide +kernel
theorem d3_11 : decode jdk_42_method_151_code 11 = .ok (.putfield 15, 3) := by decide +kernel
theorem d3_14 : decode jdk_42_method_151_code 14 = .ok (.return_, 1) := by decide +kernel
theorem pn_2 : plainName "java/lang/String" = true := by first | (simp [plainName, overriddenIn]; done) | decide +kernel
theorem ef_sbb (m : MethodId) (x0 : Addr) (x1 : Addr) (x2 : Int32)  : entryFrame m #[(.ref x0), (.ref x1), (.int x2)] 3 = mkF m 0 #[.val (.ref x0), .val (.ref x1), .val (.int x2)] [] := by first | (simp [entryFrame, mkF, argsToLocals, Value.category]; done) | rfl
def Qsbb (Z : State) (a1 : Addr) (a2 : Addr) (u_v : Value) (u_c : Value) (h0 : Heap) (n0 : Nat) (v : Option Value) (h : Heap) (L : List Loc) : Prop := v = none ∧ Fr n0 L ∧ Keep h0 h [a1] ∧ Exa Z h a1 "java/lang/String" ∧ Fld Z h a1 "java/lang/String" "value" "[B" (.ref a2) ∧ Fld Z h a1 "java/lang/String" "coder" "B" (.int (0 : Int32))
set_option maxRecDepth 65536 in
set_option maxHeartbeats 40000000 in
theorem rmsbb (l : Launch) (Z : State) (a0 : Array Value) (hw : Hw Z a0) (ws : List Jvm.Cond) (a1 : Addr) (a2 : Addr) (u_v : Value) (u_c : Value) (h0 : Heap) (n0 : Nat) (Z0 : n0 ≤ h0.size) (E_a1 : Exa Z h0 a1 "java/lang/String") (Fvalue_a1 : Fld Z h0 a1 "java/lang/String" "value" "[B" u_v) (Fcoder_a1 : Fld Z h0 a1 "java/lang/String" "coder" "B" u_c) (ge_a1 : n0 ≤ a1) :
    MF l Z Y3 jdk_42_method_151_code 3 none ws ({ frames := 1, cells := 0, slots := 0, locals := 12 } : Room) #[(.ref a1), (.ref a2), (.int (0 : Int32))] h0 (Qsbb Z a1 a2 u_v u_c h0 n0) := by
  refine MF.of (plainFor_of_name pn_2) (fun m => ef_sbb m a1 a2 (0 : Int32)) ?_
  intro p e s m below meth c s₁ G X0 e0 hx hby hml hown hnm hlk hrt hZ hnd hG
  have N0 := Fr.nil n0
  have K0 := Keep.refl h0 [a1]
  refine Owe.aloadN X0.here hx (hb hby d3_0) rfl rfl ?_
  refine Owe.objinit X0 hx hZ hown (wd hw 20) (wd hw 21) (wd hw 22) e0 (by rw [hml]; rfl) rfl (hb hby d3_1) (by decide) (W := 0) (nb rfl) (by decide) fun T8 X8 e8 => ?_
  refine Owe.aloadN X8.here hx (hb hby d3_4) rfl rfl ?_
  refine Owe.aloadN X8.here hx (hb hby d3_5) rfl rfl ?_
  refine Owe.putf X8 hx hZ (host := "") hown (Or.inl (wd hw 23)) Via.refl e8 Fvalue_a1 E_a1 (Or.inr ⟨(wd hw 24), rfl, hnm⟩) (wd hw 11) (ty := (.array .byte)) (by decide) rfl rfl (hb hby d3_6) rfl fun T9 h9 X9 e9 W9 => ?_
  have K_10 := K0.wr W9 (Or.inl (List.mem_of_getElem? (i := 0) rfl))
  have E_a1_11 := E_a1.wr W9
  have Fvalue_a1_12 := Fvalue_a1.same W9
  have Fcoder_a1_13 := Fcoder_a1.other W9 (Or.inr (slot_ne (Or.inr (wd hw 26)) (Or.inr (wd hw 24)) (by decide) (t := .byte) (t' := (.array .byte)) (by decide) (by decide)))
  have Z_14 := Nat.le_trans Z0 (Keep.of_wr W9).1
  have N9 := Fr.snoc X9 N0 ge_a1
  refine Owe.aloadN X9.here hx (hb hby d3_9) rfl rfl ?_
  refine Owe.iloadN X9.here hx (hb hby d3_10) rfl ?_
  refine Owe.putf X9 hx hZ (host := "") hown (Or.inl (wd hw 25)) Via.refl e9 Fcoder_a1_13 E_a1_11 (Or.inr ⟨(wd hw 26), rfl, hnm⟩) (wd hw 11) (ty := .byte) (by decide) rfl rfl (hb hby d3_11) rfl fun T15 h15 X15 e15 W15 => ?_
  have K_16 := K_10.wr W15 (Or.inl (List.mem_of_getElem? (i := 0) rfl))
  have E_a1_17 := E_a1_11.wr W15
  have Fvalue_a1_18 := Fvalue_a1_12.other W15 (Or.inr (slot_ne (Or.inr (wd hw 24)) (Or.inr (wd hw 26)) (by decide) (t := (.array .byte)) (t' := .byte) (by decide) (by decide)))
  have Fcoder_a1_19 := Fcoder_a1_13.same W15
  have Z_20 := Nat.le_trans Z_14 (Keep.of_wr W15).1
  have N15 := Fr.snoc X15 N9 ge_a1
  refine Owe.ret0 X15 hx hlk hrt (hb hby d3_14) rfl fun fs hE => ?_
  refine hG _ _ ⟨_, _, rfl, ?_, frameMono hE (by decide) (by decide)⟩
  show Qsbb Z a1 a2 u_v u_c h0 n0 _ T15.heap _
  rw [e15]
  exact ⟨rfl, N15, K_16, E_a1_17, Fvalue_a1_18, Fcoder_a1_19⟩
theorem d4_0 : decode jdk_42_method_139_code 0 = .ok (.getstatic 38, 3) := by decide +kernel
theorem d4_3 : decode jdk_42_method_139_code 3 = .ok (.ifCond .eq 23, 3) := by decide +kernel
theorem d4_6 : decode jdk_42_method_139_code 6 = .ok (.iload_n 0, 1) := by decide +kernel
theorem d4_7 : decode jdk_42_method_139_code 7 = .ok (.invokestatic 1015, 3) := by decide +kernel
theorem d4_10 : decode jdk_42_method_139_code 10 = .ok (.ifCond .eq 16, 3) := by decide +kernel
theorem d4_13 : decode jdk_42_method_139_code 13 = .ok (.new 10, 3) := by decide +kernel
theorem d4_16 : decode jdk_42_method_139_code 16 = .ok (.dup, 1) := by decide +kernel
theorem d4_17 : decode jdk_42_method_139_code 17 = .ok (.iload_n 0, 1) := by decide +kernel
theorem d4_18 : decode jdk_42_method_139_code 18 = .ok (.invokestatic 1018, 3) := by decide +kernel
theorem d4_21 : decode jdk_42_method_139_code 21 = .ok (.iconst 0, 1) := by decide +kernel
theorem d4_22 : decode jdk_42_method_139_code 22 = .ok (.invokespecial 209, 3) := by decide +kernel
theorem d4_25 : decode jdk_42_method_139_code 25 = .ok (.areturn, 1) := by decide +kernel
theorem d4_26 : decode jdk_42_method_139_code 26 = .ok (.new 10, 3) := by decide +kernel
theorem d4_29 : decode jdk_42_method_139_code 29 = .ok (.dup, 1) := by decide +kernel
theorem d4_30 : decode jdk_42_method_139_code 30 = .ok (.iload_n 0, 1) := by decide +kernel
theorem d4_31 : decode jdk_42_method_139_code 31 = .ok (.invokestatic 1021, 3) := by decide +kernel
theorem d4_34 : decode jdk_42_method_139_code 34 = .ok (.iconst 1, 1) := by decide +kernel
theorem d4_35 : decode jdk_42_method_139_code 35 = .ok (.invokespecial 209, 3) := by decide +kernel
theorem d4_38 : decode jdk_42_method_139_code 38 = .ok (.areturn, 1) := by decide +kernel
theorem ef_vof (m : MethodId) (x0 : Int32)  : entryFrame m #[(.int x0)] 1 = mkF m 0 #[.val (.int x0)] [] := by first | (simp [entryFrame, mkF, argsToLocals, Value.category]; done) | rfl
def Qvof (Z : State) (c1 : Int32) (G1 : Int32) (h0 : Heap) (n0 : Nat) (v : Option Value) (h : Heap) (L : List Loc) : Prop := ∃ (x1 : Addr), ∃ (t1 : Addr), ∃ (k1 : ClassId), v = some (.ref x1) ∧ Fr n0 L ∧ Keep h0 h [] ∧ n0 ≤ x1 ∧ h0.size ≤ x1 ∧ n0 ≤ t1 ∧ h0.size ≤ t1 ∧ Exa Z h x1 "java/lang/String" ∧ Fld Z h x1 "java/lang/String" "value" "[B" (.ref t1) ∧ Fld Z h x1 "java/lang/String" "coder" "B" (.int (0 : Int32)) ∧ Arv Z h t1 k1 .byte (1 : Int32) [(.int (c1.toInt8.toInt32.toInt8.toInt32))] (.int (0 : Int32))
set_option maxRecDepth 65536 in
set_option maxHeartbeats 40000000 in
theorem rmvof (l : Launch) (Z : State) (a0 : Array Value) (hw : Hw Z a0) (ws : List Jvm.Cond) (c1 : Int32) (G1 : Int32) (h0 : Heap) (n0 : Nat) (Z0 : n0 ≤ h0.size) (S_COMPACT_STRINGS : Sta Z Z.heap "java/lang/String" "COMPACT_STRINGS" "Z" (.int G1)) (cs0 : ¬ (G1 = (0 : Int32))) (hle : ¬ (255 : Int32) < c1) (Ol : Old Z n0 h0) :
    MF l Z Y4 jdk_42_method_139_code 1 (some (.object "java/lang/String")) ws ({ frames := 2, cells := 2, slots := 5, locals := 32 } : Room) #[(.int c1)] h0 (Qvof Z c1 G1 h0 n0) := by
  refine MF.of (plainFor_of_name pn_2) (fun m => ef_vof m c1) ?_
  intro p e s m below meth c s₁ G X0 e0 hx hby hml hown hnm hlk hrt hZ hnd hG
  have N0 := Fr.nil n0
  have K0 := Keep.refl h0 []
  refine Owe.gets X0 hx hZ hown (wd hw 5) Via.refl e0 (S_COMPACT_STRINGS.ext Ol.2) (hb hby d4_0) fun T21 X21 e21 => ?_
  refine Owe.ifNo X21.here hx (hb hby d4_3) rfl ((if0 _ _).trans (feq cs0).1) ?_
  refine Owe.iloadN X21.here hx (hb hby d4_6) rfl ?_
  refine Owe.stat X21 hx (y := Y1) hown (mvT hZ (wd hw 6)) (mvT hZ (wd hw 7)) (mvT hZ (wd hw 8)) (mvT hZ (wd hw 9)) (by decide) (backOf (W := 0) (rmcen l Z a0 hw [] c1 h0 n0 Z0 hle) hZ (wd hw 9) (wd hw 8) (by decide) (by decide)) (by rw [hml]; rfl) (argsL := [(.int c1)]) (rest := []) (lenOf pd_0 rfl) rfl (nb rfl) (hb hby d4_7) rfl e21 (by decide) (by decide) fun T22 v22 L22 X22 hQ22 => ?_
  obtain ⟨rfl, Nq22, e22⟩ := hQ22
  have N22 := Fr.app N0 Nq22
  refine Owe.ifNo X22.here hx (hb hby d4_10) rfl ((if0 _ _).trans (feq (by decide)).1) ?_
  refine Owe.new X22 hx hZ hown (wd hw 10) (wd hw 11) (wd hw 3) e22 (hb hby d4_13) (by decide) (by decide) fun T23 h23 b23 g23 X23 e23 E23 A23 D23 => ?_
  have sz_b23 := Nat.le_trans K0.1 (Nat.le_of_eq g23.symm)
  have ge_b23 := Nat.le_trans Z0 (Nat.le_of_eq g23.symm)
  have K_24 := K0.ext E23
  have Ol_25 := Ol.ext E23
  have Z_26 := Nat.le_trans Z0 E23.1
  have Fvalue_b23 : Fld Z h23 b23 "java/lang/String" "value" "[B" .null := D23 (Or.inr (wd hw 24)) (ty := (.array .byte)) (by decide)
  have Fcoder_b23 : Fld Z h23 b23 "java/lang/String" "coder" "B" (.int (0 : Int32)) := D23 (Or.inr (wd hw 26)) (ty := .byte) (by decide)
  refine Owe.dup X23.here hx (hb hby d4_16) rfl rfl ?_
  refine Owe.iloadN X23.here hx (hb hby d4_17) rfl ?_
  refine Owe.stat X23 hx (y := Y2) hown (mvT hZ (wd hw 12)) (mvT hZ (wd hw 13)) (mvT hZ (wd hw 8)) (mvT hZ (wd hw 14)) (by decide) (backOf (W := 2) (rmtob l Z a0 hw [] c1 h23 n0 Z_26 ) hZ (wd hw 14) (wd hw 8) (by decide) (by decide)) (by rw [hml]; rfl) (argsL := [(.int c1)]) (rest := [(.ref b23), (.ref b23)]) (lenOf pd_1 rfl) rfl (nb rfl) (hb hby d4_18) rfl e23 (by decide) (by decide) fun T27 v27 L27 X27 hQ27 => ?_
  obtain ⟨t1_27, k1_27, rfl, Nq27, K27, ge_t1_27, fresh_t1_27, V_t1_27⟩ := hQ27
  have N27 := Fr.app N22 Nq27
  have K_28 := K_24.trans K27 all0
  have Ol_29 := Ol_25.keep K27 all0
  have A23_30 := A23.keep K27
  have Fvalue_b23_31 := Fvalue_b23.keep K27 nin0
  have Fcoder_b23_32 := Fcoder_b23.keep K27 nin0
  have Z_33 := Nat.le_trans Z_26 K27.1
  have ne_b23_t1_27 : b23 ≠ t1_27 := Nat.ne_of_lt (Nat.lt_of_lt_of_le A23.lt fresh_t1_27)
  have sz_t1_27 := Nat.le_trans K_24.1 fresh_t1_27
  refine Owe.iconst X27.here hx (hb hby d4_21) (w := (0 : Int32)) rfl ?_
  refine Owe.special X27 hx (y := Y3) rfl hown (mvT hZ (wd hw 16)) (mvT hZ (wd hw 17)) (mvT hZ (wd hw 19)) (by decide) (backOf (W := 1) (rmsbb l Z a0 hw [] b23 t1_27 .null (.int (0 : Int32)) T27.heap n0 Z_33 A23_30 Fvalue_b23_31 Fcoder_b23_32 ge_b23) hZ (wd hw 19) (wd hw 3) (by decide) (by decide)) (by rw [hml]; rfl) (a := b23) (argsL := [(.ref t1_27), (.int (0 : Int32))]) (rest := [(.ref b23)]) (lenOf pd_2 rfl) rfl (nb rfl) (hb hby d4_22) rfl rfl (by decide) (by decide) fun T34 v34 L34 X34 hQ34 => ?_
  obtain ⟨rfl, Nq34, K34, E_a1_34, Fvalue_a1_34, Fcoder_a1_34⟩ := hQ34
  have N34 := Fr.app N27 Nq34
  have K_35 := K_28.trans K34 (allS (Or.inr sz_b23) all0)
  have Ol_36 := Ol_29.keep K34 (allS ge_b23 all0)
  have A23_37 := A23_30.keep K34
  have V_t1_38 := V_t1_27.keep K34 (ninS (Ne.symm ne_b23_t1_27) nin0)
  have Z_39 := Nat.le_trans Z_33 K34.1
  refine Owe.retR X34 hx hlk (t := (.object "java/lang/String")) hrt rfl rfl rfl (hb hby d4_25) rfl fun fs hE => ?_
  refine hG _ _ ⟨_, _, rfl, ?_, frameMono hE (by decide) (by decide)⟩
  show Qvof Z c1 G1 h0 n0 _ T34.heap _
  exact ⟨b23, t1_27, k1_27, rfl, N34, K_35, ge_b23, sz_b23, ge_t1_27, sz_t1_27, E_a1_34, Fvalue_a1_34, Fcoder_a1_34, V_t1_38⟩
theorem d5_0 : decode prog_48_method_1_code 0 = .ok (.aload_n 0, 1) := by decide +kernel
theorem d5_1 : decode prog_48_method_1_code 1 = .ok (.invokespecial 1, 3) := by decide +kernel
theorem d5_4 : decode prog_48_method_1_code 4 = .ok (.aload_n 0, 1) := by decide +kernel
theorem d5_5 : decode prog_48_method_1_code 5 = .ok (.aload_n 1, 1) := by decide +kernel
theorem d5_6 : decode prog_48_method_1_code 6 = .ok (.putfield 7, 3) := by decide +kernel
theorem d5_9 : decode prog_48_method_1_code 9 = .ok (.aload_n 0, 1) := by decide +kernel
theorem d5_10 : decode prog_48_method_1_code 10 = .ok (.lload_n 2, 1) := by decide +kernel
theorem d5_11 : decode prog_48_method_1_code 11 = .ok (.putfield 13, 3) := by decide +kernel
theorem d5_14 : decode prog_48_method_1_code 14 = .ok (.aload_n 0, 1) := by decide +kernel
theorem d5_15 : decode prog_48_method_1_code 15 = .ok (.aload 4, 2) := by decide +kernel
theorem d5_17 : decode prog_48_method_1_code 17 = .ok (.putfield 17, 3) := by decide +kernel
theorem d5_20 : decode prog_48_method_1_code 20 = .ok (.aload_n 0, 1) := by decide +kernel
theorem d5_21 : decode prog_48_method_1_code 21 = .ok (.dload 5, 2) := by decide +kernel
theorem d5_23 : decode prog_48_method_1_code 23 = .ok (.putfield 20, 3) := by decide +kernel
theorem d5_26 : decode prog_48_method_1_code 26 = .ok (.aload_n 0, 1) := by decide +kernel
theorem d5_27 : decode prog_48_method_1_code 27 = .ok (.lload 7, 2) := by decide +kernel
theorem d5_29 : decode prog_48_method_1_code 29 = .ok (.putfield 24, 3) := by decide +kernel
theorem d5_32 : decode prog_48_method_1_code 32 = .ok (.aload_n 0, 1) := by decide +kernel
theorem d5_33 : decode prog_48_method_1_code 33 = .ok (.iload 9, 2) := by decide +kernel
theorem d5_35 : decode prog_48_method_1_code 35 = .ok (.putfield 27, 3) := by decide +kernel
theorem d5_38 : decode prog_48_method_1_code 38 = .ok (.return_, 1) := by decide +kernel
theorem pn_3 : plainName "com/example/casewarden/casewarden/conformance/hmm/HmmVerdict" = true := by first | (simp [plainName, overriddenIn]; done) | decide +kernel
theorem ef_ini0 (m : MethodId) (x0 : Addr) (x1 : Addr) (x2 : Int64) (x3 : Addr) (x4 : UInt64) (x5 : Int64) (x6 : Int32)  : entryFrame m #[(.ref x0), (.ref x1), (.long x2), (.ref x3), (.double x4), (.long x5), (.int x6)] 10 = mkF m 0 #[.val (.ref x0), .val (.ref x1), .val (.long x2), .second, .val (.ref x3), .val (.double x4), .second, .val (.long x5), .second, .val (.int x6)] [] := by first | (simp [entryFrame, mkF, argsToLocals, Value.category]; done) | rfl
def Qini0 (Z : State) (a1 : Addr) (a2 : Addr) (ix : Int64) (a3 : Addr) (cf : UInt64) (dd : Int64) (h0 : Heap) (n0 : Nat) (v : Option Value) (h : Heap) (L : List Loc) : Prop := v = none ∧ Fr n0 L ∧ Keep h0 h [a1] ∧ Exa Z h a1 "com/example/casewarden/casewarden/conformance/hmm/HmmVerdict" ∧ Fld Z h a1 "com/example/casewarden/casewarden/conformance/hmm/HmmVerdict" "index" "J" (.long ix) ∧ Fld Z h a1 "com/example/casewarden/casewarden/conformance/hmm/HmmVerdict" "injectedDistance" "J" (.long dd)
set_option maxRecDepth 65536 in
set_option maxHeartbeats 40000000 in
theorem rmini0 (l : Launch) (Z : State) (a0 : Array Value) (hw : Hw Z a0) (ws : List Jvm.Cond) (a1 : Addr) (a2 : Addr) (ix : Int64) (a3 : Addr) (cf : UInt64) (dd : Int64) (h0 : Heap) (n0 : Nat) (Z0 : n0 ≤ h0.size) (E_a1 : Exa Z h0 a1 "com/example/casewarden/casewarden/conformance/hmm/HmmVerdict") (FcaseId_a1 : Fld Z h0 a1 "com/example/casewarden/casewarden/conformance/hmm/HmmVerdict" "caseId" "Ljava/lang/String;" .null) (Findex_a1 : Fld Z h0 a1 "com/example/casewarden/casewarden/conformance/hmm/HmmVerdict" "index" "J" (.long (0 : Int64))) (Factivity_a1 : Fld Z h0 a1 "com/example/casewarden/casewarden/conformance/hmm/HmmVerdict" "activity" "Ljava/lang/String;" .null) (Fconformance_a1 : Fld Z h0 a1 "com/example/casewarden/casewarden/conformance/hmm/HmmVerdict" "conformance" "D" (.double (0 : UInt64))) (FinjectedDistance_a1 : Fld Z h0 a1 "com/example/casewarden/casewarden/conformance/hmm/HmmVerdict" "injectedDistance" "J" (.long (0 : Int64))) (Fconformant_a1 : Fld Z h0 a1 "com/example/casewarden/casewarden/conformance/hmm/HmmVerdict" "conformant" "Z" (.int (0 : Int32))) (ge_a1 : n0 ≤ a1) :
    MF l Z Y5 prog_48_method_1_code 10 none ws ({ frames := 2, cells := 0, slots := 0, locals := 24 } : Room) #[(.ref a1), (.ref a2), (.long ix), (.ref a3), (.double cf), (.long dd), (.int (0 : Int32))] h0 (Qini0 Z a1 a2 ix a3 cf dd h0 n0) := by
  refine MF.of (plainFor_of_name pn_3) (fun m => ef_ini0 m a1 a2 ix a3 cf dd (0 : Int32)) ?_
  intro p e s m below meth c s₁ G X0 e0 hx hby hml hown hnm hlk hrt hZ hnd hG
  have N0 := Fr.nil n0
  have K0 := Keep.refl h0 [a1]
  refine Owe.aloadN X0.here hx (hb hby d5_0) rfl rfl ?_
  refine Owe.special X0 hx (y := Y0) rfl hown (mvT hZ (wd hw 33)) (mvT hZ (wd hw 34)) (mvT hZ (wd hw 37)) (by decide) (backOf (W := 0) (rmrec l Z a0 hw [] a1 h0 n0 Z0 ) hZ (wd hw 37) (wd hw 36) (by decide) (by decide)) (by rw [hml]; rfl) (a := a1) (argsL := []) (rest := []) (lenOf pd_3 rfl) rfl (nb rfl) (hb hby d5_1) rfl e0 (by decide) (by decide) fun T40 v40 L40 X40 hQ40 => ?_
  obtain ⟨rfl, Nq40, e40⟩ := hQ40
  have N40 := Fr.app N0 Nq40
  refine Owe.aloadN X40.here hx (hb hby d5_4) rfl rfl ?_
  refine Owe.aloadN X40.here hx (hb hby d5_5) rfl rfl ?_
  refine Owe.putf X40 hx hZ (host := "") hown (Or.inl (wd hw 39)) Via.refl e40 FcaseId_a1 E_a1 (Or.inr ⟨(wd hw 40), rfl, hnm⟩) (wd hw 28) (ty := (.object "java/lang/String")) (by decide) rfl rfl (hb hby d5_6) rfl fun T41 h41 X41 e41 W41 => ?_
  have K_42 := K0.wr W41 (Or.inl (List.mem_of_getElem? (i := 0) rfl))
  have E_a1_43 := E_a1.wr W41
  have FcaseId_a1_44 := FcaseId_a1.same W41
  have Findex_a1_45 := Findex_a1.other W41 (Or.inr (slot_ne (Or.inr (wd hw 42)) (Or.inr (wd hw 40)) (by decide) (t := .long) (t' := (.object "java/lang/String")) (by decide) (by decide)))
  have Factivity_a1_46 := Factivity_a1.other W41 (Or.inr (slot_ne (Or.inr (wd hw 44)) (Or.inr (wd hw 40)) (by decide) (t := (.object "java/lang/String")) (t' := (.object "java/lang/String")) (by decide) (by decide)))
  have Fconformance_a1_47 := Fconformance_a1.other W41 (Or.inr (slot_ne (Or.inr (wd hw 46)) (Or.inr (wd hw 40)) (by decide) (t := .double) (t' := (.object "java/lang/String")) (by decide) (by decide)))
  have FinjectedDistance_a1_48 := FinjectedDistance_a1.other W41 (Or.inr (slot_ne (Or.inr (wd hw 48)) (Or.inr (wd hw 40)) (by decide) (t := .long) (t' := (.object "java/lang/String")) (by decide) (by decide)))
  have Fconformant_a1_49 := Fconformant_a1.other W41 (Or.inr (slot_ne (Or.inr (wd hw 50)) (Or.inr (wd hw 40)) (by decide) (t := .boolean) (t' := (.object "java/lang/String")) (by decide) (by decide)))
  have Z_50 := Nat.le_trans Z0 (Keep.of_wr W41).1
  have N41 := Fr.snoc X41 N40 ge_a1
  refine Owe.aloadN X41.here hx (hb hby d5_9) rfl rfl ?_
  refine Owe.lloadN X41.here hx (hb hby d5_10) rfl ?_
  refine Owe.putf X41 hx hZ (host := "") hown (Or.inl (wd hw 41)) Via.refl e41 Findex_a1_45 E_a1_43 (Or.inr ⟨(wd hw 42), rfl, hnm⟩) (wd hw 28) (ty := .long) (by decide) rfl rfl (hb hby d5_11) rfl fun T51 h51 X51 e51 W51 => ?_
  have K_52 := K_42.wr W51 (Or.inl (List.mem_of_getElem? (i := 0) rfl))
  have E_a1_53 := E_a1_43.wr W51
  have FcaseId_a1_54 := FcaseId_a1_44.other W51 (Or.inr (slot_ne (Or.inr (wd hw 40)) (Or.inr (wd hw 42)) (by decide) (t := (.object "java/lang/String")) (t' := .long) (by decide) (by decide)))
  have Findex_a1_55 := Findex_a1_45.same W51
  have Factivity_a1_56 := Factivity_a1_46.other W51 (Or.inr (slot_ne (Or.inr (wd hw 44)) (Or.inr (wd hw 42)) (by decide) (t := (.object "java/lang/String")) (t' := .long) (by decide) (by decide)))
  have Fconformance_a1_57 := Fconformance_a1_47.other W51 (Or.inr (slot_ne (Or.inr (wd hw 46)) (Or.inr (wd hw 42)) (by decide) (t := .double) (t' := .long) (by decide) (by decide)))
  have FinjectedDistance_a1_58 := FinjectedDistance_a1_48.other W51 (Or.inr (slot_ne (Or.inr (wd hw 48)) (Or.inr (wd hw 42)) (by decide) (t := .long) (t' := .long) (by decide) (by decide)))
  have Fconformant_a1_59 := Fconformant_a1_49.other W51 (Or.inr (slot_ne (Or.inr (wd hw 50)) (Or.inr (wd hw 42)) (by decide) (t := .boolean) (t' := .long) (by decide) (by decide)))
  have Z_60 := Nat.le_trans Z_50 (Keep.of_wr W51).1
  have N51 := Fr.snoc X51 N41 ge_a1
  refine Owe.aloadN X51.here hx (hb hby d5_14) rfl rfl ?_
  refine Owe.aload X51.here hx (hb hby d5_15) rfl rfl ?_
  refine Owe.putf X51 hx hZ (host := "") hown (Or.inl (wd hw 43)) Via.refl e51 Factivity_a1_56 E_a1_53 (Or.inr ⟨(wd hw 44), rfl, hnm⟩) (wd hw 28) (ty := (.object "java/lang/String")) (by decide) rfl rfl (hb hby d5_17) rfl fun T61 h61 X61 e61 W61 => ?_
  have K_62 := K_52.wr W61 (Or.inl (List.mem_of_getElem? (i := 0) rfl))
  have E_a1_63 := E_a1_53.wr W61
  have FcaseId_a1_64 := FcaseId_a1_54.other W61 (Or.inr (slot_ne (Or.inr (wd hw 40)) (Or.inr (wd hw 44)) (by decide) (t := (.object "java/lang/String")) (t' := (.object "java/lang/String")) (by decide) (by decide)))
  have Findex_a1_65 := Findex_a1_55.other W61 (Or.inr (slot_ne (Or.inr (wd hw 42)) (Or.inr (wd hw 44)) (by decide) (t := .long) (t' := (.object "java/lang/String")) (by decide) (by decide)))
  have Factivity_a1_66 := Factivity_a1_56.same W61
  have Fconformance_a1_67 := Fconformance_a1_57.other W61 (Or.inr (slot_ne (Or.inr (wd hw 46)) (Or.inr (wd hw 44)) (by decide) (t := .double) (t' := (.object "java/lang/String")) (by decide) (by decide)))
  have FinjectedDistance_a1_68 := FinjectedDistance_a1_58.other W61 (Or.inr (slot_ne (Or.inr (wd hw 48)) (Or.inr (wd hw 44)) (by decide) (t := .long) (t' := (.object "java/lang/String")) (by decide) (by decide)))
  have Fconformant_a1_69 := Fconformant_a1_59.other W61 (Or.inr (slot_ne (Or.inr (wd hw 50)) (Or.inr (wd hw 44)) (by decide) (t := .boolean) (t' := (.object "java/lang/String")) (by decide) (by decide)))
  have Z_70 := Nat.le_trans Z_60 (Keep.of_wr W61).1
  have N61 := Fr.snoc X61 N51 ge_a1
  refine Owe.aloadN X61.here hx (hb hby d5_20) rfl rfl ?_
  refine Owe.dload X61.here hx (hb hby d5_21) rfl ?_
  refine Owe.putf X61 hx hZ (host := "") hown (Or.inl (wd hw 45)) Via.refl e61 Fconformance_a1_67 E_a1_63 (Or.inr ⟨(wd hw 46), rfl, hnm⟩) (wd hw 28) (ty := .double) (by decide) rfl rfl (hb hby d5_23) rfl fun T71 h71 X71 e71 W71 => ?_
  have K_72 := K_62.wr W71 (Or.inl (List.mem_of_getElem? (i := 0) rfl))
  have E_a1_73 := E_a1_63.wr W71
  have FcaseId_a1_74 := FcaseId_a1_64.other W71 (Or.inr (slot_ne (Or.inr (wd hw 40)) (Or.inr (wd hw 46)) (by decide) (t := (.object "java/lang/String")) (t' := .double) (by decide) (by decide)))
  have Findex_a1_75 := Findex_a1_65.other W71 (Or.inr (slot_ne (Or.inr (wd hw 42)) (Or.inr (wd hw 46)) (by decide) (t := .long) (t' := .double) (by decide) (by decide)))
  have Factivity_a1_76 := Factivity_a1_66.other W71 (Or.inr (slot_ne (Or.inr (wd hw 44)) (Or.inr (wd hw 46)) (by decide) (t := (.object "java/lang/String")) (t' := .double) (by decide) (by decide)))
  have Fconformance_a1_77 := Fconformance_a1_67.same W71
  have FinjectedDistance_a1_78 := FinjectedDistance_a1_68.other W71 (Or.inr (slot_ne (Or.inr (wd hw 48)) (Or.inr (wd hw 46)) (by decide) (t := .long) (t' := .double) (by decide) (by decide)))
  have Fconformant_a1_79 := Fconformant_a1_69.other W71 (Or.inr (slot_ne (Or.inr (wd hw 50)) (Or.inr (wd hw 46)) (by decide) (t := .boolean) (t' := .double) (by decide) (by decide)))
  have Z_80 := Nat.le_trans Z_70 (Keep.of_wr W71).1
  have N71 := Fr.snoc X71 N61 ge_a1
  refine Owe.aloadN X71.here hx (hb hby d5_26) rfl rfl ?_
  refine Owe.lload X71.here hx (hb hby d5_27) rfl ?_
  refine Owe.putf X71 hx hZ (host := "") hown (Or.inl (wd hw 47)) Via.refl e71 FinjectedDistance_a1_78 E_a1_73 (Or.inr ⟨(wd hw 48), rfl, hnm⟩) (wd hw 28) (ty := .long) (by decide) rfl rfl (hb hby d5_29) rfl fun T81 h81 X81 e81 W81 => ?_
  have K_82 := K_72.wr W81 (Or.inl (List.mem_of_getElem? (i := 0) rfl))
  have E_a1_83 := E_a1_73.wr W81
  have FcaseId_a1_84 := FcaseId_a1_74.other W81 (Or.inr (slot_ne (Or.inr (wd hw 40)) (Or.inr (wd hw 48)) (by decide) (t := (.object "java/lang/String")) (t' := .long) (by decide) (by decide)))
  have Findex_a1_85 := Findex_a1_75.other W81 (Or.inr (slot_ne (Or.inr (wd hw 42)) (Or.inr (wd hw 48)) (by decide) (t := .long) (t' := .long) (by decide) (by decide)))
  have Factivity_a1_86 := Factivity_a1_76.other W81 (Or.inr (slot_ne (Or.inr (wd hw 44)) (Or.inr (wd hw 48)) (by decide) (t := (.object "java/lang/String")) (t' := .long) (by decide) (by decide)))
  have Fconformance_a1_87 := Fconformance_a1_77.other W81 (Or.inr (slot_ne (Or.inr (wd hw 46)) (Or.inr (wd hw 48)) (by decide) (t := .double) (t' := .long) (by decide) (by decide)))
  have FinjectedDistance_a1_88 := FinjectedDistance_a1_78.same W81
  have Fconformant_a1_89 := Fconformant_a1_79.other W81 (Or.inr (slot_ne (Or.inr (wd hw 50)) (Or.inr (wd hw 48)) (by decide) (t := .boolean) (t' := .long) (by decide) (by decide)))
  have Z_90 := Nat.le_trans Z_80 (Keep.of_wr W81).1
  have N81 := Fr.snoc X81 N71 ge_a1
  refine Owe.aloadN X81.here hx (hb hby d5_32) rfl rfl ?_
  refine Owe.iload X81.here hx (hb hby d5_33) rfl ?_
  refine Owe.putf X81 hx hZ (host := "") hown (Or.inl (wd hw 49)) Via.refl e81 Fconformant_a1_89 E_a1_83 (Or.inr ⟨(wd hw 50), rfl, hnm⟩) (wd hw 28) (ty := .boolean) (by decide) rfl rfl (hb hby d5_35) rfl fun T91 h91 X91 e91 W91 => ?_
  have K_92 := K_82.wr W91 (Or.inl (List.mem_of_getElem? (i := 0) rfl))
  have E_a1_93 := E_a1_83.wr W91
  have FcaseId_a1_94 := FcaseId_a1_84.other W91 (Or.inr (slot_ne (Or.inr (wd hw 40)) (Or.inr (wd hw 50)) (by decide) (t := (.object "java/lang/String")) (t' := .boolean) (by decide) (by decide)))
  have Findex_a1_95 := Findex_a1_85.other W91 (Or.inr (slot_ne (Or.inr (wd hw 42)) (Or.inr (wd hw 50)) (by decide) (t := .long) (t' := .boolean) (by decide) (by decide)))
  have Factivity_a1_96 := Factivity_a1_86.other W91 (Or.inr (slot_ne (Or.inr (wd hw 44)) (Or.inr (wd hw 50)) (by decide) (t := (.object "java/lang/String")) (t' := .boolean) (by decide) (by decide)))
  have Fconformance_a1_97 := Fconformance_a1_87.other W91 (Or.inr (slot_ne (Or.inr (wd hw 46)) (Or.inr (wd hw 50)) (by decide) (t := .double) (t' := .boolean) (by decide) (by decide)))
  have FinjectedDistance_a1_98 := FinjectedDistance_a1_88.other W91 (Or.inr (slot_ne (Or.inr (wd hw 48)) (Or.inr (wd hw 50)) (by decide) (t := .long) (t' := .boolean) (by decide) (by decide)))
  have Fconformant_a1_99 := Fconformant_a1_89.same W91
  have Z_100 := Nat.le_trans Z_90 (Keep.of_wr W91).1
  have N91 := Fr.snoc X91 N81 ge_a1
  refine Owe.ret0 X91 hx hlk hrt (hb hby d5_38) rfl fun fs hE => ?_
  refine hG _ _ ⟨_, _, rfl, ?_, frameMono hE (by decide) (by decide)⟩
  show Qini0 Z a1 a2 ix a3 cf dd h0 n0 _ T91.heap _
  rw [e91]
  exact ⟨rfl, N91, K_92, E_a1_93, Findex_a1_95, FinjectedDistance_a1_98⟩
theorem ef_ini1 (m : MethodId) (x0 : Addr) (x1 : Addr) (x2 : Int64) (x3 : Addr) (x4 : UInt64) (x5 : Int64) (x6 : Int32)  : entryFrame m #[(.ref x0), (.ref x1), (.long x2), (.ref x3), (.double x4), (.long x5), (.int x6)] 10 = mkF m 0 #[.val (.ref x0), .val (.ref x1), .val (.long x2), .second, .val (.ref x3), .val (.double x4), .second, .val (.long x5), .second, .val (.int x6)] [] := by first | (simp [entryFrame, mkF, argsToLocals, Value.category]; done) | rfl
def Qini1 (Z : State) (a1 : Addr) (a2 : Addr) (ix : Int64) (a3 : Addr) (cf : UInt64) (dd : Int64) (h0 : Heap) (n0 : Nat) (v : Option Value) (h : Heap) (L : List Loc) : Prop := v = none ∧ Fr n0 L ∧ Keep h0 h [a1] ∧ Exa Z h a1 "com/example/casewarden/casewarden/conformance/hmm/HmmVerdict" ∧ Fld Z h a1 "com/example/casewarden/casewarden/conformance/hmm/HmmVerdict" "index" "J" (.long ix) ∧ Fld Z h a1 "com/example/casewarden/casewarden/conformance/hmm/HmmVerdict" "injectedDistance" "J" (.long dd)
set_option maxRecDepth 65536 in
set_option maxHeartbeats 40000000 in
theorem rmini1 (l : Launch) (Z : State) (a0 : Array Value) (hw : Hw Z a0) (ws : List Jvm.Cond) (a1 : Addr) (a2 : Addr) (ix : Int64) (a3 : Addr) (cf : UInt64) (dd : Int64) (h0 : Heap) (n0 : Nat) (Z0 : n0 ≤ h0.size) (E_a1 : Exa Z h0 a1 "com/example/casewarden/casewarden/conformance/hmm/HmmVerdict") (FcaseId_a1 : Fld Z h0 a1 "com/example/casewarden/casewarden/conformance/hmm/HmmVerdict" "caseId" "Ljava/lang/String;" .null) (Findex_a1 : Fld Z h0 a1 "com/example/casewarden/casewarden/conformance/hmm/HmmVerdict" "index" "J" (.long (0 : Int64))) (Factivity_a1 : Fld Z h0 a1 "com/example/casewarden/casewarden/conformance/hmm/HmmVerdict" "activity" "Ljava/lang/String;" .null) (Fconformance_a1 : Fld Z h0 a1 "com/example/casewarden/casewarden/conformance/hmm/HmmVerdict" "conformance" "D" (.double (0 : UInt64))) (FinjectedDistance_a1 : Fld Z h0 a1 "com/example/casewarden/casewarden/conformance/hmm/HmmVerdict" "injectedDistance" "J" (.long (0 : Int64))) (Fconformant_a1 : Fld Z h0 a1 "com/example/casewarden/casewarden/conformance/hmm/HmmVerdict" "conformant" "Z" (.int (0 : Int32))) (ge_a1 : n0 ≤ a1) :
    MF l Z Y5 prog_48_method_1_code 10 none ws ({ frames := 2, cells := 0, slots := 0, locals := 24 } : Room) #[(.ref a1), (.ref a2), (.long ix), (.ref a3), (.double cf), (.long dd), (.int (1 : Int32))] h0 (Qini1 Z a1 a2 ix a3 cf dd h0 n0) := by
  refine MF.of (plainFor_of_name pn_3) (fun m => ef_ini1 m a1 a2 ix a3 cf dd (1 : Int32)) ?_
  intro p e s m below meth c s₁ G X0 e0 hx hby hml hown hnm hlk hrt hZ hnd hG
  have N0 := Fr.nil n0
  have K0 := Keep.refl h0 [a1]
  refine Owe.aloadN X0.here hx (hb hby d5_0) rfl rfl ?_
  refine Owe.special X0 hx (y := Y0) rfl hown (mvT hZ (wd hw 33)) (mvT hZ (wd hw 34)) (mvT hZ (wd hw 37)) (by decide) (backOf (W := 0) (rmrec l Z a0 hw [] a1 h0 n0 Z0 ) hZ (wd hw 37) (wd hw 36) (by decide) (by decide)) (by rw [hml]; rfl) (a := a1) (argsL := []) (rest := []) (lenOf pd_3 rfl) rfl (nb rfl) (hb hby d5_1) rfl e0 (by decide) (by decide) fun T101 v101 L101 X101 hQ101 => ?_
  obtain ⟨rfl, Nq101, e101⟩ := hQ101
  have N101 := Fr.app N0 Nq101
  refine Owe.aloadN X101.here hx (hb hby d5_4) rfl rfl ?_
  refine Owe.aloadN X101.here hx (hb hby d5_5) rfl rfl ?_
  refine Owe.putf X101 hx hZ (host := "") hown (Or.inl (wd hw 39)) Via.refl e101 FcaseId_a1 E_a1 (Or.inr ⟨(wd hw 40), rfl, hnm⟩) (wd hw 28) (ty := (.object "java/lang/String")) (by decide) rfl rfl (hb hby d5_6) rfl fun T102 h102 X102 e102 W102 => ?_
  have K_103 := K0.wr W102 (Or.inl (List.mem_of_getElem? (i := 0) rfl))
  have E_a1_104 := E_a1.wr W102
  have FcaseId_a1_105 := FcaseId_a1.same W102
  have Findex_a1_106 := Findex_a1.other W102 (Or.inr (slot_ne (Or.inr (wd hw 42)) (Or.inr (wd hw 40)) (by decide) (t := .long) (t' := (.object "java/lang/String")) (by decide) (by decide)))
  have Factivity_a1_107 := Factivity_a1.other W102 (Or.inr (slot_ne (Or.inr (wd hw 44)) (Or.inr (wd hw 40)) (by decide) (t := (.object "java/lang/String")) (t' := (.object "java/lang/String")) (by decide) (by decide)))
  have Fconformance_a1_108 := Fconformance_a1.other W102 (Or.inr (slot_ne (Or.inr (wd hw 46)) (Or.inr (wd hw 40)) (by decide) (t := .double) (t' := (.object "java/lang/String")) (by decide) (by decide)))
  have FinjectedDistance_a1_109 := FinjectedDistance_a1.other W102 (Or.inr (slot_ne (Or.inr (wd hw 48)) (Or.inr (wd hw 40)) (by decide) (t := .long) (t' := (.object "java/lang/String")) (by decide) (by decide)))
  have Fconformant_a1_110 := Fconformant_a1.other W102 (Or.inr (slot_ne (Or.inr (wd hw 50)) (Or.inr (wd hw 40)) (by decide) (t := .boolean) (t' := (.object "java/lang/String")) (by decide) (by decide)))
  have Z_111 := Nat.le_trans Z0 (Keep.of_wr W102).1
  have N102 := Fr.snoc X102 N101 ge_a1
  refine Owe.aloadN X102.here hx (hb hby d5_9) rfl rfl ?_
  refine Owe.lloadN X102.here hx (hb hby d5_10) rfl ?_
  refine Owe.putf X102 hx hZ (host := "") hown (Or.inl (wd hw 41)) Via.refl e102 Findex_a1_106 E_a1_104 (Or.inr ⟨(wd hw 42), rfl, hnm⟩) (wd hw 28) (ty := .long) (by decide) rfl rfl (hb hby d5_11) rfl fun T112 h112 X112 e112 W112 => ?_
  have K_113 := K_103.wr W112 (Or.inl (List.mem_of_getElem? (i := 0) rfl))
  have E_a1_114 := E_a1_104.wr W112
  have FcaseId_a1_115 := FcaseId_a1_105.other W112 (Or.inr (slot_ne (Or.inr (wd hw 40)) (Or.inr (wd hw 42)) (by decide) (t := (.object "java/lang/String")) (t' := .long) (by decide) (by decide)))
  have Findex_a1_116 := Findex_a1_106.same W112
  have Factivity_a1_117 := Factivity_a1_107.other W112 (Or.inr (slot_ne (Or.inr (wd hw 44)) (Or.inr (wd hw 42)) (by decide) (t := (.object "java/lang/String")) (t' := .long) (by decide) (by decide)))
  have Fconformance_a1_118 := Fconformance_a1_108.other W112 (Or.inr (slot_ne (Or.inr (wd hw 46)) (Or.inr (wd hw 42)) (by decide) (t := .double) (t' := .long) (by decide) (by decide)))
  have FinjectedDistance_a1_119 := FinjectedDistance_a1_109.other W112 (Or.inr (slot_ne (Or.inr (wd hw 48)) (Or.inr (wd hw 42)) (by decide) (t := .long) (t' := .long) (by decide) (by decide)))
  have Fconformant_a1_120 := Fconformant_a1_110.other W112 (Or.inr (slot_ne (Or.inr (wd hw 50)) (Or.inr (wd hw 42)) (by decide) (t := .boolean) (t' := .long) (by decide) (by decide)))
  have Z_121 := Nat.le_trans Z_111 (Keep.of_wr W112).1
  have N112 := Fr.snoc X112 N102 ge_a1
  refine Owe.aloadN X112.here hx (hb hby d5_14) rfl rfl ?_
  refine Owe.aload X112.here hx (hb hby d5_15) rfl rfl ?_
  refine Owe.putf X112 hx hZ (host := "") hown (Or.inl (wd hw 43)) Via.refl e112 Factivity_a1_117 E_a1_114 (Or.inr ⟨(wd hw 44), rfl, hnm⟩) (wd hw 28) (ty := (.object "java/lang/String")) (by decide) rfl rfl (hb hby d5_17) rfl fun T122 h122 X122 e122 W122 => ?_
  have K_123 := K_113.wr W122 (Or.inl (List.mem_of_getElem? (i := 0) rfl))
  have E_a1_124 := E_a1_114.wr W122
  have FcaseId_a1_125 := FcaseId_a1_115.other W122 (Or.inr (slot_ne (Or.inr (wd hw 40)) (Or.inr (wd hw 44)) (by decide) (t := (.object "java/lang/String")) (t' := (.object "java/lang/String")) (by decide) (by decide)))
  have Findex_a1_126 := Findex_a1_116.other W122 (Or.inr (slot_ne (Or.inr (wd hw 42)) (Or.inr (wd hw 44)) (by decide) (t := .long) (t' := (.object "java/lang/String")) (by decide) (by decide)))
  have Factivity_a1_127 := Factivity_a1_117.same W122
  have Fconformance_a1_128 := Fconformance_a1_118.other W122 (Or.inr (slot_ne (Or.inr (wd hw 46)) (Or.inr (wd hw 44)) (by decide) (t := .double) (t' := (.object "java/lang/String")) (by decide) (by decide)))
  have FinjectedDistance_a1_129 := FinjectedDistance_a1_119.other W122 (Or.inr (slot_ne (Or.inr (wd hw 48)) (Or.inr (wd hw 44)) (by decide) (t := .long) (t' := (.object "java/lang/String")) (by decide) (by decide)))
  have Fconformant_a1_130 := Fconformant_a1_120.other W122 (Or.inr (slot_ne (Or.inr (wd hw 50)) (Or.inr (wd hw 44)) (by decide) (t := .boolean) (t' := (.object "java/lang/String")) (by decide) (by decide)))
  have Z_131 := Nat.le_trans Z_121 (Keep.of_wr W122).1
  have N122 := Fr.snoc X122 N112 ge_a1
  refine Owe.aloadN X122.here hx (hb hby d5_20) rfl rfl ?_
  refine Owe.dload X122.here hx (hb hby d5_21) rfl ?_
  refine Owe.putf X122 hx hZ (host := "") hown (Or.inl (wd hw 45)) Via.refl e122 Fconformance_a1_128 E_a1_124 (Or.inr ⟨(wd hw 46), rfl, hnm⟩) (wd hw 28) (ty := .double) (by decide) rfl rfl (hb hby d5_23) rfl fun T132 h132 X132 e132 W132 => ?_
  have K_133 := K_123.wr W132 (Or.inl (List.mem_of_getElem? (i := 0) rfl))
  have E_a1_134 := E_a1_124.wr W132
  have FcaseId_a1_135 := FcaseId_a1_125.other W132 (Or.inr (slot_ne (Or.inr (wd hw 40)) (Or.inr (wd hw 46)) (by decide) (t := (.object "java/lang/String")) (t' := .double) (by decide) (by decide)))
  have Findex_a1_136 := Findex_a1_126.other W132 (Or.inr (slot_ne (Or.inr (wd hw 42)) (Or.inr (wd hw 46)) (by decide) (t := .long) (t' := .double) (by decide) (by decide)))
  have Factivity_a1_137 := Factivity_a1_127.other W132 (Or.inr (slot_ne (Or.inr (wd hw 44)) (Or.inr (wd hw 46)) (by decide) (t := (.object "java/lang/String")) (t' := .double) (by decide) (by decide)))
  have Fconformance_a1_138 := Fconformance_a1_128.same W132
  have FinjectedDistance_a1_139 := FinjectedDistance_a1_129.other W132 (Or.inr (slot_ne (Or.inr (wd hw 48)) (Or.inr (wd hw 46)) (by decide) (t := .long) (t' := .double) (by decide) (by decide)))
  have Fconformant_a1_140 := Fconformant_a1_130.other W132 (Or.inr (slot_ne (Or.inr (wd hw 50)) (Or.inr (wd hw 46)) (by decide) (t := .boolean) (t' := .double) (by decide) (by decide)))
  have Z_141 := Nat.le_trans Z_131 (Keep.of_wr W132).1
  have N132 := Fr.snoc X132 N122 ge_a1
  refine Owe.aloadN X132.here hx (hb hby d5_26) rfl rfl ?_
  refine Owe.lload X132.here hx (hb hby d5_27) rfl ?_
  refine Owe.putf X132 hx hZ (host := "") hown (Or.inl (wd hw 47)) Via.refl e132 FinjectedDistance_a1_139 E_a1_134 (Or.inr ⟨(wd hw 48), rfl, hnm⟩) (wd hw 28) (ty := .long) (by decide) rfl rfl (hb hby d5_29) rfl fun T142 h142 X142 e142 W142 => ?_
  have K_143 := K_133.wr W142 (Or.inl (List.mem_of_getElem? (i := 0) rfl))
  have E_a1_144 := E_a1_134.wr W142
  have FcaseId_a1_145 := FcaseId_a1_135.other W142 (Or.inr (slot_ne (Or.inr (wd hw 40)) (Or.inr (wd hw 48)) (by decide) (t := (.object "java/lang/String")) (t' := .long) (by decide) (by decide)))
  have Findex_a1_146 := Findex_a1_136.other W142 (Or.inr (slot_ne (Or.inr (wd hw 42)) (Or.inr (wd hw 48)) (by decide) (t := .long) (t' := .long) (by decide) (by decide)))
  have Factivity_a1_147 := Factivity_a1_137.other W142 (Or.inr (slot_ne (Or.inr (wd hw 44)) (Or.inr (wd hw 48)) (by decide) (t := (.object "java/lang/String")) (t' := .long) (by decide) (by decide)))
  have Fconformance_a1_148 := Fconformance_a1_138.other W142 (Or.inr (slot_ne (Or.inr (wd hw 46)) (Or.inr (wd hw 48)) (by decide) (t := .double) (t' := .long) (by decide) (by decide)))
  have FinjectedDistance_a1_149 := FinjectedDistance_a1_139.same W142
  have Fconformant_a1_150 := Fconformant_a1_140.other W142 (Or.inr (slot_ne (Or.inr (wd hw 50)) (Or.inr (wd hw 48)) (by decide) (t := .boolean) (t' := .long) (by decide) (by decide)))
  have Z_151 := Nat.le_trans Z_141 (Keep.of_wr W142).1
  have N142 := Fr.snoc X142 N132 ge_a1
  refine Owe.aloadN X142.here hx (hb hby d5_32) rfl rfl ?_
  refine Owe.iload X142.here hx (hb hby d5_33) rfl ?_
  refine Owe.putf X142 hx hZ (host := "") hown (Or.inl (wd hw 49)) Via.refl e142 Fconformant_a1_150 E_a1_144 (Or.inr ⟨(wd hw 50), rfl, hnm⟩) (wd hw 28) (ty := .boolean) (by decide) rfl rfl (hb hby d5_35) rfl fun T152 h152 X152 e152 W152 => ?_
  have K_153 := K_143.wr W152 (Or.inl (List.mem_of_getElem? (i := 0) rfl))
  have E_a1_154 := E_a1_144.wr W152
  have FcaseId_a1_155 := FcaseId_a1_145.other W152 (Or.inr (slot_ne (Or.inr (wd hw 40)) (Or.inr (wd hw 50)) (by decide) (t := (.object "java/lang/String")) (t' := .boolean) (by decide) (by decide)))
  have Findex_a1_156 := Findex_a1_146.other W152 (Or.inr (slot_ne (Or.inr (wd hw 42)) (Or.inr (wd hw 50)) (by decide) (t := .long) (t' := .boolean) (by decide) (by decide)))
  have Factivity_a1_157 := Factivity_a1_147.other W152 (Or.inr (slot_ne (Or.inr (wd hw 44)) (Or.inr (wd hw 50)) (by decide) (t := (.object "java/lang/String")) (t' := .boolean) (by decide) (by decide)))
  have Fconformance_a1_158 := Fconformance_a1_148.other W152 (Or.inr (slot_ne (Or.inr (wd hw 46)) (Or.inr (wd hw 50)) (by decide) (t := .double) (t' := .boolean) (by decide) (by decide)))
  have FinjectedDistance_a1_159 := FinjectedDistance_a1_149.other W152 (Or.inr (slot_ne (Or.inr (wd hw 48)) (Or.inr (wd hw 50)) (by decide) (t := .long) (t' := .boolean) (by decide) (by decide)))
  have Fconformant_a1_160 := Fconformant_a1_150.same W152
  have Z_161 := Nat.le_trans Z_151 (Keep.of_wr W152).1
  have N152 := Fr.snoc X152 N142 ge_a1
  refine Owe.ret0 X152 hx hlk hrt (hb hby d5_38) rfl fun fs hE => ?_
  refine hG _ _ ⟨_, _, rfl, ?_, frameMono hE (by decide) (by decide)⟩
  show Qini1 Z a1 a2 ix a3 cf dd h0 n0 _ T152.heap _
  rw [e152]
  exact ⟨rfl, N152, K_153, E_a1_154, Findex_a1_156, FinjectedDistance_a1_159⟩
theorem d6_0 : decode prog_48_method_2_code 0 = .ok (.aload_n 0, 1) := by decide +kernel
theorem d6_1 : decode prog_48_method_2_code 1 = .ok (.getfield 13, 3) := by decide +kernel
theorem d6_4 : decode prog_48_method_2_code 4 = .ok (.l2d, 1) := by decide +kernel
theorem d6_5 : decode prog_48_method_2_code 5 = .ok (.aload_n 0, 1) := by decide +kernel
theorem d6_6 : decode prog_48_method_2_code 6 = .ok (.getfield 13, 3) := by decide +kernel
theorem d6_9 : decode prog_48_method_2_code 9 = .ok (.aload_n 0, 1) := by decide +kernel
theorem d6_10 : decode prog_48_method_2_code 10 = .ok (.getfield 24, 3) := by decide +kernel
theorem d6_13 : decode prog_48_method_2_code 13 = .ok (.ladd, 1) := by decide +kernel
theorem d6_14 : decode prog_48_method_2_code 14 = .ok (.l2d, 1) := by decide +kernel
theorem d6_15 : decode prog_48_method_2_code 15 = .ok (.ddiv, 1) := by decide +kernel
theorem d6_16 : decode prog_48_method_2_code 16 = .ok (.dreturn, 1) := by decide +kernel
theorem ef_cmp (m : MethodId) (x0 : Addr)  : entryFrame m #[(.ref x0)] 1 = mkF m 0 #[.val (.ref x0)] [] := by first | (simp [entryFrame, mkF, argsToLocals, Value.category]; done) | rfl
def Qcmp (Z : State) (a1 : Addr) (ix : Int64) (dd : Int64) (h0 : Heap) (n0 : Nat) (v : Option Value) (h : Heap) (L : List Loc) : Prop := v = some (.double (FP.ddiv (FP.l2d ix) (FP.l2d (ix + dd)))) ∧ Fr n0 L ∧ h = h0
set_option maxRecDepth 65536 in
set_option maxHeartbeats 40000000 in
theorem rmcmp (l : Launch) (Z : State) (a0 : Array Value) (hw : Hw Z a0) (ws : List Jvm.Cond) (a1 : Addr) (ix : Int64) (dd : Int64) (h0 : Heap) (n0 : Nat) (Z0 : n0 ≤ h0.size) (E_a1 : Exa Z h0 a1 "com/example/casewarden/casewarden/conformance/hmm/HmmVerdict") (Findex_a1 : Fld Z h0 a1 "com/example/casewarden/casewarden/conformance/hmm/HmmVerdict" "index" "J" (.long ix)) (FinjectedDistance_a1 : Fld Z h0 a1 "com/example/casewarden/casewarden/conformance/hmm/HmmVerdict" "injectedDistance" "J" (.long dd)) (hn : Jvm.Free.Fl.NoNaN64 (FP.ddiv (FP.l2d ix) (FP.l2d (ix + dd)))) :
    MF l Z Y6 prog_48_method_2_code 1 (some .double) ws ({ frames := 0, cells := 0, slots := 0, locals := 0 } : Room) #[(.ref a1)] h0 (Qcmp Z a1 ix dd h0 n0) := by
  refine MF.of (plainFor_of_name pn_3) (fun m => ef_cmp m a1) ?_
  intro p e s m below meth c s₁ G X0 e0 hx hby hml hown hnm hlk hrt hZ hnd hG
  have N0 := Fr.nil n0
  refine Owe.aloadN X0.here hx (hb hby d6_0) rfl rfl ?_
  refine Owe.getf X0 hx hZ (host := "") hown (Or.inl (wd hw 41)) Via.refl e0 Findex_a1 (hb hby d6_1) rfl fun T162 X162 e162 => ?_
  refine Owe.l2dS X162.here hx (hb hby d6_4) rfl rfl ?_
  refine Owe.aloadN X162.here hx (hb hby d6_5) rfl rfl ?_
  refine Owe.getf X162 hx hZ (host := "") hown (Or.inl (wd hw 41)) Via.refl e162 Findex_a1 (hb hby d6_6) rfl fun T163 X163 e163 => ?_
  refine Owe.aloadN X163.here hx (hb hby d6_9) rfl rfl ?_
  refine Owe.getf X163 hx hZ (host := "") hown (Or.inl (wd hw 47)) Via.refl e163 FinjectedDistance_a1 (hb hby d6_10) rfl fun T164 X164 e164 => ?_
  refine Owe.ladd X164.here hx (hb hby d6_13) rfl ?_
  refine Owe.l2dS X164.here hx (hb hby d6_14) rfl rfl ?_
  refine Owe.ddivS X164.here hx (hb hby d6_15) rfl hn rfl ?_
  refine Owe.retD X164 hx hlk hrt (hb hby d6_16) rfl fun fs hE => ?_
  refine hG _ _ ⟨_, _, rfl, ?_, frameMono hE (by decide) (by decide)⟩
  show Qcmp Z a1 ix dd h0 n0 _ T164.heap _
  rw [e164]
  exact ⟨rfl, N0, rfl⟩
theorem pn_4 : plainName "com/example/casewarden/casewarden/conformance/hmm/HmmVerdictCompletenessPinLaw" = true := by first | (simp [plainName, overriddenIn]; done) | decide +kernel
theorem ef_0 (m : MethodId) (x0 : Int64) (x1 : Int64) (x2 : Int64) (x3 : Int32)  : entryFrame m #[(.long x0), (.long x1), (.long x2), (.int x3)] maxLocals = mkF m 0 #[.val (.long x0), .second, .val (.long x1), .second, .val (.long x2), .second, .val (.int x3), .unset, .unset, .unset, .unset, .unset, .unset, .unset, .unset, .unset, .unset, .unset, .unset, .unset, .unset, .unset, .unset, .unset, .unset, .unset, .unset, .unset, .unset, .unset, .unset, .unset, .unset, .unset, .unset, .unset, .unset, .unset] [] := by first | (simp [entryFrame, mkF, argsToLocals, Value.category, maxLocals]; done) | rfl
def Q0 (Z : State) (q1 : Int64) (q2 : Int64) (q3 : Int64) (p4 : Int32) (G1 : Int32) (h0 : Heap) (n0 : Nat) (v : Option Value) (h : Heap) (L : List Loc) : Prop := v = some (.int 1) ∧ Fr n0 L
set_option maxRecDepth 65536 in
set_option maxHeartbeats 40000000 in
theorem rm0 (l : Launch) (Z : State) (a0 : Array Value) (hw : Hw Z a0) (ws : List Jvm.Cond) (q1 : Int64) (q2 : Int64) (q3 : Int64) (p4 : Int32) (G1 : Int32) (h0 : Heap) (n0 : Nat) (Z0 : n0 ≤ h0.size) (S_COMPACT_STRINGS : Sta Z Z.heap "java/lang/String" "COMPACT_STRINGS" "Z" (.int G1)) (cs0 : ¬ (G1 = (0 : Int32))) (Ol : Old Z n0 h0) :
    MetFree l x (head1 (Jvm.Cond.code x code maxLocals ret :: ws) room_1) (fun a U => a = #[(.long q1), (.long q2), (.long q3), (.int p4)] ∧ Z.Warmed39 U.vm ∧ U.heap = h0) (fun _ _ _ _ _ => True) (fun _ U o U' => ∃ v L, o = .returned v ∧ Q0 Z q1 q2 q3 p4 G1 h0 n0 v U'.heap L ∧ FrameEnd U o U' L room_1.cells room_1.slots) := by
  refine MetFree.of_bodySF (plainFor_of_name pn_4) hisR ?_
  intro p e s m args below meth c s₁ Bd hml0 hP hK
  obtain ⟨rfl, hZ, hh⟩ := hP
  have hx := Bd.exec
  have hby := Bd.bytes
  have hml : c.maxLocals = 38 := hml0
  have hown : s.vm.findClass "com/example/casewarden/casewarden/conformance/hmm/HmmVerdictCompletenessPinLaw" = some m.cls := findClass_of_methodNamed Bd.named
  have hnm := (name_of_methodNamed Bd.named Bd.method).1
  have hlk : meth.locks = false := BodyLoose.notSynchronized Bd
  have X0 : Stand p l e room_1 s m #[(.long q1), (.long q2), (.long q3), (.int p4)] below meth c s₁ [] 0 0 := Stand.of_body Bd
  have e0 : s₁.heap = h0 := by rw [← hh, Bd.state]; rfl
  have N0 := Fr.nil n0
  have hrt := Bd.returns
  obtain ⟨G, hG⟩ : ∃ G : Outcome → State → Prop, G = fun o u => ∃ v L, o = .returned v ∧ Q0 Z q1 q2 q3 p4 G1 h0 n0 v u.heap L ∧ FrameEnd s o u L room_1.cells room_1.slots := ⟨_, rfl⟩
  suffices hgo : Owe p.tables e below G s₁ (mkF m 0 #[.val (.long q1), .second, .val (.long q2), .second, .val (.long q3), .second, .val (.int p4), .unset, .unset, .unset, .unset, .unset, .unset, .unset, .unset, .unset, .unset, .unset, .unset, .unset, .unset, .unset, .unset, .unset, .unset, .unset, .unset, .unset, .unset, .unset, .unset, .unset, .unset, .unset, .unset, .unset, .unset, .unset] []) by
    obtain ⟨u, o, h1, h2, h3, h4⟩ := hgo
    exact ⟨u, o, castTop (ef_0 m q1 q2 q3 p4) h1, h2, h3, by rw [hG] at h4; exact h4⟩
  refine Owe.lloadN X0.here hx (hb hby at_0) rfl ?_
  refine Owe.ldc2L X0 hx (v := (4503599627370495 : Int64)) hown (mvT hZ (wd hw 0)) (hb hby at_1) ?_
  refine Owe.land X0.here hx (hb hby at_4) rfl ?_
  refine Owe.lconst X0.here hx (hb hby at_5) (w := (1 : Int64)) rfl ?_
  refine Owe.ladd X0.here hx (hb hby at_6) rfl ?_
  have hA := own_A q1
  generalize ((q1 &&& (4503599627370495 : Int64)) + (1 : Int64)) = A at hA ⊢
  refine Owe.lstore X0.here hx (hb hby at_7) rfl (l' := #[.val (.long q1), .second, .val (.long q2), .second, .val (.long q3), .second, .val (.int p4), .val (.long A), .second, .unset, .unset, .unset, .unset, .unset, .unset, .unset, .unset, .unset, .unset, .unset, .unset, .unset, .unset, .unset, .unset, .unset, .unset, .unset, .unset, .unset, .unset, .unset, .unset, .unset, .unset, .unset, .unset, .unset]) rfl ?_
  refine Owe.lloadN X0.here hx (hb hby at_9) rfl ?_
  refine Owe.ldc2L X0 hx (v := (4503599627370495 : Int64)) hown (mvT hZ (wd hw 0)) (hb hby at_10) ?_
  refine Owe.land X0.here hx (hb hby at_13) rfl ?_
  have hD := own_D q2
  generalize (q2 &&& (4503599627370495 : Int64)) = D at hD ⊢
  refine Owe.lstore X0.here hx (hb hby at_14) rfl (l' := #[.val (.long q1), .second, .val (.long q2), .second, .val (.long q3), .second, .val (.int p4), .val (.long A), .second, .val (.long D), .second, .unset, .unset, .unset, .unset, .unset, .unset, .unset, .unset, .unset, .unset, .unset, .unset, .unset, .unset, .unset, .unset, .unset, .unset, .unset, .unset, .unset, .unset, .unset, .unset, .unset, .unset, .unset]) rfl ?_
  refine Owe.lload X0.here hx (hb hby at_16) rfl ?_
  refine Owe.ldc2L X0 hx (v := (4503599627370495 : Int64)) hown (mvT hZ (wd hw 0)) (hb hby at_18) ?_
  refine Owe.land X0.here hx (hb hby at_21) rfl ?_
  have hE := own_D q3
  generalize (q3 &&& (4503599627370495 : Int64)) = E at hE ⊢
  refine Owe.lstore X0.here hx (hb hby at_22) rfl (l' := #[.val (.long q1), .second, .val (.long q2), .second, .val (.long q3), .second, .val (.int p4), .val (.long A), .second, .val (.long D), .second, .val (.long E), .second, .unset, .unset, .unset, .unset, .unset, .unset, .unset, .unset, .unset, .unset, .unset, .unset, .unset, .unset, .unset, .unset, .unset, .unset, .unset, .unset, .unset, .unset, .unset, .unset, .unset]) rfl ?_
  refine Owe.iload X0.here hx (hb hby at_24) rfl ?_
  refine Owe.sipush X0.here hx (hb hby at_26) (w := (255 : Int32)) rfl ?_
  refine Owe.iand X0.here hx (hb hby at_29) rfl ?_
  refine Owe.i2c X0.here hx (hb hby at_30) rfl ?_
  refine Owe.stat X0 hx (y := Y4) hown (mvT hZ (wd hw 1)) (mvT hZ (wd hw 2)) (mvT hZ (wd hw 3)) (mvT hZ (wd hw 4)) (by decide) (backOf (W := 0) (rmvof l Z a0 hw [] ((p4 &&& (255 : Int32)).toUInt32.toUInt16.toUInt32.toInt32) G1 h0 n0 Z0 S_COMPACT_STRINGS cs0 (own_c255 _).2 Ol) hZ (wd hw 4) (wd hw 3) (by decide) (by decide)) (by rw [hml]; rfl) (argsL := [(.int ((p4 &&& (255 : Int32)).toUInt32.toUInt16.toUInt32.toInt32))]) (rest := []) (lenOf pd_4 rfl) rfl (nb rfl) (hb hby at_31) rfl e0 (by decide) (by decide) fun T165 v165 L165 X165 hQ165 => ?_
  obtain ⟨x1_165, t1_165, k1_165, rfl, Nq165, K165, ge_x1_165, fresh_x1_165, ge_t1_165, fresh_t1_165, E_x1_165, Fvalue_x1_165, Fcoder_x1_165, V_t1_165⟩ := hQ165
  have N165 := Fr.app N0 Nq165
  have Ol_166 := Ol.keep K165 all0
  have Z_167 := Nat.le_trans Z0 K165.1
  refine Owe.astore X165.here hx (hb hby at_34) rfl rfl (l' := #[.val (.long q1), .second, .val (.long q2), .second, .val (.long q3), .second, .val (.int p4), .val (.long A), .second, .val (.long D), .second, .val (.long E), .second, .val (.ref x1_165), .unset, .unset, .unset, .unset, .unset, .unset, .unset, .unset, .unset, .unset, .unset, .unset, .unset, .unset, .unset, .unset, .unset, .unset, .unset, .unset, .unset, .unset, .unset, .unset]) rfl ?_
  refine Owe.iload X165.here hx (hb hby at_36) rfl ?_
  refine Owe.bipush X165.here hx (hb hby at_38) (w := (8 : Int32)) rfl ?_
  refine Owe.iushr X165.here hx (hb hby at_40) rfl ?_
  refine Owe.sipush X165.here hx (hb hby at_41) (w := (255 : Int32)) rfl ?_
  refine Owe.iand X165.here hx (hb hby at_44) rfl ?_
  refine Owe.i2c X165.here hx (hb hby at_45) rfl ?_
  refine Owe.stat X165 hx (y := Y4) hown (mvT hZ (wd hw 1)) (mvT hZ (wd hw 2)) (mvT hZ (wd hw 3)) (mvT hZ (wd hw 4)) (by decide) (backOf (W := 0) (rmvof l Z a0 hw [] ((((p4.toUInt32 >>> ((8 : Int32) &&& 31).toUInt32).toInt32) &&& (255 : Int32)).toUInt32.toUInt16.toUInt32.toInt32) G1 T165.heap n0 Z_167 S_COMPACT_STRINGS cs0 (own_c255 _).2 Ol_166) hZ (wd hw 4) (wd hw 3) (by decide) (by decide)) (by rw [hml]; rfl) (argsL := [(.int ((((p4.toUInt32 >>> ((8 : Int32) &&& 31).toUInt32).toInt32) &&& (255 : Int32)).toUInt32.toUInt16.toUInt32.toInt32))]) (rest := []) (lenOf pd_4 rfl) rfl (nb rfl) (hb hby at_46) rfl rfl (by decide) (by decide) fun T168 v168 L168 X168 hQ168 => ?_
  obtain ⟨x1_168, t1_168, k1_168, rfl, Nq168, K168, ge_x1_168, fresh_x1_168, ge_t1_168, fresh_t1_168, E_x1_168, Fvalue_x1_168, Fcoder_x1_168, V_t1_168⟩ := hQ168
  have N168 := Fr.app N165 Nq168
  have Ol_169 := Ol_166.keep K168 all0
  have E_x1_170 := E_x1_165.keep K168
  have Fvalue_x1_171 := Fvalue_x1_165.keep K168 nin0
  have Fcoder_x1_172 := Fcoder_x1_165.keep K168 nin0
  have V_t1_173 := V_t1_165.keep K168 nin0
  have Z_174 := Nat.le_trans Z_167 K168.1
  have ne_x1_165_x1_168 : x1_165 ≠ x1_168 := Nat.ne_of_lt (Nat.lt_of_lt_of_le E_x1_165.lt fresh_x1_168)
  have ne_t1_165_x1_168 : t1_165 ≠ x1_168 := Nat.ne_of_lt (Nat.lt_of_lt_of_le V_t1_165.lt fresh_x1_168)
  have ne_x1_165_t1_168 : x1_165 ≠ t1_168 := Nat.ne_of_lt (Nat.lt_of_lt_of_le E_x1_165.lt fresh_t1_168)
  have ne_t1_165_t1_168 : t1_165 ≠ t1_168 := Nat.ne_of_lt (Nat.lt_of_lt_of_le V_t1_165.lt fresh_t1_168)
  refine Owe.astore X168.here hx (hb hby at_49) rfl rfl (l' := #[.val (.long q1), .second, .val (.long q2), .second, .val (.long q3), .second, .val (.int p4), .val (.long A), .second, .val (.long D), .second, .val (.long E), .second, .val (.ref x1_165), .val (.ref x1_168), .unset, .unset, .unset, .unset, .unset, .unset, .unset, .unset, .unset, .unset, .unset, .unset, .unset, .unset, .unset, .unset, .unset, .unset, .unset, .unset, .unset, .unset, .unset]) rfl ?_
  refine Owe.iload X168.here hx (hb hby at_51) rfl ?_
  refine Owe.bipush X168.here hx (hb hby at_53) (w := (16 : Int32)) rfl ?_
  refine Owe.iushr X168.here hx (hb hby at_55) rfl ?_
  refine Owe.iconst X168.here hx (hb hby at_56) (w := (1 : Int32)) rfl ?_
  refine Owe.iand X168.here hx (hb hby at_57) rfl ?_
  refine Owe.i2dS X168.here hx (hb hby at_58) rfl rfl ?_
  refine Owe.dstore X168.here hx (hb hby at_59) rfl (l' := #[.val (.long q1), .second, .val (.long q2), .second, .val (.long q3), .second, .val (.int p4), .val (.long A), .second, .val (.long D), .second, .val (.long E), .second, .val (.ref x1_165), .val (.ref x1_168), .val (.double (FP.i2d (((p4.toUInt32 >>> ((16 : Int32) &&& 31).toUInt32).toInt32) &&& (1 : Int32)))), .second, .unset, .unset, .unset, .unset, .unset, .unset, .unset, .unset, .unset, .unset, .unset, .unset, .unset, .unset, .unset, .unset, .unset, .unset, .unset, .unset, .unset]) rfl ?_
  refine Owe.iload X168.here hx (hb hby at_61) rfl ?_
  refine Owe.bipush X168.here hx (hb hby at_63) (w := (17 : Int32)) rfl ?_
  refine Owe.iushr X168.here hx (hb hby at_65) rfl ?_
  refine Owe.iconst X168.here hx (hb hby at_66) (w := (1 : Int32)) rfl ?_
  refine Owe.iand X168.here hx (hb hby at_67) rfl ?_
  by_cases hc68_175 : (((p4.toUInt32 >>> ((17 : Int32) &&& 31).toUInt32).toInt32) &&& (1 : Int32)) = (0 : Int32)
  · skip
    refine Owe.ifYes X168.here hx (hb hby at_68) rfl ((if0 _ _).trans (teq hc68_175).1) (pc' := 75) (by decide) (by decide) ?_
    refine Owe.iconst X168.here hx (hb hby at_75) (w := (0 : Int32)) rfl ?_
    refine Owe.istore X168.here hx (hb hby at_76) rfl (l' := #[.val (.long q1), .second, .val (.long q2), .second, .val (.long q3), .second, .val (.int p4), .val (.long A), .second, .val (.long D), .second, .val (.long E), .second, .val (.ref x1_165), .val (.ref x1_168), .val (.double (FP.i2d (((p4.toUInt32 >>> ((16 : Int32) &&& 31).toUInt32).toInt32) &&& (1 : Int32)))), .second, .val (.int (0 : Int32)), .unset, .unset, .unset, .unset, .unset, .unset, .unset, .unset, .unset, .unset, .unset, .unset, .unset, .unset, .unset, .unset, .unset, .unset, .unset, .unset]) rfl ?_
    refine Owe.new X168 hx hZ hown (wd hw 27) (wd hw 28) (wd hw 29) rfl (hb hby at_78) (by decide) (by decide) fun T176 h176 b176 g176 X176 e176 E176 A176 D176 => ?_
    have ne_x1_165_b176 : x1_165 ≠ b176 := Nat.ne_of_lt (Nat.lt_of_lt_of_le E_x1_170.lt (Nat.le_of_eq g176.symm))
    have ne_t1_165_b176 : t1_165 ≠ b176 := Nat.ne_of_lt (Nat.lt_of_lt_of_le V_t1_173.lt (Nat.le_of_eq g176.symm))
    have ne_x1_168_b176 : x1_168 ≠ b176 := Nat.ne_of_lt (Nat.lt_of_lt_of_le E_x1_168.lt (Nat.le_of_eq g176.symm))
    have ne_t1_168_b176 : t1_168 ≠ b176 := Nat.ne_of_lt (Nat.lt_of_lt_of_le V_t1_168.lt (Nat.le_of_eq g176.symm))
    have ge_b176 := Nat.le_trans Z_174 (Nat.le_of_eq g176.symm)
    have Ol_177 := Ol_169.ext E176
    have E_x1_178 := E_x1_170.ext E176
    have Fvalue_x1_179 := Fvalue_x1_171.ext E176
    have Fcoder_x1_180 := Fcoder_x1_172.ext E176
    have V_t1_181 := V_t1_173.ext E176
    have E_x1_182 := E_x1_168.ext E176
    have Fvalue_x1_183 := Fvalue_x1_168.ext E176
    have Fcoder_x1_184 := Fcoder_x1_168.ext E176
    have V_t1_185 := V_t1_168.ext E176
    have Z_186 := Nat.le_trans Z_174 E176.1
    have FcaseId_b176 : Fld Z h176 b176 "com/example/casewarden/casewarden/conformance/hmm/HmmVerdict" "caseId" "Ljava/lang/String;" .null := D176 (Or.inr (wd hw 40)) (ty := (.object "java/lang/String")) (by decide)
    have Findex_b176 : Fld Z h176 b176 "com/example/casewarden/casewarden/conformance/hmm/HmmVerdict" "index" "J" (.long (0 : Int64)) := D176 (Or.inr (wd hw 42)) (ty := .long) (by decide)
    have Factivity_b176 : Fld Z h176 b176 "com/example/casewarden/casewarden/conformance/hmm/HmmVerdict" "activity" "Ljava/lang/String;" .null := D176 (Or.inr (wd hw 44)) (ty := (.object "java/lang/String")) (by decide)
    have Fconformance_b176 : Fld Z h176 b176 "com/example/casewarden/casewarden/conformance/hmm/HmmVerdict" "conformance" "D" (.double (0 : UInt64)) := D176 (Or.inr (wd hw 46)) (ty := .double) (by decide)
    have FinjectedDistance_b176 : Fld Z h176 b176 "com/example/casewarden/casewarden/conformance/hmm/HmmVerdict" "injectedDistance" "J" (.long (0 : Int64)) := D176 (Or.inr (wd hw 48)) (ty := .long) (by decide)
    have Fconformant_b176 : Fld Z h176 b176 "com/example/casewarden/casewarden/conformance/hmm/HmmVerdict" "conformant" "Z" (.int (0 : Int32)) := D176 (Or.inr (wd hw 50)) (ty := .boolean) (by decide)
    refine Owe.dup X176.here hx (hb hby at_81) rfl rfl ?_
    refine Owe.aload X176.here hx (hb hby at_82) rfl rfl ?_
    refine Owe.lload X176.here hx (hb hby at_84) rfl ?_
    refine Owe.aload X176.here hx (hb hby at_86) rfl rfl ?_
    refine Owe.dload X176.here hx (hb hby at_88) rfl ?_
    refine Owe.lload X176.here hx (hb hby at_90) rfl ?_
    refine Owe.iload X176.here hx (hb hby at_92) rfl ?_
    refine Owe.special X176 hx (y := Y5) rfl hown (mvT hZ (wd hw 30)) (mvT hZ (wd hw 31)) (mvT hZ (wd hw 32)) (by decide) (backOf (W := 1) (rmini0 l Z a0 hw [] b176 x1_165 A x1_168 (FP.i2d (((p4.toUInt32 >>> ((16 : Int32) &&& 31).toUInt32).toInt32) &&& (1 : Int32))) D h176 n0 Z_186 A176 FcaseId_b176 Findex_b176 Factivity_b176 Fconformance_b176 FinjectedDistance_b176 Fconformant_b176 ge_b176) hZ (wd hw 32) (wd hw 29) (by decide) (by decide)) (by rw [hml]; rfl) (a := b176) (argsL := [(.ref x1_165), (.long A), (.ref x1_168), (.double (FP.i2d (((p4.toUInt32 >>> ((16 : Int32) &&& 31).toUInt32).toInt32) &&& (1 : Int32)))), (.long D), (.int (0 : Int32))]) (rest := [(.ref b176)]) (lenOf pd_5 rfl) rfl (nb rfl) (hb hby at_94) rfl e176 (by decide) (by decide) fun T187 v187 L187 X187 hQ187 => ?_
    obtain ⟨rfl, Nq187, K187, E_a1_187, Findex_a1_187, FinjectedDistance_a1_187⟩ := hQ187
    have N187 := Fr.app N168 Nq187
    have Ol_188 := Ol_177.keep K187 (allS ge_b176 all0)
    have E_x1_189 := E_x1_178.keep K187
    have Fvalue_x1_190 := Fvalue_x1_179.keep K187 (ninS ne_x1_165_b176 nin0)
    have Fcoder_x1_191 := Fcoder_x1_180.keep K187 (ninS ne_x1_165_b176 nin0)
    have V_t1_192 := V_t1_181.keep K187 (ninS ne_t1_165_b176 nin0)
    have E_x1_193 := E_x1_182.keep K187
    have Fvalue_x1_194 := Fvalue_x1_183.keep K187 (ninS ne_x1_168_b176 nin0)
    have Fcoder_x1_195 := Fcoder_x1_184.keep K187 (ninS ne_x1_168_b176 nin0)
    have V_t1_196 := V_t1_185.keep K187 (ninS ne_t1_168_b176 nin0)
    have A176_197 := A176.keep K187
    have Z_198 := Nat.le_trans Z_186 K187.1
    refine Owe.astore X187.here hx (hb hby at_97) rfl rfl (l' := #[.val (.long q1), .second, .val (.long q2), .second, .val (.long q3), .second, .val (.int p4), .val (.long A), .second, .val (.long D), .second, .val (.long E), .second, .val (.ref x1_165), .val (.ref x1_168), .val (.double (FP.i2d (((p4.toUInt32 >>> ((16 : Int32) &&& 31).toUInt32).toInt32) &&& (1 : Int32)))), .second, .val (.int (0 : Int32)), .val (.ref b176), .unset, .unset, .unset, .unset, .unset, .unset, .unset, .unset, .unset, .unset, .unset, .unset, .unset, .unset, .unset, .unset, .unset, .unset, .unset]) rfl ?_
    refine Owe.new X187 hx hZ hown (wd hw 27) (wd hw 28) (wd hw 29) rfl (hb hby at_99) (by decide) (by decide) fun T199 h199 b199 g199 X199 e199 E199 A199 D199 => ?_
    have ne_x1_165_b199 : x1_165 ≠ b199 := Nat.ne_of_lt (Nat.lt_of_lt_of_le E_x1_189.lt (Nat.le_of_eq g199.symm))
    have ne_t1_165_b199 : t1_165 ≠ b199 := Nat.ne_of_lt (Nat.lt_of_lt_of_le V_t1_192.lt (Nat.le_of_eq g199.symm))
    have ne_x1_168_b199 : x1_168 ≠ b199 := Nat.ne_of_lt (Nat.lt_of_lt_of_le E_x1_193.lt (Nat.le_of_eq g199.symm))
    have ne_t1_168_b199 : t1_168 ≠ b199 := Nat.ne_of_lt (Nat.lt_of_lt_of_le V_t1_196.lt (Nat.le_of_eq g199.symm))
    have ne_b176_b199 : b176 ≠ b199 := Nat.ne_of_lt (Nat.lt_of_lt_of_le E_a1_187.lt (Nat.le_of_eq g199.symm))
    have ge_b199 := Nat.le_trans Z_198 (Nat.le_of_eq g199.symm)
    have Ol_200 := Ol_188.ext E199
    have E_x1_201 := E_x1_189.ext E199
    have Fvalue_x1_202 := Fvalue_x1_190.ext E199
    have Fcoder_x1_203 := Fcoder_x1_191.ext E199
    have V_t1_204 := V_t1_192.ext E199
    have E_x1_205 := E_x1_193.ext E199
    have Fvalue_x1_206 := Fvalue_x1_194.ext E199
    have Fcoder_x1_207 := Fcoder_x1_195.ext E199
    have V_t1_208 := V_t1_196.ext E199
    have E_a1_209 := E_a1_187.ext E199
    have Findex_a1_210 := Findex_a1_187.ext E199
    have FinjectedDistance_a1_211 := FinjectedDistance_a1_187.ext E199
    have Z_212 := Nat.le_trans Z_198 E199.1
    have FcaseId_b199 : Fld Z h199 b199 "com/example/casewarden/casewarden/conformance/hmm/HmmVerdict" "caseId" "Ljava/lang/String;" .null := D199 (Or.inr (wd hw 40)) (ty := (.object "java/lang/String")) (by decide)
    have Findex_b199 : Fld Z h199 b199 "com/example/casewarden/casewarden/conformance/hmm/HmmVerdict" "index" "J" (.long (0 : Int64)) := D199 (Or.inr (wd hw 42)) (ty := .long) (by decide)
    have Factivity_b199 : Fld Z h199 b199 "com/example/casewarden/casewarden/conformance/hmm/HmmVerdict" "activity" "Ljava/lang/String;" .null := D199 (Or.inr (wd hw 44)) (ty := (.object "java/lang/String")) (by decide)
    have Fconformance_b199 : Fld Z h199 b199 "com/example/casewarden/casewarden/conformance/hmm/HmmVerdict" "conformance" "D" (.double (0 : UInt64)) := D199 (Or.inr (wd hw 46)) (ty := .double) (by decide)
    have FinjectedDistance_b199 : Fld Z h199 b199 "com/example/casewarden/casewarden/conformance/hmm/HmmVerdict" "injectedDistance" "J" (.long (0 : Int64)) := D199 (Or.inr (wd hw 48)) (ty := .long) (by decide)
    have Fconformant_b199 : Fld Z h199 b199 "com/example/casewarden/casewarden/conformance/hmm/HmmVerdict" "conformant" "Z" (.int (0 : Int32)) := D199 (Or.inr (wd hw 50)) (ty := .boolean) (by decide)
    refine Owe.dup X199.here hx (hb hby at_102) rfl rfl ?_
    refine Owe.aload X199.here hx (hb hby at_103) rfl rfl ?_
    refine Owe.lload X199.here hx (hb hby at_105) rfl ?_
    refine Owe.aload X199.here hx (hb hby at_107) rfl rfl ?_
    refine Owe.dload X199.here hx (hb hby at_109) rfl ?_
    refine Owe.lconst X199.here hx (hb hby at_111) (w := (0 : Int64)) rfl ?_
    refine Owe.iload X199.here hx (hb hby at_112) rfl ?_
    refine Owe.special X199 hx (y := Y5) rfl hown (mvT hZ (wd hw 30)) (mvT hZ (wd hw 31)) (mvT hZ (wd hw 32)) (by decide) (backOf (W := 1) (rmini0 l Z a0 hw [] b199 x1_165 A x1_168 (FP.i2d (((p4.toUInt32 >>> ((16 : Int32) &&& 31).toUInt32).toInt32) &&& (1 : Int32))) (0 : Int64) h199 n0 Z_212 A199 FcaseId_b199 Findex_b199 Factivity_b199 Fconformance_b199 FinjectedDistance_b199 Fconformant_b199 ge_b199) hZ (wd hw 32) (wd hw 29) (by decide) (by decide)) (by rw [hml]; rfl) (a := b199) (argsL := [(.ref x1_165), (.long A), (.ref x1_168), (.double (FP.i2d (((p4.toUInt32 >>> ((16 : Int32) &&& 31).toUInt32).toInt32) &&& (1 : Int32)))), (.long (0 : Int64)), (.int (0 : Int32))]) (rest := [(.ref b199)]) (lenOf pd_5 rfl) rfl (nb rfl) (hb hby at_114) rfl e199 (by decide) (by decide) fun T213 v213 L213 X213 hQ213 => ?_
    obtain ⟨rfl, Nq213, K213, E_a1_213, Findex_a1_213, FinjectedDistance_a1_213⟩ := hQ213
    have N213 := Fr.app N187 Nq213
    have Ol_214 := Ol_200.keep K213 (allS ge_b199 all0)
    have E_x1_215 := E_x1_201.keep K213
    have Fvalue_x1_216 := Fvalue_x1_202.keep K213 (ninS ne_x1_165_b199 nin0)
    have Fcoder_x1_217 := Fcoder_x1_203.keep K213 (ninS ne_x1_165_b199 nin0)
    have V_t1_218 := V_t1_204.keep K213 (ninS ne_t1_165_b199 nin0)
    have E_x1_219 := E_x1_205.keep K213
    have Fvalue_x1_220 := Fvalue_x1_206.keep K213 (ninS ne_x1_168_b199 nin0)
    have Fcoder_x1_221 := Fcoder_x1_207.keep K213 (ninS ne_x1_168_b199 nin0)
    have V_t1_222 := V_t1_208.keep K213 (ninS ne_t1_168_b199 nin0)
    have E_a1_223 := E_a1_209.keep K213
    have Findex_a1_224 := Findex_a1_210.keep K213 (ninS ne_b176_b199 nin0)
    have FinjectedDistance_a1_225 := FinjectedDistance_a1_211.keep K213 (ninS ne_b176_b199 nin0)
    have A199_226 := A199.keep K213
    have Z_227 := Nat.le_trans Z_212 K213.1
    refine Owe.astore X213.here hx (hb hby at_117) rfl rfl (l' := #[.val (.long q1), .second, .val (.long q2), .second, .val (.long q3), .second, .val (.int p4), .val (.long A), .second, .val (.long D), .second, .val (.long E), .second, .val (.ref x1_165), .val (.ref x1_168), .val (.double (FP.i2d (((p4.toUInt32 >>> ((16 : Int32) &&& 31).toUInt32).toInt32) &&& (1 : Int32)))), .second, .val (.int (0 : Int32)), .val (.ref b176), .val (.ref b199), .unset, .unset, .unset, .unset, .unset, .unset, .unset, .unset, .unset, .unset, .unset, .unset, .unset, .unset, .unset, .unset, .unset, .unset]) rfl ?_
    refine Owe.new X213 hx hZ hown (wd hw 27) (wd hw 28) (wd hw 29) rfl (hb hby at_119) (by decide) (by decide) fun T228 h228 b228 g228 X228 e228 E228 A228 D228 => ?_
    have ne_x1_165_b228 : x1_165 ≠ b228 := Nat.ne_of_lt (Nat.lt_of_lt_of_le E_x1_215.lt (Nat.le_of_eq g228.symm))
    have ne_t1_165_b228 : t1_165 ≠ b228 := Nat.ne_of_lt (Nat.lt_of_lt_of_le V_t1_218.lt (Nat.le_of_eq g228.symm))
    have ne_x1_168_b228 : x1_168 ≠ b228 := Nat.ne_of_lt (Nat.lt_of_lt_of_le E_x1_219.lt (Nat.le_of_eq g228.symm))
    have ne_t1_168_b228 : t1_168 ≠ b228 := Nat.ne_of_lt (Nat.lt_of_lt_of_le V_t1_222.lt (Nat.le_of_eq g228.symm))
    have ne_b176_b228 : b176 ≠ b228 := Nat.ne_of_lt (Nat.lt_of_lt_of_le E_a1_223.lt (Nat.le_of_eq g228.symm))
    have ne_b199_b228 : b199 ≠ b228 := Nat.ne_of_lt (Nat.lt_of_lt_of_le E_a1_213.lt (Nat.le_of_eq g228.symm))
    have ge_b228 := Nat.le_trans Z_227 (Nat.le_of_eq g228.symm)
    have Ol_229 := Ol_214.ext E228
    have E_x1_230 := E_x1_215.ext E228
    have Fvalue_x1_231 := Fvalue_x1_216.ext E228
    have Fcoder_x1_232 := Fcoder_x1_217.ext E228
    have V_t1_233 := V_t1_218.ext E228
    have E_x1_234 := E_x1_219.ext E228
    have Fvalue_x1_235 := Fvalue_x1_220.ext E228
    have Fcoder_x1_236 := Fcoder_x1_221.ext E228
    have V_t1_237 := V_t1_222.ext E228
    have E_a1_238 := E_a1_223.ext E228
    have Findex_a1_239 := Findex_a1_224.ext E228
    have FinjectedDistance_a1_240 := FinjectedDistance_a1_225.ext E228
    have E_a1_241 := E_a1_213.ext E228
    have Findex_a1_242 := Findex_a1_213.ext E228
    have FinjectedDistance_a1_243 := FinjectedDistance_a1_213.ext E228
    have Z_244 := Nat.le_trans Z_227 E228.1
    have FcaseId_b228 : Fld Z h228 b228 "com/example/casewarden/casewarden/conformance/hmm/HmmVerdict" "caseId" "Ljava/lang/String;" .null := D228 (Or.inr (wd hw 40)) (ty := (.object "java/lang/String")) (by decide)
    have Findex_b228 : Fld Z h228 b228 "com/example/casewarden/casewarden/conformance/hmm/HmmVerdict" "index" "J" (.long (0 : Int64)) := D228 (Or.inr (wd hw 42)) (ty := .long) (by decide)
    have Factivity_b228 : Fld Z h228 b228 "com/example/casewarden/casewarden/conformance/hmm/HmmVerdict" "activity" "Ljava/lang/String;" .null := D228 (Or.inr (wd hw 44)) (ty := (.object "java/lang/String")) (by decide)
    have Fconformance_b228 : Fld Z h228 b228 "com/example/casewarden/casewarden/conformance/hmm/HmmVerdict" "conformance" "D" (.double (0 : UInt64)) := D228 (Or.inr (wd hw 46)) (ty := .double) (by decide)
    have FinjectedDistance_b228 : Fld Z h228 b228 "com/example/casewarden/casewarden/conformance/hmm/HmmVerdict" "injectedDistance" "J" (.long (0 : Int64)) := D228 (Or.inr (wd hw 48)) (ty := .long) (by decide)
    have Fconformant_b228 : Fld Z h228 b228 "com/example/casewarden/casewarden/conformance/hmm/HmmVerdict" "conformant" "Z" (.int (0 : Int32)) := D228 (Or.inr (wd hw 50)) (ty := .boolean) (by decide)
    refine Owe.dup X228.here hx (hb hby at_122) rfl rfl ?_
    refine Owe.aload X228.here hx (hb hby at_123) rfl rfl ?_
    refine Owe.lload X228.here hx (hb hby at_125) rfl ?_
    refine Owe.aload X228.here hx (hb hby at_127) rfl rfl ?_
    refine Owe.dload X228.here hx (hb hby at_129) rfl ?_
    refine Owe.lload X228.here hx (hb hby at_131) rfl ?_
    refine Owe.iload X228.here hx (hb hby at_133) rfl ?_
    refine Owe.special X228 hx (y := Y5) rfl hown (mvT hZ (wd hw 30)) (mvT hZ (wd hw 31)) (mvT hZ (wd hw 32)) (by decide) (backOf (W := 1) (rmini0 l Z a0 hw [] b228 x1_165 A x1_168 (FP.i2d (((p4.toUInt32 >>> ((16 : Int32) &&& 31).toUInt32).toInt32) &&& (1 : Int32))) A h228 n0 Z_244 A228 FcaseId_b228 Findex_b228 Factivity_b228 Fconformance_b228 FinjectedDistance_b228 Fconformant_b228 ge_b228) hZ (wd hw 32) (wd hw 29) (by decide) (by decide)) (by rw [hml]; rfl) (a := b228) (argsL := [(.ref x1_165), (.long A), (.ref x1_168), (.double (FP.i2d (((p4.toUInt32 >>> ((16 : Int32) &&& 31).toUInt32).toInt32) &&& (1 : Int32)))), (.long A), (.int (0 : Int32))]) (rest := [(.ref b228)]) (lenOf pd_5 rfl) rfl (nb rfl) (hb hby at_135) rfl e228 (by decide) (by decide) fun T245 v245 L245 X245 hQ245 => ?_
    obtain ⟨rfl, Nq245, K245, E_a1_245, Findex_a1_245, FinjectedDistance_a1_245⟩ := hQ245
    have N245 := Fr.app N213 Nq245
    have Ol_246 := Ol_229.keep K245 (allS ge_b228 all0)
    have E_x1_247 := E_x1_230.keep K245
    have Fvalue_x1_248 := Fvalue_x1_231.keep K245 (ninS ne_x1_165_b228 nin0)
    have Fcoder_x1_249 := Fcoder_x1_232.keep K245 (ninS ne_x1_165_b228 nin0)
    have V_t1_250 := V_t1_233.keep K245 (ninS ne_t1_165_b228 nin0)
    have E_x1_251 := E_x1_234.keep K245
    have Fvalue_x1_252 := Fvalue_x1_235.keep K245 (ninS ne_x1_168_b228 nin0)
    have Fcoder_x1_253 := Fcoder_x1_236.keep K245 (ninS ne_x1_168_b228 nin0)
    have V_t1_254 := V_t1_237.keep K245 (ninS ne_t1_168_b228 nin0)
    have E_a1_255 := E_a1_238.keep K245
    have Findex_a1_256 := Findex_a1_239.keep K245 (ninS ne_b176_b228 nin0)
    have FinjectedDistance_a1_257 := FinjectedDistance_a1_240.keep K245 (ninS ne_b176_b228 nin0)
    have E_a1_258 := E_a1_241.keep K245
    have Findex_a1_259 := Findex_a1_242.keep K245 (ninS ne_b199_b228 nin0)
    have FinjectedDistance_a1_260 := FinjectedDistance_a1_243.keep K245 (ninS ne_b199_b228 nin0)
    have A228_261 := A228.keep K245
    have Z_262 := Nat.le_trans Z_244 K245.1
    refine Owe.astore X245.here hx (hb hby at_138) rfl rfl (l' := #[.val (.long q1), .second, .val (.long q2), .second, .val (.long q3), .second, .val (.int p4), .val (.long A), .second, .val (.long D), .second, .val (.long E), .second, .val (.ref x1_165), .val (.ref x1_168), .val (.double (FP.i2d (((p4.toUInt32 >>> ((16 : Int32) &&& 31).toUInt32).toInt32) &&& (1 : Int32)))), .second, .val (.int (0 : Int32)), .val (.ref b176), .val (.ref b199), .val (.ref b228), .unset, .unset, .unset, .unset, .unset, .unset, .unset, .unset, .unset, .unset, .unset, .unset, .unset, .unset, .unset, .unset, .unset]) rfl ?_
    refine Owe.new X245 hx hZ hown (wd hw 27) (wd hw 28) (wd hw 29) rfl (hb hby at_140) (by decide) (by decide) fun T263 h263 b263 g263 X263 e263 E263 A263 D263 => ?_
    have ne_x1_165_b263 : x1_165 ≠ b263 := Nat.ne_of_lt (Nat.lt_of_lt_of_le E_x1_247.lt (Nat.le_of_eq g263.symm))
    have ne_t1_165_b263 : t1_165 ≠ b263 := Nat.ne_of_lt (Nat.lt_of_lt_of_le V_t1_250.lt (Nat.le_of_eq g263.symm))
    have ne_x1_168_b263 : x1_168 ≠ b263 := Nat.ne_of_lt (Nat.lt_of_lt_of_le E_x1_251.lt (Nat.le_of_eq g263.symm))
    have ne_t1_168_b263 : t1_168 ≠ b263 := Nat.ne_of_lt (Nat.lt_of_lt_of_le V_t1_254.lt (Nat.le_of_eq g263.symm))
    have ne_b176_b263 : b176 ≠ b263 := Nat.ne_of_lt (Nat.lt_of_lt_of_le E_a1_255.lt (Nat.le_of_eq g263.symm))
    have ne_b199_b263 : b199 ≠ b263 := Nat.ne_of_lt (Nat.lt_of_lt_of_le E_a1_258.lt (Nat.le_of_eq g263.symm))
    have ne_b228_b263 : b228 ≠ b263 := Nat.ne_of_lt (Nat.lt_of_lt_of_le E_a1_245.lt (Nat.le_of_eq g263.symm))
    have ge_b263 := Nat.le_trans Z_262 (Nat.le_of_eq g263.symm)
    have Ol_264 := Ol_246.ext E263
    have E_x1_265 := E_x1_247.ext E263
    have Fvalue_x1_266 := Fvalue_x1_248.ext E263
    have Fcoder_x1_267 := Fcoder_x1_249.ext E263
    have V_t1_268 := V_t1_250.ext E263
    have E_x1_269 := E_x1_251.ext E263
    have Fvalue_x1_270 := Fvalue_x1_252.ext E263
    have Fcoder_x1_271 := Fcoder_x1_253.ext E263
    have V_t1_272 := V_t1_254.ext E263
    have E_a1_273 := E_a1_255.ext E263
    have Findex_a1_274 := Findex_a1_256.ext E263
    have FinjectedDistance_a1_275 := FinjectedDistance_a1_257.ext E263
    have E_a1_276 := E_a1_258.ext E263
    have Findex_a1_277 := Findex_a1_259.ext E263
    have FinjectedDistance_a1_278 := FinjectedDistance_a1_260.ext E263
    have E_a1_279 := E_a1_245.ext E263
    have Findex_a1_280 := Findex_a1_245.ext E263
    have FinjectedDistance_a1_281 := FinjectedDistance_a1_245.ext E263
    have Z_282 := Nat.le_trans Z_262 E263.1
    have FcaseId_b263 : Fld Z h263 b263 "com/example/casewarden/casewarden/conformance/hmm/HmmVerdict" "caseId" "Ljava/lang/String;" .null := D263 (Or.inr (wd hw 40)) (ty := (.object "java/lang/String")) (by decide)
    have Findex_b263 : Fld Z h263 b263 "com/example/casewarden/casewarden/conformance/hmm/HmmVerdict" "index" "J" (.long (0 : Int64)) := D263 (Or.inr (wd hw 42)) (ty := .long) (by decide)
    have Factivity_b263 : Fld Z h263 b263 "com/example/casewarden/casewarden/conformance/hmm/HmmVerdict" "activity" "Ljava/lang/String;" .null := D263 (Or.inr (wd hw 44)) (ty := (.object "java/lang/String")) (by decide)
    have Fconformance_b263 : Fld Z h263 b263 "com/example/casewarden/casewarden/conformance/hmm/HmmVerdict" "conformance" "D" (.double (0 : UInt64)) := D263 (Or.inr (wd hw 46)) (ty := .double) (by decide)
    have FinjectedDistance_b263 : Fld Z h263 b263 "com/example/casewarden/casewarden/conformance/hmm/HmmVerdict" "injectedDistance" "J" (.long (0 : Int64)) := D263 (Or.inr (wd hw 48)) (ty := .long) (by decide)
    have Fconformant_b263 : Fld Z h263 b263 "com/example/casewarden/casewarden/conformance/hmm/HmmVerdict" "conformant" "Z" (.int (0 : Int32)) := D263 (Or.inr (wd hw 50)) (ty := .boolean) (by decide)
    refine Owe.dup X263.here hx (hb hby at_143) rfl rfl ?_
    refine Owe.aload X263.here hx (hb hby at_144) rfl rfl ?_
    refine Owe.ldc2L X263 hx (v := (2 : Int64)) hown (mvT hZ (wd hw 51)) (hb hby at_146) ?_
    refine Owe.lload X263.here hx (hb hby at_149) rfl ?_
    refine Owe.lmul X263.here hx (hb hby at_151) rfl ?_
    refine Owe.aload X263.here hx (hb hby at_152) rfl rfl ?_
    refine Owe.dload X263.here hx (hb hby at_154) rfl ?_
    refine Owe.ldc2L X263 hx (v := (2 : Int64)) hown (mvT hZ (wd hw 51)) (hb hby at_156) ?_
    refine Owe.lload X263.here hx (hb hby at_159) rfl ?_
    refine Owe.lmul X263.here hx (hb hby at_161) rfl ?_
    refine Owe.iload X263.here hx (hb hby at_162) rfl ?_
    refine Owe.special X263 hx (y := Y5) rfl hown (mvT hZ (wd hw 30)) (mvT hZ (wd hw 31)) (mvT hZ (wd hw 32)) (by decide) (backOf (W := 1) (rmini0 l Z a0 hw [] b263 x1_165 ((2 : Int64) * A) x1_168 (FP.i2d (((p4.toUInt32 >>> ((16 : Int32) &&& 31).toUInt32).toInt32) &&& (1 : Int32))) ((2 : Int64) * D) h263 n0 Z_282 A263 FcaseId_b263 Findex_b263 Factivity_b263 Fconformance_b263 FinjectedDistance_b263 Fconformant_b263 ge_b263) hZ (wd hw 32) (wd hw 29) (by decide) (by decide)) (by rw [hml]; rfl) (a := b263) (argsL := [(.ref x1_165), (.long ((2 : Int64) * A)), (.ref x1_168), (.double (FP.i2d (((p4.toUInt32 >>> ((16 : Int32) &&& 31).toUInt32).toInt32) &&& (1 : Int32)))), (.long ((2 : Int64) * D)), (.int (0 : Int32))]) (rest := [(.ref b263)]) (lenOf pd_5 rfl) rfl (nb rfl) (hb hby at_164) rfl e263 (by decide) (by decide) fun T283 v283 L283 X283 hQ283 => ?_
    obtain ⟨rfl, Nq283, K283, E_a1_283, Findex_a1_283, FinjectedDistance_a1_283⟩ := hQ283
    have N283 := Fr.app N245 Nq283
    have Ol_284 := Ol_264.keep K283 (allS ge_b263 all0)
    have E_x1_285 := E_x1_265.keep K283
    have Fvalue_x1_286 := Fvalue_x1_266.keep K283 (ninS ne_x1_165_b263 nin0)
    have Fcoder_x1_287 := Fcoder_x1_267.keep K283 (ninS ne_x1_165_b263 nin0)
    have V_t1_288 := V_t1_268.keep K283 (ninS ne_t1_165_b263 nin0)
    have E_x1_289 := E_x1_269.keep K283
    have Fvalue_x1_290 := Fvalue_x1_270.keep K283 (ninS ne_x1_168_b263 nin0)
    have Fcoder_x1_291 := Fcoder_x1_271.keep K283 (ninS ne_x1_168_b263 nin0)
    have V_t1_292 := V_t1_272.keep K283 (ninS ne_t1_168_b263 nin0)
    have E_a1_293 := E_a1_273.keep K283
    have Findex_a1_294 := Findex_a1_274.keep K283 (ninS ne_b176_b263 nin0)
    have FinjectedDistance_a1_295 := FinjectedDistance_a1_275.keep K283 (ninS ne_b176_b263 nin0)
    have E_a1_296 := E_a1_276.keep K283
    have Findex_a1_297 := Findex_a1_277.keep K283 (ninS ne_b199_b263 nin0)
    have FinjectedDistance_a1_298 := FinjectedDistance_a1_278.keep K283 (ninS ne_b199_b263 nin0)
    have E_a1_299 := E_a1_279.keep K283
    have Findex_a1_300 := Findex_a1_280.keep K283 (ninS ne_b228_b263 nin0)
    have FinjectedDistance_a1_301 := FinjectedDistance_a1_281.keep K283 (ninS ne_b228_b263 nin0)
    have A263_302 := A263.keep K283
    have Z_303 := Nat.le_trans Z_282 K283.1
    refine Owe.astore X283.here hx (hb hby at_167) rfl rfl (l' := #[.val (.long q1), .second, .val (.long q2), .second, .val (.long q3), .second, .val (.int p4), .val (.long A), .second, .val (.long D), .second, .val (.long E), .second, .val (.ref x1_165), .val (.ref x1_168), .val (.double (FP.i2d (((p4.toUInt32 >>> ((16 : Int32) &&& 31).toUInt32).toInt32) &&& (1 : Int32)))), .second, .val (.int (0 : Int32)), .val (.ref b176), .val (.ref b199), .val (.ref b228), .val (.ref b263), .unset, .unset, .unset, .unset, .unset, .unset, .unset, .unset, .unset, .unset, .unset, .unset, .unset, .unset, .unset, .unset]) rfl ?_
    refine Owe.new X283 hx hZ hown (wd hw 27) (wd hw 28) (wd hw 29) rfl (hb hby at_169) (by decide) (by decide) fun T304 h304 b304 g304 X304 e304 E304 A304 D304 => ?_
    have ne_x1_165_b304 : x1_165 ≠ b304 := Nat.ne_of_lt (Nat.lt_of_lt_of_le E_x1_285.lt (Nat.le_of_eq g304.symm))
    have ne_t1_165_b304 : t1_165 ≠ b304 := Nat.ne_of_lt (Nat.lt_of_lt_of_le V_t1_288.lt (Nat.le_of_eq g304.symm))
    have ne_x1_168_b304 : x1_168 ≠ b304 := Nat.ne_of_lt (Nat.lt_of_lt_of_le E_x1_289.lt (Nat.le_of_eq g304.symm))
    have ne_t1_168_b304 : t1_168 ≠ b304 := Nat.ne_of_lt (Nat.lt_of_lt_of_le V_t1_292.lt (Nat.le_of_eq g304.symm))
    have ne_b176_b304 : b176 ≠ b304 := Nat.ne_of_lt (Nat.lt_of_lt_of_le E_a1_293.lt (Nat.le_of_eq g304.symm))
    have ne_b199_b304 : b199 ≠ b304 := Nat.ne_of_lt (Nat.lt_of_lt_of_le E_a1_296.lt (Nat.le_of_eq g304.symm))
    have ne_b228_b304 : b228 ≠ b304 := Nat.ne_of_lt (Nat.lt_of_lt_of_le E_a1_299.lt (Nat.le_of_eq g304.symm))
    have ne_b263_b304 : b263 ≠ b304 := Nat.ne_of_lt (Nat.lt_of_lt_of_le E_a1_283.lt (Nat.le_of_eq g304.symm))
    have ge_b304 := Nat.le_trans Z_303 (Nat.le_of_eq g304.symm)
    have Ol_305 := Ol_284.ext E304
    have E_x1_306 := E_x1_285.ext E304
    have Fvalue_x1_307 := Fvalue_x1_286.ext E304
    have Fcoder_x1_308 := Fcoder_x1_287.ext E304
    have V_t1_309 := V_t1_288.ext E304
    have E_x1_310 := E_x1_289.ext E304
    have Fvalue_x1_311 := Fvalue_x1_290.ext E304
    have Fcoder_x1_312 := Fcoder_x1_291.ext E304
    have V_t1_313 := V_t1_292.ext E304
    have E_a1_314 := E_a1_293.ext E304
    have Findex_a1_315 := Findex_a1_294.ext E304
    have FinjectedDistance_a1_316 := FinjectedDistance_a1_295.ext E304
    have E_a1_317 := E_a1_296.ext E304
    have Findex_a1_318 := Findex_a1_297.ext E304
    have FinjectedDistance_a1_319 := FinjectedDistance_a1_298.ext E304
    have E_a1_320 := E_a1_299.ext E304
    have Findex_a1_321 := Findex_a1_300.ext E304
    have FinjectedDistance_a1_322 := FinjectedDistance_a1_301.ext E304
    have E_a1_323 := E_a1_283.ext E304
    have Findex_a1_324 := Findex_a1_283.ext E304
    have FinjectedDistance_a1_325 := FinjectedDistance_a1_283.ext E304
    have Z_326 := Nat.le_trans Z_303 E304.1
    have FcaseId_b304 : Fld Z h304 b304 "com/example/casewarden/casewarden/conformance/hmm/HmmVerdict" "caseId" "Ljava/lang/String;" .null := D304 (Or.inr (wd hw 40)) (ty := (.object "java/lang/String")) (by decide)
    have Findex_b304 : Fld Z h304 b304 "com/example/casewarden/casewarden/conformance/hmm/HmmVerdict" "index" "J" (.long (0 : Int64)) := D304 (Or.inr (wd hw 42)) (ty := .long) (by decide)
    have Factivity_b304 : Fld Z h304 b304 "com/example/casewarden/casewarden/conformance/hmm/HmmVerdict" "activity" "Ljava/lang/String;" .null := D304 (Or.inr (wd hw 44)) (ty := (.object "java/lang/String")) (by decide)
    have Fconformance_b304 : Fld Z h304 b304 "com/example/casewarden/casewarden/conformance/hmm/HmmVerdict" "conformance" "D" (.double (0 : UInt64)) := D304 (Or.inr (wd hw 46)) (ty := .double) (by decide)
    have FinjectedDistance_b304 : Fld Z h304 b304 "com/example/casewarden/casewarden/conformance/hmm/HmmVerdict" "injectedDistance" "J" (.long (0 : Int64)) := D304 (Or.inr (wd hw 48)) (ty := .long) (by decide)
    have Fconformant_b304 : Fld Z h304 b304 "com/example/casewarden/casewarden/conformance/hmm/HmmVerdict" "conformant" "Z" (.int (0 : Int32)) := D304 (Or.inr (wd hw 50)) (ty := .boolean) (by decide)
    refine Owe.dup X304.here hx (hb hby at_172) rfl rfl ?_
    refine Owe.aload X304.here hx (hb hby at_173) rfl rfl ?_
    refine Owe.lload X304.here hx (hb hby at_175) rfl ?_
    refine Owe.aload X304.here hx (hb hby at_177) rfl rfl ?_
    refine Owe.dload X304.here hx (hb hby at_179) rfl ?_
    refine Owe.lload X304.here hx (hb hby at_181) rfl ?_
    refine Owe.lload X304.here hx (hb hby at_183) rfl ?_
    refine Owe.ladd X304.here hx (hb hby at_185) rfl ?_
    refine Owe.iload X304.here hx (hb hby at_186) rfl ?_
    refine Owe.special X304 hx (y := Y5) rfl hown (mvT hZ (wd hw 30)) (mvT hZ (wd hw 31)) (mvT hZ (wd hw 32)) (by decide) (backOf (W := 1) (rmini0 l Z a0 hw [] b304 x1_165 A x1_168 (FP.i2d (((p4.toUInt32 >>> ((16 : Int32) &&& 31).toUInt32).toInt32) &&& (1 : Int32))) (D + E) h304 n0 Z_326 A304 FcaseId_b304 Findex_b304 Factivity_b304 Fconformance_b304 FinjectedDistance_b304 Fconformant_b304 ge_b304) hZ (wd hw 32) (wd hw 29) (by decide) (by decide)) (by rw [hml]; rfl) (a := b304) (argsL := [(.ref x1_165), (.long A), (.ref x1_168), (.double (FP.i2d (((p4.toUInt32 >>> ((16 : Int32) &&& 31).toUInt32).toInt32) &&& (1 : Int32)))), (.long (D + E)), (.int (0 : Int32))]) (rest := [(.ref b304)]) (lenOf pd_5 rfl) rfl (nb rfl) (hb hby at_188) rfl e304 (by decide) (by decide) fun T327 v327 L327 X327 hQ327 => ?_
    obtain ⟨rfl, Nq327, K327, E_a1_327, Findex_a1_327, FinjectedDistance_a1_327⟩ := hQ327
    have N327 := Fr.app N283 Nq327
    have Ol_328 := Ol_305.keep K327 (allS ge_b304 all0)
    have E_x1_329 := E_x1_306.keep K327
    have Fvalue_x1_330 := Fvalue_x1_307.keep K327 (ninS ne_x1_165_b304 nin0)
    have Fcoder_x1_331 := Fcoder_x1_308.keep K327 (ninS ne_x1_165_b304 nin0)
    have V_t1_332 := V_t1_309.keep K327 (ninS ne_t1_165_b304 nin0)
    have E_x1_333 := E_x1_310.keep K327
    have Fvalue_x1_334 := Fvalue_x1_311.keep K327 (ninS ne_x1_168_b304 nin0)
    have Fcoder_x1_335 := Fcoder_x1_312.keep K327 (ninS ne_x1_168_b304 nin0)
    have V_t1_336 := V_t1_313.keep K327 (ninS ne_t1_168_b304 nin0)
    have E_a1_337 := E_a1_314.keep K327
    have Findex_a1_338 := Findex_a1_315.keep K327 (ninS ne_b176_b304 nin0)
    have FinjectedDistance_a1_339 := FinjectedDistance_a1_316.keep K327 (ninS ne_b176_b304 nin0)
    have E_a1_340 := E_a1_317.keep K327
    have Findex_a1_341 := Findex_a1_318.keep K327 (ninS ne_b199_b304 nin0)
    have FinjectedDistance_a1_342 := FinjectedDistance_a1_319.keep K327 (ninS ne_b199_b304 nin0)
    have E_a1_343 := E_a1_320.keep K327
    have Findex_a1_344 := Findex_a1_321.keep K327 (ninS ne_b228_b304 nin0)
    have FinjectedDistance_a1_345 := FinjectedDistance_a1_322.keep K327 (ninS ne_b228_b304 nin0)
    have E_a1_346 := E_a1_323.keep K327
    have Findex_a1_347 := Findex_a1_324.keep K327 (ninS ne_b263_b304 nin0)
    have FinjectedDistance_a1_348 := FinjectedDistance_a1_325.keep K327 (ninS ne_b263_b304 nin0)
    have A304_349 := A304.keep K327
    have Z_350 := Nat.le_trans Z_326 K327.1
    refine Owe.astore X327.here hx (hb hby at_191) rfl rfl (l' := #[.val (.long q1), .second, .val (.long q2), .second, .val (.long q3), .second, .val (.int p4), .val (.long A), .second, .val (.long D), .second, .val (.long E), .second, .val (.ref x1_165), .val (.ref x1_168), .val (.double (FP.i2d (((p4.toUInt32 >>> ((16 : Int32) &&& 31).toUInt32).toInt32) &&& (1 : Int32)))), .second, .val (.int (0 : Int32)), .val (.ref b176), .val (.ref b199), .val (.ref b228), .val (.ref b263), .val (.ref b304), .unset, .unset, .unset, .unset, .unset, .unset, .unset, .unset, .unset, .unset, .unset, .unset, .unset, .unset, .unset]) rfl ?_
    obtain ⟨sn1, sn0, snh, sn2a, sn2, snm⟩ := own_sums hA hD hE
    have c1 := own_c (A := A) (N := A + D) hA.1 (by omega) (by omega)
    have c0 := own_c (A := A) (N := A + (0 : Int64)) hA.1 (by omega) (by omega)
    have ch := own_c (A := A) (N := A + A) hA.1 (by omega) (by omega)
    have c2 := own_c2 (A := A) (N := A + D) (A2 := (2 : Int64) * A) (N2 := ((2 : Int64) * A) + ((2 : Int64) * D)) hA.1 (by omega) (by omega) sn2a sn2
    have cm := own_cm (A := A) (N := A + D) (M := A + (D + E)) hA.1 (by omega) (by omega) (by omega) (by omega)
    by_cases hd : D = (0 : Int64)
    · have d0 : D.toInt = 0 := by rw [hd]; rfl
      have cx := c1.2.2.1 (by omega)
      refine Owe.aload X327.here hx (hb hby at_193) rfl rfl ?_
      refine Owe.virt X327 hx hZ (y := Y6) (z := Y6) hown (mvT hZ (wd hw 52)) (mvT hZ (wd hw 53)) (mvT hZ (wd hw 55)) (mvT hZ (wd hw 54)) (notFace_of_selects (args := #[]) (mvT hZ (wd hw 55))) (by decide) (backOf (W := 0) (rmcmp l Z a0 hw [] b176 A D T327.heap n0 Z_350 E_a1_337 Findex_a1_338 FinjectedDistance_a1_339 c1.1) hZ (wd hw 56) (wd hw 29) (by decide) (by decide)) (by rw [hml]; rfl) (a := b176) (argsL := []) (rest := []) E_a1_337 (lenOf pd_6 rfl) rfl (nb rfl) (hb hby at_195) rfl rfl (by decide) (by decide) fun T351 v351 L351 X351 hQ351 => ?_
      obtain ⟨rfl, Nq351, e351⟩ := hQ351
      have N351 := Fr.app N327 Nq351
      refine Owe.dstore X351.here hx (hb hby at_198) rfl (l' := #[.val (.long q1), .second, .val (.long q2), .second, .val (.long q3), .second, .val (.int p4), .val (.long A), .second, .val (.long D), .second, .val (.long E), .second, .val (.ref x1_165), .val (.ref x1_168), .val (.double (FP.i2d (((p4.toUInt32 >>> ((16 : Int32) &&& 31).toUInt32).toInt32) &&& (1 : Int32)))), .second, .val (.int (0 : Int32)), .val (.ref b176), .val (.ref b199), .val (.ref b228), .val (.ref b263), .val (.ref b304), .val (.double (FP.ddiv (FP.l2d A) (FP.l2d (A + D)))), .second, .unset, .unset, .unset, .unset, .unset, .unset, .unset, .unset, .unset, .unset, .unset, .unset, .unset]) rfl ?_
      refine Owe.aload X351.here hx (hb hby at_200) rfl rfl ?_
      refine Owe.virt X351 hx hZ (y := Y6) (z := Y6) hown (mvT hZ (wd hw 52)) (mvT hZ (wd hw 53)) (mvT hZ (wd hw 55)) (mvT hZ (wd hw 54)) (notFace_of_selects (args := #[]) (mvT hZ (wd hw 55))) (by decide) (backOf (W := 0) (rmcmp l Z a0 hw [] b199 A (0 : Int64) T327.heap n0 Z_350 E_a1_340 Findex_a1_341 FinjectedDistance_a1_342 c0.1) hZ (wd hw 56) (wd hw 29) (by decide) (by decide)) (by rw [hml]; rfl) (a := b199) (argsL := []) (rest := []) E_a1_340 (lenOf pd_6 rfl) rfl (nb rfl) (hb hby at_202) rfl e351 (by decide) (by decide) fun T352 v352 L352 X352 hQ352 => ?_
      obtain ⟨rfl, Nq352, e352⟩ := hQ352
      have N352 := Fr.app N351 Nq352
      refine Owe.dstore X352.here hx (hb hby at_205) rfl (l' := #[.val (.long q1), .second, .val (.long q2), .second, .val (.long q3), .second, .val (.int p4), .val (.long A), .second, .val (.long D), .second, .val (.long E), .second, .val (.ref x1_165), .val (.ref x1_168), .val (.double (FP.i2d (((p4.toUInt32 >>> ((16 : Int32) &&& 31).toUInt32).toInt32) &&& (1 : Int32)))), .second, .val (.int (0 : Int32)), .val (.ref b176), .val (.ref b199), .val (.ref b228), .val (.ref b263), .val (.ref b304), .val (.double (FP.ddiv (FP.l2d A) (FP.l2d (A + D)))), .second, .val (.double (FP.ddiv (FP.l2d A) (FP.l2d (A + (0 : Int64))))), .second, .unset, .unset, .unset, .unset, .unset, .unset, .unset, .unset, .unset, .unset, .unset]) rfl ?_
      refine Owe.aload X352.here hx (hb hby at_207) rfl rfl ?_
      refine Owe.virt X352 hx hZ (y := Y6) (z := Y6) hown (mvT hZ (wd hw 52)) (mvT hZ (wd hw 53)) (mvT hZ (wd hw 55)) (mvT hZ (wd hw 54)) (notFace_of_selects (args := #[]) (mvT hZ (wd hw 55))) (by decide) (backOf (W := 0) (rmcmp l Z a0 hw [] b228 A A T327.heap n0 Z_350 E_a1_343 Findex_a1_344 FinjectedDistance_a1_345 ch.1) hZ (wd hw 56) (wd hw 29) (by decide) (by decide)) (by rw [hml]; rfl) (a := b228) (argsL := []) (rest := []) E_a1_343 (lenOf pd_6 rfl) rfl (nb rfl) (hb hby at_209) rfl e352 (by decide) (by decide) fun T353 v353 L353 X353 hQ353 => ?_
      obtain ⟨rfl, Nq353, e353⟩ := hQ353
      have N353 := Fr.app N352 Nq353
      refine Owe.dstore X353.here hx (hb hby at_212) rfl (l' := #[.val (.long q1), .second, .val (.long q2), .second, .val (.long q3), .second, .val (.int p4), .val (.long A), .second, .val (.long D), .second, .val (.long E), .second, .val (.ref x1_165), .val (.ref x1_168), .val (.double (FP.i2d (((p4.toUInt32 >>> ((16 : Int32) &&& 31).toUInt32).toInt32) &&& (1 : Int32)))), .second, .val (.int (0 : Int32)), .val (.ref b176), .val (.ref b199), .val (.ref b228), .val (.ref b263), .val (.ref b304), .val (.double (FP.ddiv (FP.l2d A) (FP.l2d (A + D)))), .second, .val (.double (FP.ddiv (FP.l2d A) (FP.l2d (A + (0 : Int64))))), .second, .val (.double (FP.ddiv (FP.l2d A) (FP.l2d (A + A)))), .second, .unset, .unset, .unset, .unset, .unset, .unset, .unset, .unset, .unset]) rfl ?_
      refine Owe.aload X353.here hx (hb hby at_214) rfl rfl ?_
      refine Owe.virt X353 hx hZ (y := Y6) (z := Y6) hown (mvT hZ (wd hw 52)) (mvT hZ (wd hw 53)) (mvT hZ (wd hw 55)) (mvT hZ (wd hw 54)) (notFace_of_selects (args := #[]) (mvT hZ (wd hw 55))) (by decide) (backOf (W := 0) (rmcmp l Z a0 hw [] b263 ((2 : Int64) * A) ((2 : Int64) * D) T327.heap n0 Z_350 E_a1_346 Findex_a1_347 FinjectedDistance_a1_348 c2.1) hZ (wd hw 56) (wd hw 29) (by decide) (by decide)) (by rw [hml]; rfl) (a := b263) (argsL := []) (rest := []) E_a1_346 (lenOf pd_6 rfl) rfl (nb rfl) (hb hby at_216) rfl e353 (by decide) (by decide) fun T354 v354 L354 X354 hQ354 => ?_
      obtain ⟨rfl, Nq354, e354⟩ := hQ354
      have N354 := Fr.app N353 Nq354
      refine Owe.dstore X354.here hx (hb hby at_219) rfl (l' := #[.val (.long q1), .second, .val (.long q2), .second, .val (.long q3), .second, .val (.int p4), .val (.long A), .second, .val (.long D), .second, .val (.long E), .second, .val (.ref x1_165), .val (.ref x1_168), .val (.double (FP.i2d (((p4.toUInt32 >>> ((16 : Int32) &&& 31).toUInt32).toInt32) &&& (1 : Int32)))), .second, .val (.int (0 : Int32)), .val (.ref b176), .val (.ref b199), .val (.ref b228), .val (.ref b263), .val (.ref b304), .val (.double (FP.ddiv (FP.l2d A) (FP.l2d (A + D)))), .second, .val (.double (FP.ddiv (FP.l2d A) (FP.l2d (A + (0 : Int64))))), .second, .val (.double (FP.ddiv (FP.l2d A) (FP.l2d (A + A)))), .second, .val (.double (FP.ddiv (FP.l2d ((2 : Int64) * A)) (FP.l2d (((2 : Int64) * A) + ((2 : Int64) * D))))), .second, .unset, .unset, .unset, .unset, .unset, .unset, .unset]) rfl ?_
      refine Owe.aload X354.here hx (hb hby at_221) rfl rfl ?_
      refine Owe.virt X354 hx hZ (y := Y6) (z := Y6) hown (mvT hZ (wd hw 52)) (mvT hZ (wd hw 53)) (mvT hZ (wd hw 55)) (mvT hZ (wd hw 54)) (notFace_of_selects (args := #[]) (mvT hZ (wd hw 55))) (by decide) (backOf (W := 0) (rmcmp l Z a0 hw [] b304 A (D + E) T327.heap n0 Z_350 E_a1_327 Findex_a1_327 FinjectedDistance_a1_327 cm.1) hZ (wd hw 56) (wd hw 29) (by decide) (by decide)) (by rw [hml]; rfl) (a := b304) (argsL := []) (rest := []) E_a1_327 (lenOf pd_6 rfl) rfl (nb rfl) (hb hby at_223) rfl e354 (by decide) (by decide) fun T355 v355 L355 X355 hQ355 => ?_
      obtain ⟨rfl, Nq355, e355⟩ := hQ355
      have N355 := Fr.app N354 Nq355
      refine Owe.dstore X355.here hx (hb hby at_226) rfl (l' := #[.val (.long q1), .second, .val (.long q2), .second, .val (.long q3), .second, .val (.int p4), .val (.long A), .second, .val (.long D), .second, .val (.long E), .second, .val (.ref x1_165), .val (.ref x1_168), .val (.double (FP.i2d (((p4.toUInt32 >>> ((16 : Int32) &&& 31).toUInt32).toInt32) &&& (1 : Int32)))), .second, .val (.int (0 : Int32)), .val (.ref b176), .val (.ref b199), .val (.ref b228), .val (.ref b263), .val (.ref b304), .val (.double (FP.ddiv (FP.l2d A) (FP.l2d (A + D)))), .second, .val (.double (FP.ddiv (FP.l2d A) (FP.l2d (A + (0 : Int64))))), .second, .val (.double (FP.ddiv (FP.l2d A) (FP.l2d (A + A)))), .second, .val (.double (FP.ddiv (FP.l2d ((2 : Int64) * A)) (FP.l2d (((2 : Int64) * A) + ((2 : Int64) * D))))), .second, .val (.double (FP.ddiv (FP.l2d A) (FP.l2d (A + (D + E))))), .second, .unset, .unset, .unset, .unset, .unset]) rfl ?_
      refine Owe.dload X355.here hx (hb hby at_228) rfl ?_
      refine Owe.dconst0 X355.here hx (hb hby at_230) (v := (0 : UInt64)) own_dconst0 ?_
      refine Owe.dcmpS X355.here hx (hb hby at_231) rfl rfl ?_
      refine Owe.ifNo X355.here hx (hb hby at_232) rfl ((if0 _ _).trans (tlt (own_p c1.2.1)).2.2.2) ?_
      refine Owe.dload X355.here hx (hb hby at_235) rfl ?_
      refine Owe.dconst1 X355.here hx (hb hby at_237) (v := (4607182418800017408 : UInt64)) own_dconst1 ?_
      refine Owe.dcmpS X355.here hx (hb hby at_238) rfl rfl ?_
      refine Owe.ifNo X355.here hx (hb hby at_239) rfl ((if0 _ _).trans (flt (own_z cx.2)).2.2.1) ?_
      refine Owe.dload X355.here hx (hb hby at_242) rfl ?_
      refine Owe.dconst1 X355.here hx (hb hby at_244) (v := (4607182418800017408 : UInt64)) own_dconst1 ?_
      refine Owe.dcmpS X355.here hx (hb hby at_245) rfl rfl ?_
      refine Owe.ifNo X355.here hx (hb hby at_246) rfl ((if0 _ _).trans (teq cx.1).2) ?_
      refine Owe.iconst X355.here hx (hb hby at_249) (w := (1 : Int32)) rfl ?_
      refine Owe.goto X355.here hx (hb hby at_250) (pc' := 254) (by decide) (by decide) ?_
      refine Owe.lload X355.here hx (hb hby at_254) rfl ?_
      refine Owe.lconst X355.here hx (hb hby at_256) (w := (0 : Int64)) rfl ?_
      refine Owe.lcmp X355.here hx (hb hby at_257) rfl ?_
      refine Owe.ifNo X355.here hx (hb hby at_258) rfl ((if0 _ _).trans (teq (own_lc.mpr hd)).2) ?_
      refine Owe.iconst X355.here hx (hb hby at_261) (w := (1 : Int32)) rfl ?_
      refine Owe.goto X355.here hx (hb hby at_262) (pc' := 266) (by decide) (by decide) ?_
      refine Owe.icmpNo X355.here hx (hb hby at_266) rfl (teq (by decide)).2 ?_
      refine Owe.iconst X355.here hx (hb hby at_269) (w := (1 : Int32)) rfl ?_
      refine Owe.goto X355.here hx (hb hby at_270) (pc' := 274) (by decide) (by decide) ?_
      refine Owe.istore X355.here hx (hb hby at_274) rfl (l' := #[.val (.long q1), .second, .val (.long q2), .second, .val (.long q3), .second, .val (.int p4), .val (.long A), .second, .val (.long D), .second, .val (.long E), .second, .val (.ref x1_165), .val (.ref x1_168), .val (.double (FP.i2d (((p4.toUInt32 >>> ((16 : Int32) &&& 31).toUInt32).toInt32) &&& (1 : Int32)))), .second, .val (.int (0 : Int32)), .val (.ref b176), .val (.ref b199), .val (.ref b228), .val (.ref b263), .val (.ref b304), .val (.double (FP.ddiv (FP.l2d A) (FP.l2d (A + D)))), .second, .val (.double (FP.ddiv (FP.l2d A) (FP.l2d (A + (0 : Int64))))), .second, .val (.double (FP.ddiv (FP.l2d A) (FP.l2d (A + A)))), .second, .val (.double (FP.ddiv (FP.l2d ((2 : Int64) * A)) (FP.l2d (((2 : Int64) * A) + ((2 : Int64) * D))))), .second, .val (.double (FP.ddiv (FP.l2d A) (FP.l2d (A + (D + E))))), .second, .val (.int (1 : Int32)), .unset, .unset, .unset, .unset]) rfl ?_
      refine Owe.dload X355.here hx (hb hby at_276) rfl ?_
      refine Owe.dconst1 X355.here hx (hb hby at_278) (v := (4607182418800017408 : UInt64)) own_dconst1 ?_
      refine Owe.dcmpS X355.here hx (hb hby at_279) rfl rfl ?_
      refine Owe.ifNo X355.here hx (hb hby at_280) rfl ((if0 _ _).trans (teq (c0.2.2.1 (by omega)).1).2) ?_
      refine Owe.iconst X355.here hx (hb hby at_283) (w := (1 : Int32)) rfl ?_
      refine Owe.goto X355.here hx (hb hby at_284) (pc' := 288) (by decide) (by decide) ?_
      refine Owe.istore X355.here hx (hb hby at_288) rfl (l' := #[.val (.long q1), .second, .val (.long q2), .second, .val (.long q3), .second, .val (.int p4), .val (.long A), .second, .val (.long D), .second, .val (.long E), .second, .val (.ref x1_165), .val (.ref x1_168), .val (.double (FP.i2d (((p4.toUInt32 >>> ((16 : Int32) &&& 31).toUInt32).toInt32) &&& (1 : Int32)))), .second, .val (.int (0 : Int32)), .val (.ref b176), .val (.ref b199), .val (.ref b228), .val (.ref b263), .val (.ref b304), .val (.double (FP.ddiv (FP.l2d A) (FP.l2d (A + D)))), .second, .val (.double (FP.ddiv (FP.l2d A) (FP.l2d (A + (0 : Int64))))), .second, .val (.double (FP.ddiv (FP.l2d A) (FP.l2d (A + A)))), .second, .val (.double (FP.ddiv (FP.l2d ((2 : Int64) * A)) (FP.l2d (((2 : Int64) * A) + ((2 : Int64) * D))))), .second, .val (.double (FP.ddiv (FP.l2d A) (FP.l2d (A + (D + E))))), .second, .val (.int (1 : Int32)), .val (.int (1 : Int32)), .unset, .unset, .unset]) rfl ?_
      refine Owe.dload X355.here hx (hb hby at_290) rfl ?_
      refine Owe.ldc2D X355 hx (v := (4602678819172646912 : UInt64)) hown (mvT hZ (wd hw 57)) (hb hby at_292) ?_
      refine Owe.dcmpS X355.here hx (hb hby at_295) rfl rfl ?_
      refine Owe.ifNo X355.here hx (hb hby at_296) rfl ((if0 _ _).trans (teq (ch.2.2.2.2 (by omega))).2) ?_
      refine Owe.iconst X355.here hx (hb hby at_299) (w := (1 : Int32)) rfl ?_
      refine Owe.goto X355.here hx (hb hby at_300) (pc' := 304) (by decide) (by decide) ?_
      refine Owe.istore X355.here hx (hb hby at_304) rfl (l' := #[.val (.long q1), .second, .val (.long q2), .second, .val (.long q3), .second, .val (.int p4), .val (.long A), .second, .val (.long D), .second, .val (.long E), .second, .val (.ref x1_165), .val (.ref x1_168), .val (.double (FP.i2d (((p4.toUInt32 >>> ((16 : Int32) &&& 31).toUInt32).toInt32) &&& (1 : Int32)))), .second, .val (.int (0 : Int32)), .val (.ref b176), .val (.ref b199), .val (.ref b228), .val (.ref b263), .val (.ref b304), .val (.double (FP.ddiv (FP.l2d A) (FP.l2d (A + D)))), .second, .val (.double (FP.ddiv (FP.l2d A) (FP.l2d (A + (0 : Int64))))), .second, .val (.double (FP.ddiv (FP.l2d A) (FP.l2d (A + A)))), .second, .val (.double (FP.ddiv (FP.l2d ((2 : Int64) * A)) (FP.l2d (((2 : Int64) * A) + ((2 : Int64) * D))))), .second, .val (.double (FP.ddiv (FP.l2d A) (FP.l2d (A + (D + E))))), .second, .val (.int (1 : Int32)), .val (.int (1 : Int32)), .val (.int (1 : Int32)), .unset, .unset]) rfl ?_
      refine Owe.dload X355.here hx (hb hby at_306) rfl ?_
      refine Owe.dload X355.here hx (hb hby at_308) rfl ?_
      refine Owe.dcmpS X355.here hx (hb hby at_310) rfl rfl ?_
      refine Owe.ifNo X355.here hx (hb hby at_311) rfl ((if0 _ _).trans (teq c2.2).2) ?_
      refine Owe.iconst X355.here hx (hb hby at_314) (w := (1 : Int32)) rfl ?_
      refine Owe.goto X355.here hx (hb hby at_315) (pc' := 319) (by decide) (by decide) ?_
      refine Owe.istore X355.here hx (hb hby at_319) rfl (l' := #[.val (.long q1), .second, .val (.long q2), .second, .val (.long q3), .second, .val (.int p4), .val (.long A), .second, .val (.long D), .second, .val (.long E), .second, .val (.ref x1_165), .val (.ref x1_168), .val (.double (FP.i2d (((p4.toUInt32 >>> ((16 : Int32) &&& 31).toUInt32).toInt32) &&& (1 : Int32)))), .second, .val (.int (0 : Int32)), .val (.ref b176), .val (.ref b199), .val (.ref b228), .val (.ref b263), .val (.ref b304), .val (.double (FP.ddiv (FP.l2d A) (FP.l2d (A + D)))), .second, .val (.double (FP.ddiv (FP.l2d A) (FP.l2d (A + (0 : Int64))))), .second, .val (.double (FP.ddiv (FP.l2d A) (FP.l2d (A + A)))), .second, .val (.double (FP.ddiv (FP.l2d ((2 : Int64) * A)) (FP.l2d (((2 : Int64) * A) + ((2 : Int64) * D))))), .second, .val (.double (FP.ddiv (FP.l2d A) (FP.l2d (A + (D + E))))), .second, .val (.int (1 : Int32)), .val (.int (1 : Int32)), .val (.int (1 : Int32)), .val (.int (1 : Int32)), .unset]) rfl ?_
      refine Owe.dload X355.here hx (hb hby at_321) rfl ?_
      refine Owe.dload X355.here hx (hb hby at_323) rfl ?_
      refine Owe.dcmpS X355.here hx (hb hby at_325) rfl rfl ?_
      refine Owe.ifNo X355.here hx (hb hby at_326) rfl ((if0 _ _).trans (flt cm.2.1).2.2.1) ?_
      refine Owe.dload X355.here hx (hb hby at_329) rfl ?_
      refine Owe.dconst0 X355.here hx (hb hby at_331) (v := (0 : UInt64)) own_dconst0 ?_
      refine Owe.dcmpS X355.here hx (hb hby at_332) rfl rfl ?_
      refine Owe.ifNo X355.here hx (hb hby at_333) rfl ((if0 _ _).trans (tlt (own_p cm.2.2)).2.2.2) ?_
      refine Owe.iconst X355.here hx (hb hby at_336) (w := (1 : Int32)) rfl ?_
      refine Owe.goto X355.here hx (hb hby at_337) (pc' := 341) (by decide) (by decide) ?_
      refine Owe.istore X355.here hx (hb hby at_341) rfl (l' := #[.val (.long q1), .second, .val (.long q2), .second, .val (.long q3), .second, .val (.int p4), .val (.long A), .second, .val (.long D), .second, .val (.long E), .second, .val (.ref x1_165), .val (.ref x1_168), .val (.double (FP.i2d (((p4.toUInt32 >>> ((16 : Int32) &&& 31).toUInt32).toInt32) &&& (1 : Int32)))), .second, .val (.int (0 : Int32)), .val (.ref b176), .val (.ref b199), .val (.ref b228), .val (.ref b263), .val (.ref b304), .val (.double (FP.ddiv (FP.l2d A) (FP.l2d (A + D)))), .second, .val (.double (FP.ddiv (FP.l2d A) (FP.l2d (A + (0 : Int64))))), .second, .val (.double (FP.ddiv (FP.l2d A) (FP.l2d (A + A)))), .second, .val (.double (FP.ddiv (FP.l2d ((2 : Int64) * A)) (FP.l2d (((2 : Int64) * A) + ((2 : Int64) * D))))), .second, .val (.double (FP.ddiv (FP.l2d A) (FP.l2d (A + (D + E))))), .second, .val (.int (1 : Int32)), .val (.int (1 : Int32)), .val (.int (1 : Int32)), .val (.int (1 : Int32)), .val (.int (1 : Int32))]) rfl ?_
      refine Owe.iload X355.here hx (hb hby at_343) rfl ?_
      refine Owe.ifNo X355.here hx (hb hby at_345) rfl ((if0 _ _).trans (feq (by decide)).1) ?_
      refine Owe.iload X355.here hx (hb hby at_348) rfl ?_
      refine Owe.ifNo X355.here hx (hb hby at_350) rfl ((if0 _ _).trans (feq (by decide)).1) ?_
      refine Owe.iload X355.here hx (hb hby at_353) rfl ?_
      refine Owe.ifNo X355.here hx (hb hby at_355) rfl ((if0 _ _).trans (feq (by decide)).1) ?_
      refine Owe.iload X355.here hx (hb hby at_358) rfl ?_
      refine Owe.ifNo X355.here hx (hb hby at_360) rfl ((if0 _ _).trans (feq (by decide)).1) ?_
      refine Owe.iload X355.here hx (hb hby at_363) rfl ?_
      refine Owe.ifNo X355.here hx (hb hby at_365) rfl ((if0 _ _).trans (feq (by decide)).1) ?_
      refine Owe.iconst X355.here hx (hb hby at_368) (w := (1 : Int32)) rfl ?_
      refine Owe.goto X355.here hx (hb hby at_369) (pc' := 373) (by decide) (by decide) ?_
      refine Owe.retN X355 hx hlk (t := .boolean) hrt (by simp) (hb hby at_373) rfl fun fs hE => ?_
      rw [hG]
      refine ⟨_, _, rfl, ?_, frameMono hE (by decide) (by decide)⟩
      show Q0 Z q1 q2 q3 p4 G1 h0 n0 _ T355.heap _
      rw [e355]
      exact ⟨rfl, N355⟩
    · have d0 : ¬ D.toInt = 0 := fun q => hd (Int64.toInt_inj.mp q)
      have cx := c1.2.2.2.1 (by omega)
      refine Owe.aload X327.here hx (hb hby at_193) rfl rfl ?_
      refine Owe.virt X327 hx hZ (y := Y6) (z := Y6) hown (mvT hZ (wd hw 52)) (mvT hZ (wd hw 53)) (mvT hZ (wd hw 55)) (mvT hZ (wd hw 54)) (notFace_of_selects (args := #[]) (mvT hZ (wd hw 55))) (by decide) (backOf (W := 0) (rmcmp l Z a0 hw [] b176 A D T327.heap n0 Z_350 E_a1_337 Findex_a1_338 FinjectedDistance_a1_339 c1.1) hZ (wd hw 56) (wd hw 29) (by decide) (by decide)) (by rw [hml]; rfl) (a := b176) (argsL := []) (rest := []) E_a1_337 (lenOf pd_6 rfl) rfl (nb rfl) (hb hby at_195) rfl rfl (by decide) (by decide) fun T356 v356 L356 X356 hQ356 => ?_
      obtain ⟨rfl, Nq356, e356⟩ := hQ356
      have N356 := Fr.app N327 Nq356
      refine Owe.dstore X356.here hx (hb hby at_198) rfl (l' := #[.val (.long q1), .second, .val (.long q2), .second, .val (.long q3), .second, .val (.int p4), .val (.long A), .second, .val (.long D), .second, .val (.long E), .second, .val (.ref x1_165), .val (.ref x1_168), .val (.double (FP.i2d (((p4.toUInt32 >>> ((16 : Int32) &&& 31).toUInt32).toInt32) &&& (1 : Int32)))), .second, .val (.int (0 : Int32)), .val (.ref b176), .val (.ref b199), .val (.ref b228), .val (.ref b263), .val (.ref b304), .val (.double (FP.ddiv (FP.l2d A) (FP.l2d (A + D)))), .second, .unset, .unset, .unset, .unset, .unset, .unset, .unset, .unset, .unset, .unset, .unset, .unset, .unset]) rfl ?_
      refine Owe.aload X356.here hx (hb hby at_200) rfl rfl ?_
      refine Owe.virt X356 hx hZ (y := Y6) (z := Y6) hown (mvT hZ (wd hw 52)) (mvT hZ (wd hw 53)) (mvT hZ (wd hw 55)) (mvT hZ (wd hw 54)) (notFace_of_selects (args := #[]) (mvT hZ (wd hw 55))) (by decide) (backOf (W := 0) (rmcmp l Z a0 hw [] b199 A (0 : Int64) T327.heap n0 Z_350 E_a1_340 Findex_a1_341 FinjectedDistance_a1_342 c0.1) hZ (wd hw 56) (wd hw 29) (by decide) (by decide)) (by rw [hml]; rfl) (a := b199) (argsL := []) (rest := []) E_a1_340 (lenOf pd_6 rfl) rfl (nb rfl) (hb hby at_202) rfl e356 (by decide) (by decide) fun T357 v357 L357 X357 hQ357 => ?_
      obtain ⟨rfl, Nq357, e357⟩ := hQ357
      have N357 := Fr.app N356 Nq357
      refine Owe.dstore X357.here hx (hb hby at_205) rfl (l' := #[.val (.long q1), .second, .val (.long q2), .second, .val (.long q3), .second, .val (.int p4), .val (.long A), .second, .val (.long D), .second, .val (.long E), .second, .val (.ref x1_165), .val (.ref x1_168), .val (.double (FP.i2d (((p4.toUInt32 >>> ((16 : Int32) &&& 31).toUInt32).toInt32) &&& (1 : Int32)))), .second, .val (.int (0 : Int32)), .val (.ref b176), .val (.ref b199), .val (.ref b228), .val (.ref b263), .val (.ref b304), .val (.double (FP.ddiv (FP.l2d A) (FP.l2d (A + D)))), .second, .val (.double (FP.ddiv (FP.l2d A) (FP.l2d (A + (0 : Int64))))), .second, .unset, .unset, .unset, .unset, .unset, .unset, .unset, .unset, .unset, .unset, .unset]) rfl ?_
      refine Owe.aload X357.here hx (hb hby at_207) rfl rfl ?_
      refine Owe.virt X357 hx hZ (y := Y6) (z := Y6) hown (mvT hZ (wd hw 52)) (mvT hZ (wd hw 53)) (mvT hZ (wd hw 55)) (mvT hZ (wd hw 54)) (notFace_of_selects (args := #[]) (mvT hZ (wd hw 55))) (by decide) (backOf (W := 0) (rmcmp l Z a0 hw [] b228 A A T327.heap n0 Z_350 E_a1_343 Findex_a1_344 FinjectedDistance_a1_345 ch.1) hZ (wd hw 56) (wd hw 29) (by decide) (by decide)) (by rw [hml]; rfl) (a := b228) (argsL := []) (rest := []) E_a1_343 (lenOf pd_6 rfl) rfl (nb rfl) (hb hby at_209) rfl e357 (by decide) (by decide) fun T358 v358 L358 X358 hQ358 => ?_
      obtain ⟨rfl, Nq358, e358⟩ := hQ358
      have N358 := Fr.app N357 Nq358
      refine Owe.dstore X358.here hx (hb hby at_212) rfl (l' := #[.val (.long q1), .second, .val (.long q2), .second, .val (.long q3), .second, .val (.int p4), .val (.long A), .second, .val (.long D), .second, .val (.long E), .second, .val (.ref x1_165), .val (.ref x1_168), .val (.double (FP.i2d (((p4.toUInt32 >>> ((16 : Int32) &&& 31).toUInt32).toInt32) &&& (1 : Int32)))), .second, .val (.int (0 : Int32)), .val (.ref b176), .val (.ref b199), .val (.ref b228), .val (.ref b263), .val (.ref b304), .val (.double (FP.ddiv (FP.l2d A) (FP.l2d (A + D)))), .second, .val (.double (FP.ddiv (FP.l2d A) (FP.l2d (A + (0 : Int64))))), .second, .val (.double (FP.ddiv (FP.l2d A) (FP.l2d (A + A)))), .second, .unset, .unset, .unset, .unset, .unset, .unset, .unset, .unset, .unset]) rfl ?_
      refine Owe.aload X358.here hx (hb hby at_214) rfl rfl ?_
      refine Owe.virt X358 hx hZ (y := Y6) (z := Y6) hown (mvT hZ (wd hw 52)) (mvT hZ (wd hw 53)) (mvT hZ (wd hw 55)) (mvT hZ (wd hw 54)) (notFace_of_selects (args := #[]) (mvT hZ (wd hw 55))) (by decide) (backOf (W := 0) (rmcmp l Z a0 hw [] b263 ((2 : Int64) * A) ((2 : Int64) * D) T327.heap n0 Z_350 E_a1_346 Findex_a1_347 FinjectedDistance_a1_348 c2.1) hZ (wd hw 56) (wd hw 29) (by decide) (by decide)) (by rw [hml]; rfl) (a := b263) (argsL := []) (rest := []) E_a1_346 (lenOf pd_6 rfl) rfl (nb rfl) (hb hby at_216) rfl e358 (by decide) (by decide) fun T359 v359 L359 X359 hQ359 => ?_
      obtain ⟨rfl, Nq359, e359⟩ := hQ359
      have N359 := Fr.app N358 Nq359
      refine Owe.dstore X359.here hx (hb hby at_219) rfl (l' := #[.val (.long q1), .second, .val (.long q2), .second, .val (.long q3), .second, .val (.int p4), .val (.long A), .second, .val (.long D), .second, .val (.long E), .second, .val (.ref x1_165), .val (.ref x1_168), .val (.double (FP.i2d (((p4.toUInt32 >>> ((16 : Int32) &&& 31).toUInt32).toInt32) &&& (1 : Int32)))), .second, .val (.int (0 : Int32)), .val (.ref b176), .val (.ref b199), .val (.ref b228), .val (.ref b263), .val (.ref b304), .val (.double (FP.ddiv (FP.l2d A) (FP.l2d (A + D)))), .second, .val (.double (FP.ddiv (FP.l2d A) (FP.l2d (A + (0 : Int64))))), .second, .val (.double (FP.ddiv (FP.l2d A) (FP.l2d (A + A)))), .second, .val (.double (FP.ddiv (FP.l2d ((2 : Int64) * A)) (FP.l2d (((2 : Int64) * A) + ((2 : Int64) * D))))), .second, .unset, .unset, .unset, .unset, .unset, .unset, .unset]) rfl ?_
      refine Owe.aload X359.here hx (hb hby at_221) rfl rfl ?_
      refine Owe.virt X359 hx hZ (y := Y6) (z := Y6) hown (mvT hZ (wd hw 52)) (mvT hZ (wd hw 53)) (mvT hZ (wd hw 55)) (mvT hZ (wd hw 54)) (notFace_of_selects (args := #[]) (mvT hZ (wd hw 55))) (by decide) (backOf (W := 0) (rmcmp l Z a0 hw [] b304 A (D + E) T327.heap n0 Z_350 E_a1_327 Findex_a1_327 FinjectedDistance_a1_327 cm.1) hZ (wd hw 56) (wd hw 29) (by decide) (by decide)) (by rw [hml]; rfl) (a := b304) (argsL := []) (rest := []) E_a1_327 (lenOf pd_6 rfl) rfl (nb rfl) (hb hby at_223) rfl e359 (by decide) (by decide) fun T360 v360 L360 X360 hQ360 => ?_
      obtain ⟨rfl, Nq360, e360⟩ := hQ360
      have N360 := Fr.app N359 Nq360
      refine Owe.dstore X360.here hx (hb hby at_226) rfl (l' := #[.val (.long q1), .second, .val (.long q2), .second, .val (.long q3), .second, .val (.int p4), .val (.long A), .second, .val (.long D), .second, .val (.long E), .second, .val (.ref x1_165), .val (.ref x1_168), .val (.double (FP.i2d (((p4.toUInt32 >>> ((16 : Int32) &&& 31).toUInt32).toInt32) &&& (1 : Int32)))), .second, .val (.int (0 : Int32)), .val (.ref b176), .val (.ref b199), .val (.ref b228), .val (.ref b263), .val (.ref b304), .val (.double (FP.ddiv (FP.l2d A) (FP.l2d (A + D)))), .second, .val (.double (FP.ddiv (FP.l2d A) (FP.l2d (A + (0 : Int64))))), .second, .val (.double (FP.ddiv (FP.l2d A) (FP.l2d (A + A)))), .second, .val (.double (FP.ddiv (FP.l2d ((2 : Int64) * A)) (FP.l2d (((2 : Int64) * A) + ((2 : Int64) * D))))), .second, .val (.double (FP.ddiv (FP.l2d A) (FP.l2d (A + (D + E))))), .second, .unset, .unset, .unset, .unset, .unset]) rfl ?_
      refine Owe.dload X360.here hx (hb hby at_228) rfl ?_
      refine Owe.dconst0 X360.here hx (hb hby at_230) (v := (0 : UInt64)) own_dconst0 ?_
      refine Owe.dcmpS X360.here hx (hb hby at_231) rfl rfl ?_
      refine Owe.ifNo X360.here hx (hb hby at_232) rfl ((if0 _ _).trans (tlt (own_p c1.2.1)).2.2.2) ?_
      refine Owe.dload X360.here hx (hb hby at_235) rfl ?_
      refine Owe.dconst1 X360.here hx (hb hby at_237) (v := (4607182418800017408 : UInt64)) own_dconst1 ?_
      refine Owe.dcmpS X360.here hx (hb hby at_238) rfl rfl ?_
      refine Owe.ifNo X360.here hx (hb hby at_239) rfl ((if0 _ _).trans (flt (own_m cx.2)).2.2.1) ?_
      refine Owe.dload X360.here hx (hb hby at_242) rfl ?_
      refine Owe.dconst1 X360.here hx (hb hby at_244) (v := (4607182418800017408 : UInt64)) own_dconst1 ?_
      refine Owe.dcmpS X360.here hx (hb hby at_245) rfl rfl ?_
      refine Owe.ifYes X360.here hx (hb hby at_246) rfl ((if0 _ _).trans (feq (own_m0 cx.1)).2) (pc' := 253) (by decide) (by decide) ?_
      refine Owe.iconst X360.here hx (hb hby at_253) (w := (0 : Int32)) rfl ?_
      refine Owe.lload X360.here hx (hb hby at_254) rfl ?_
      refine Owe.lconst X360.here hx (hb hby at_256) (w := (0 : Int64)) rfl ?_
      refine Owe.lcmp X360.here hx (hb hby at_257) rfl ?_
      refine Owe.ifYes X360.here hx (hb hby at_258) rfl ((if0 _ _).trans (feq (fun q => hd (own_lc.mp q))).2) (pc' := 265) (by decide) (by decide) ?_
      refine Owe.iconst X360.here hx (hb hby at_265) (w := (0 : Int32)) rfl ?_
      refine Owe.icmpNo X360.here hx (hb hby at_266) rfl (teq (by decide)).2 ?_
      refine Owe.iconst X360.here hx (hb hby at_269) (w := (1 : Int32)) rfl ?_
      refine Owe.goto X360.here hx (hb hby at_270) (pc' := 274) (by decide) (by decide) ?_
      refine Owe.istore X360.here hx (hb hby at_274) rfl (l' := #[.val (.long q1), .second, .val (.long q2), .second, .val (.long q3), .second, .val (.int p4), .val (.long A), .second, .val (.long D), .second, .val (.long E), .second, .val (.ref x1_165), .val (.ref x1_168), .val (.double (FP.i2d (((p4.toUInt32 >>> ((16 : Int32) &&& 31).toUInt32).toInt32) &&& (1 : Int32)))), .second, .val (.int (0 : Int32)), .val (.ref b176), .val (.ref b199), .val (.ref b228), .val (.ref b263), .val (.ref b304), .val (.double (FP.ddiv (FP.l2d A) (FP.l2d (A + D)))), .second, .val (.double (FP.ddiv (FP.l2d A) (FP.l2d (A + (0 : Int64))))), .second, .val (.double (FP.ddiv (FP.l2d A) (FP.l2d (A + A)))), .second, .val (.double (FP.ddiv (FP.l2d ((2 : Int64) * A)) (FP.l2d (((2 : Int64) * A) + ((2 : Int64) * D))))), .second, .val (.double (FP.ddiv (FP.l2d A) (FP.l2d (A + (D + E))))), .second, .val (.int (1 : Int32)), .unset, .unset, .unset, .unset]) rfl ?_
      refine Owe.dload X360.here hx (hb hby at_276) rfl ?_
      refine Owe.dconst1 X360.here hx (hb hby at_278) (v := (4607182418800017408 : UInt64)) own_dconst1 ?_
      refine Owe.dcmpS X360.here hx (hb hby at_279) rfl rfl ?_
      refine Owe.ifNo X360.here hx (hb hby at_280) rfl ((if0 _ _).trans (teq (c0.2.2.1 (by omega)).1).2) ?_
      refine Owe.iconst X360.here hx (hb hby at_283) (w := (1 : Int32)) rfl ?_
      refine Owe.goto X360.here hx (hb hby at_284) (pc' := 288) (by decide) (by decide) ?_
      refine Owe.istore X360.here hx (hb hby at_288) rfl (l' := #[.val (.long q1), .second, .val (.long q2), .second, .val (.long q3), .second, .val (.int p4), .val (.long A), .second, .val (.long D), .second, .val (.long E), .second, .val (.ref x1_165), .val (.ref x1_168), .val (.double (FP.i2d (((p4.toUInt32 >>> ((16 : Int32) &&& 31).toUInt32).toInt32) &&& (1 : Int32)))), .second, .val (.int (0 : Int32)), .val (.ref b176), .val (.ref b199), .val (.ref b228), .val (.ref b263), .val (.ref b304), .val (.double (FP.ddiv (FP.l2d A) (FP.l2d (A + D)))), .second, .val (.double (FP.ddiv (FP.l2d A) (FP.l2d (A + (0 : Int64))))), .second, .val (.double (FP.ddiv (FP.l2d A) (FP.l2d (A + A)))), .second, .val (.double (FP.ddiv (FP.l2d ((2 : Int64) * A)) (FP.l2d (((2 : Int64) * A) + ((2 : Int64) * D))))), .second, .val (.double (FP.ddiv (FP.l2d A) (FP.l2d (A + (D + E))))), .second, .val (.int (1 : Int32)), .val (.int (1 : Int32)), .unset, .unset, .unset]) rfl ?_
      refine Owe.dload X360.here hx (hb hby at_290) rfl ?_
      refine Owe.ldc2D X360 hx (v := (4602678819172646912 : UInt64)) hown (mvT hZ (wd hw 57)) (hb hby at_292) ?_
      refine Owe.dcmpS X360.here hx (hb hby at_295) rfl rfl ?_
      refine Owe.ifNo X360.here hx (hb hby at_296) rfl ((if0 _ _).trans (teq (ch.2.2.2.2 (by omega))).2) ?_
      refine Owe.iconst X360.here hx (hb hby at_299) (w := (1 : Int32)) rfl ?_
      refine Owe.goto X360.here hx (hb hby at_300) (pc' := 304) (by decide) (by decide) ?_
      refine Owe.istore X360.here hx (hb hby at_304) rfl (l' := #[.val (.long q1), .second, .val (.long q2), .second, .val (.long q3), .second, .val (.int p4), .val (.long A), .second, .val (.long D), .second, .val (.long E), .second, .val (.ref x1_165), .val (.ref x1_168), .val (.double (FP.i2d (((p4.toUInt32 >>> ((16 : Int32) &&& 31).toUInt32).toInt32) &&& (1 : Int32)))), .second, .val (.int (0 : Int32)), .val (.ref b176), .val (.ref b199), .val (.ref b228), .val (.ref b263), .val (.ref b304), .val (.double (FP.ddiv (FP.l2d A) (FP.l2d (A + D)))), .second, .val (.double (FP.ddiv (FP.l2d A) (FP.l2d (A + (0 : Int64))))), .second, .val (.double (FP.ddiv (FP.l2d A) (FP.l2d (A + A)))), .second, .val (.double (FP.ddiv (FP.l2d ((2 : Int64) * A)) (FP.l2d (((2 : Int64) * A) + ((2 : Int64) * D))))), .second, .val (.double (FP.ddiv (FP.l2d A) (FP.l2d (A + (D + E))))), .second, .val (.int (1 : Int32)), .val (.int (1 : Int32)), .val (.int (1 : Int32)), .unset, .unset]) rfl ?_
      refine Owe.dload X360.here hx (hb hby at_306) rfl ?_
      refine Owe.dload X360.here hx (hb hby at_308) rfl ?_
      refine Owe.dcmpS X360.here hx (hb hby at_310) rfl rfl ?_
      refine Owe.ifNo X360.here hx (hb hby at_311) rfl ((if0 _ _).trans (teq c2.2).2) ?_
      refine Owe.iconst X360.here hx (hb hby at_314) (w := (1 : Int32)) rfl ?_
      refine Owe.goto X360.here hx (hb hby at_315) (pc' := 319) (by decide) (by decide) ?_
      refine Owe.istore X360.here hx (hb hby at_319) rfl (l' := #[.val (.long q1), .second, .val (.long q2), .second, .val (.long q3), .second, .val (.int p4), .val (.long A), .second, .val (.long D), .second, .val (.long E), .second, .val (.ref x1_165), .val (.ref x1_168), .val (.double (FP.i2d (((p4.toUInt32 >>> ((16 : Int32) &&& 31).toUInt32).toInt32) &&& (1 : Int32)))), .second, .val (.int (0 : Int32)), .val (.ref b176), .val (.ref b199), .val (.ref b228), .val (.ref b263), .val (.ref b304), .val (.double (FP.ddiv (FP.l2d A) (FP.l2d (A + D)))), .second, .val (.double (FP.ddiv (FP.l2d A) (FP.l2d (A + (0 : Int64))))), .second, .val (.double (FP.ddiv (FP.l2d A) (FP.l2d (A + A)))), .second, .val (.double (FP.ddiv (FP.l2d ((2 : Int64) * A)) (FP.l2d (((2 : Int64) * A) + ((2 : Int64) * D))))), .second, .val (.double (FP.ddiv (FP.l2d A) (FP.l2d (A + (D + E))))), .second, .val (.int (1 : Int32)), .val (.int (1 : Int32)), .val (.int (1 : Int32)), .val (.int (1 : Int32)), .unset]) rfl ?_
      refine Owe.dload X360.here hx (hb hby at_321) rfl ?_
      refine Owe.dload X360.here hx (hb hby at_323) rfl ?_
      refine Owe.dcmpS X360.here hx (hb hby at_325) rfl rfl ?_
      refine Owe.ifNo X360.here hx (hb hby at_326) rfl ((if0 _ _).trans (flt cm.2.1).2.2.1) ?_
      refine Owe.dload X360.here hx (hb hby at_329) rfl ?_
      refine Owe.dconst0 X360.here hx (hb hby at_331) (v := (0 : UInt64)) own_dconst0 ?_
      refine Owe.dcmpS X360.here hx (hb hby at_332) rfl rfl ?_
      refine Owe.ifNo X360.here hx (hb hby at_333) rfl ((if0 _ _).trans (tlt (own_p cm.2.2)).2.2.2) ?_
      refine Owe.iconst X360.here hx (hb hby at_336) (w := (1 : Int32)) rfl ?_
      refine Owe.goto X360.here hx (hb hby at_337) (pc' := 341) (by decide) (by decide) ?_
      refine Owe.istore X360.here hx (hb hby at_341) rfl (l' := #[.val (.long q1), .second, .val (.long q2), .second, .val (.long q3), .second, .val (.int p4), .val (.long A), .second, .val (.long D), .second, .val (.long E), .second, .val (.ref x1_165), .val (.ref x1_168), .val (.double (FP.i2d (((p4.toUInt32 >>> ((16 : Int32) &&& 31).toUInt32).toInt32) &&& (1 : Int32)))), .second, .val (.int (0 : Int32)), .val (.ref b176), .val (.ref b199), .val (.ref b228), .val (.ref b263), .val (.ref b304), .val (.double (FP.ddiv (FP.l2d A) (FP.l2d (A + D)))), .second, .val (.double (FP.ddiv (FP.l2d A) (FP.l2d (A + (0 : Int64))))), .second, .val (.double (FP.ddiv (FP.l2d A) (FP.l2d (A + A)))), .second, .val (.double (FP.ddiv (FP.l2d ((2 : Int64) * A)) (FP.l2d (((2 : Int64) * A) + ((2 : Int64) * D))))), .second, .val (.double (FP.ddiv (FP.l2d A) (FP.l2d (A + (D + E))))), .second, .val (.int (1 : Int32)), .val (.int (1 : Int32)), .val (.int (1 : Int32)), .val (.int (1 : Int32)), .val (.int (1 : Int32))]) rfl ?_
      refine Owe.iload X360.here hx (hb hby at_343) rfl ?_
      refine Owe.ifNo X360.here hx (hb hby at_345) rfl ((if0 _ _).trans (feq (by decide)).1) ?_
      refine Owe.iload X360.here hx (hb hby at_348) rfl ?_
      refine Owe.ifNo X360.here hx (hb hby at_350) rfl ((if0 _ _).trans (feq (by decide)).1) ?_
      refine Owe.iload X360.here hx (hb hby at_353) rfl ?_
      refine Owe.ifNo X360.here hx (hb hby at_355) rfl ((if0 _ _).trans (feq (by decide)).1) ?_
      refine Owe.iload X360.here hx (hb hby at_358) rfl ?_
      refine Owe.ifNo X360.here hx (hb hby at_360) rfl ((if0 _ _).trans (feq (by decide)).1) ?_
      refine Owe.iload X360.here hx (hb hby at_363) rfl ?_
      refine Owe.ifNo X360.here hx (hb hby at_365) rfl ((if0 _ _).trans (feq (by decide)).1) ?_
      refine Owe.iconst X360.here hx (hb hby at_368) (w := (1 : Int32)) rfl ?_
      refine Owe.goto X360.here hx (hb hby at_369) (pc' := 373) (by decide) (by decide) ?_
      refine Owe.retN X360 hx hlk (t := .boolean) hrt (by simp) (hb hby at_373) rfl fun fs hE => ?_
      rw [hG]
      refine ⟨_, _, rfl, ?_, frameMono hE (by decide) (by decide)⟩
      show Q0 Z q1 q2 q3 p4 G1 h0 n0 _ T360.heap _
      rw [e360]
      exact ⟨rfl, N360⟩
  · skip
    refine Owe.ifNo X168.here hx (hb hby at_68) rfl ((if0 _ _).trans (feq hc68_175).1) ?_
    refine Owe.iconst X168.here hx (hb hby at_71) (w := (1 : Int32)) rfl ?_
    refine Owe.goto X168.here hx (hb hby at_72) (pc' := 76) (by decide) (by decide) ?_
    refine Owe.istore X168.here hx (hb hby at_76) rfl (l' := #[.val (.long q1), .second, .val (.long q2), .second, .val (.long q3), .second, .val (.int p4), .val (.long A), .second, .val (.long D), .second, .val (.long E), .second, .val (.ref x1_165), .val (.ref x1_168), .val (.double (FP.i2d (((p4.toUInt32 >>> ((16 : Int32) &&& 31).toUInt32).toInt32) &&& (1 : Int32)))), .second, .val (.int (1 : Int32)), .unset, .unset, .unset, .unset, .unset, .unset, .unset, .unset, .unset, .unset, .unset, .unset, .unset, .unset, .unset, .unset, .unset, .unset, .unset, .unset]) rfl ?_
    refine Owe.new X168 hx hZ hown (wd hw 27) (wd hw 28) (wd hw 29) rfl (hb hby at_78) (by decide) (by decide) fun T361 h361 b361 g361 X361 e361 E361 A361 D361 => ?_
    have ne_x1_165_b361 : x1_165 ≠ b361 := Nat.ne_of_lt (Nat.lt_of_lt_of_le E_x1_170.lt (Nat.le_of_eq g361.symm))
    have ne_t1_165_b361 : t1_165 ≠ b361 := Nat.ne_of_lt (Nat.lt_of_lt_of_le V_t1_173.lt (Nat.le_of_eq g361.symm))
    have ne_x1_168_b361 : x1_168 ≠ b361 := Nat.ne_of_lt (Nat.lt_of_lt_of_le E_x1_168.lt (Nat.le_of_eq g361.symm))
    have ne_t1_168_b361 : t1_168 ≠ b361 := Nat.ne_of_lt (Nat.lt_of_lt_of_le V_t1_168.lt (Nat.le_of_eq g361.symm))
    have ge_b361 := Nat.le_trans Z_174 (Nat.le_of_eq g361.symm)
    have Ol_362 := Ol_169.ext E361
    have E_x1_363 := E_x1_170.ext E361
    have Fvalue_x1_364 := Fvalue_x1_171.ext E361
    have Fcoder_x1_365 := Fcoder_x1_172.ext E361
    have V_t1_366 := V_t1_173.ext E361
    have E_x1_367 := E_x1_168.ext E361
    have Fvalue_x1_368 := Fvalue_x1_168.ext E361
    have Fcoder_x1_369 := Fcoder_x1_168.ext E361
    have V_t1_370 := V_t1_168.ext E361
    have Z_371 := Nat.le_trans Z_174 E361.1
    have FcaseId_b361 : Fld Z h361 b361 "com/example/casewarden/casewarden/conformance/hmm/HmmVerdict" "caseId" "Ljava/lang/String;" .null := D361 (Or.inr (wd hw 40)) (ty := (.object "java/lang/String")) (by decide)
    have Findex_b361 : Fld Z h361 b361 "com/example/casewarden/casewarden/conformance/hmm/HmmVerdict" "index" "J" (.long (0 : Int64)) := D361 (Or.inr (wd hw 42)) (ty := .long) (by decide)
    have Factivity_b361 : Fld Z h361 b361 "com/example/casewarden/casewarden/conformance/hmm/HmmVerdict" "activity" "Ljava/lang/String;" .null := D361 (Or.inr (wd hw 44)) (ty := (.object "java/lang/String")) (by decide)
    have Fconformance_b361 : Fld Z h361 b361 "com/example/casewarden/casewarden/conformance/hmm/HmmVerdict" "conformance" "D" (.double (0 : UInt64)) := D361 (Or.inr (wd hw 46)) (ty := .double) (by decide)
    have FinjectedDistance_b361 : Fld Z h361 b361 "com/example/casewarden/casewarden/conformance/hmm/HmmVerdict" "injectedDistance" "J" (.long (0 : Int64)) := D361 (Or.inr (wd hw 48)) (ty := .long) (by decide)
    have Fconformant_b361 : Fld Z h361 b361 "com/example/casewarden/casewarden/conformance/hmm/HmmVerdict" "conformant" "Z" (.int (0 : Int32)) := D361 (Or.inr (wd hw 50)) (ty := .boolean) (by decide)
    refine Owe.dup X361.here hx (hb hby at_81) rfl rfl ?_
    refine Owe.aload X361.here hx (hb hby at_82) rfl rfl ?_
    refine Owe.lload X361.here hx (hb hby at_84) rfl ?_
    refine Owe.aload X361.here hx (hb hby at_86) rfl rfl ?_
    refine Owe.dload X361.here hx (hb hby at_88) rfl ?_
    refine Owe.lload X361.here hx (hb hby at_90) rfl ?_
    refine Owe.iload X361.here hx (hb hby at_92) rfl ?_
    refine Owe.special X361 hx (y := Y5) rfl hown (mvT hZ (wd hw 30)) (mvT hZ (wd hw 31)) (mvT hZ (wd hw 32)) (by decide) (backOf (W := 1) (rmini1 l Z a0 hw [] b361 x1_165 A x1_168 (FP.i2d (((p4.toUInt32 >>> ((16 : Int32) &&& 31).toUInt32).toInt32) &&& (1 : Int32))) D h361 n0 Z_371 A361 FcaseId_b361 Findex_b361 Factivity_b361 Fconformance_b361 FinjectedDistance_b361 Fconformant_b361 ge_b361) hZ (wd hw 32) (wd hw 29) (by decide) (by decide)) (by rw [hml]; rfl) (a := b361) (argsL := [(.ref x1_165), (.long A), (.ref x1_168), (.double (FP.i2d (((p4.toUInt32 >>> ((16 : Int32) &&& 31).toUInt32).toInt32) &&& (1 : Int32)))), (.long D), (.int (1 : Int32))]) (rest := [(.ref b361)]) (lenOf pd_5 rfl) rfl (nb rfl) (hb hby at_94) rfl e361 (by decide) (by decide) fun T372 v372 L372 X372 hQ372 => ?_
    obtain ⟨rfl, Nq372, K372, E_a1_372, Findex_a1_372, FinjectedDistance_a1_372⟩ := hQ372
    have N372 := Fr.app N168 Nq372
    have Ol_373 := Ol_362.keep K372 (allS ge_b361 all0)
    have E_x1_374 := E_x1_363.keep K372
    have Fvalue_x1_375 := Fvalue_x1_364.keep K372 (ninS ne_x1_165_b361 nin0)
    have Fcoder_x1_376 := Fcoder_x1_365.keep K372 (ninS ne_x1_165_b361 nin0)
    have V_t1_377 := V_t1_366.keep K372 (ninS ne_t1_165_b361 nin0)
    have E_x1_378 := E_x1_367.keep K372
    have Fvalue_x1_379 := Fvalue_x1_368.keep K372 (ninS ne_x1_168_b361 nin0)
    have Fcoder_x1_380 := Fcoder_x1_369.keep K372 (ninS ne_x1_168_b361 nin0)
    have V_t1_381 := V_t1_370.keep K372 (ninS ne_t1_168_b361 nin0)
    have A361_382 := A361.keep K372
    have Z_383 := Nat.le_trans Z_371 K372.1
    refine Owe.astore X372.here hx (hb hby at_97) rfl rfl (l' := #[.val (.long q1), .second, .val (.long q2), .second, .val (.long q3), .second, .val (.int p4), .val (.long A), .second, .val (.long D), .second, .val (.long E), .second, .val (.ref x1_165), .val (.ref x1_168), .val (.double (FP.i2d (((p4.toUInt32 >>> ((16 : Int32) &&& 31).toUInt32).toInt32) &&& (1 : Int32)))), .second, .val (.int (1 : Int32)), .val (.ref b361), .unset, .unset, .unset, .unset, .unset, .unset, .unset, .unset, .unset, .unset, .unset, .unset, .unset, .unset, .unset, .unset, .unset, .unset, .unset]) rfl ?_
    refine Owe.new X372 hx hZ hown (wd hw 27) (wd hw 28) (wd hw 29) rfl (hb hby at_99) (by decide) (by decide) fun T384 h384 b384 g384 X384 e384 E384 A384 D384 => ?_
    have ne_x1_165_b384 : x1_165 ≠ b384 := Nat.ne_of_lt (Nat.lt_of_lt_of_le E_x1_374.lt (Nat.le_of_eq g384.symm))
    have ne_t1_165_b384 : t1_165 ≠ b384 := Nat.ne_of_lt (Nat.lt_of_lt_of_le V_t1_377.lt (Nat.le_of_eq g384.symm))
    have ne_x1_168_b384 : x1_168 ≠ b384 := Nat.ne_of_lt (Nat.lt_of_lt_of_le E_x1_378.lt (Nat.le_of_eq g384.symm))
    have ne_t1_168_b384 : t1_168 ≠ b384 := Nat.ne_of_lt (Nat.lt_of_lt_of_le V_t1_381.lt (Nat.le_of_eq g384.symm))
    have ne_b361_b384 : b361 ≠ b384 := Nat.ne_of_lt (Nat.lt_of_lt_of_le E_a1_372.lt (Nat.le_of_eq g384.symm))
    have ge_b384 := Nat.le_trans Z_383 (Nat.le_of_eq g384.symm)
    have Ol_385 := Ol_373.ext E384
    have E_x1_386 := E_x1_374.ext E384
    have Fvalue_x1_387 := Fvalue_x1_375.ext E384
    have Fcoder_x1_388 := Fcoder_x1_376.ext E384
    have V_t1_389 := V_t1_377.ext E384
    have E_x1_390 := E_x1_378.ext E384
    have Fvalue_x1_391 := Fvalue_x1_379.ext E384
    have Fcoder_x1_392 := Fcoder_x1_380.ext E384
    have V_t1_393 := V_t1_381.ext E384
    have E_a1_394 := E_a1_372.ext E384
    have Findex_a1_395 := Findex_a1_372.ext E384
    have FinjectedDistance_a1_396 := FinjectedDistance_a1_372.ext E384
    have Z_397 := Nat.le_trans Z_383 E384.1
    have FcaseId_b384 : Fld Z h384 b384 "com/example/casewarden/casewarden/conformance/hmm/HmmVerdict" "caseId" "Ljava/lang/String;" .null := D384 (Or.inr (wd hw 40)) (ty := (.object "java/lang/String")) (by decide)
    have Findex_b384 : Fld Z h384 b384 "com/example/casewarden/casewarden/conformance/hmm/HmmVerdict" "index" "J" (.long (0 : Int64)) := D384 (Or.inr (wd hw 42)) (ty := .long) (by decide)
    have Factivity_b384 : Fld Z h384 b384 "com/example/casewarden/casewarden/conformance/hmm/HmmVerdict" "activity" "Ljava/lang/String;" .null := D384 (Or.inr (wd hw 44)) (ty := (.object "java/lang/String")) (by decide)
    have Fconformance_b384 : Fld Z h384 b384 "com/example/casewarden/casewarden/conformance/hmm/HmmVerdict" "conformance" "D" (.double (0 : UInt64)) := D384 (Or.inr (wd hw 46)) (ty := .double) (by decide)
    have FinjectedDistance_b384 : Fld Z h384 b384 "com/example/casewarden/casewarden/conformance/hmm/HmmVerdict" "injectedDistance" "J" (.long (0 : Int64)) := D384 (Or.inr (wd hw 48)) (ty := .long) (by decide)
    have Fconformant_b384 : Fld Z h384 b384 "com/example/casewarden/casewarden/conformance/hmm/HmmVerdict" "conformant" "Z" (.int (0 : Int32)) := D384 (Or.inr (wd hw 50)) (ty := .boolean) (by decide)
    refine Owe.dup X384.here hx (hb hby at_102) rfl rfl ?_
    refine Owe.aload X384.here hx (hb hby at_103) rfl rfl ?_
    refine Owe.lload X384.here hx (hb hby at_105) rfl ?_
    refine Owe.aload X384.here hx (hb hby at_107) rfl rfl ?_
    refine Owe.dload X384.here hx (hb hby at_109) rfl ?_
    refine Owe.lconst X384.here hx (hb hby at_111) (w := (0 : Int64)) rfl ?_
    refine Owe.iload X384.here hx (hb hby at_112) rfl ?_
    refine Owe.special X384 hx (y := Y5) rfl hown (mvT hZ (wd hw 30)) (mvT hZ (wd hw 31)) (mvT hZ (wd hw 32)) (by decide) (backOf (W := 1) (rmini1 l Z a0 hw [] b384 x1_165 A x1_168 (FP.i2d (((p4.toUInt32 >>> ((16 : Int32) &&& 31).toUInt32).toInt32) &&& (1 : Int32))) (0 : Int64) h384 n0 Z_397 A384 FcaseId_b384 Findex_b384 Factivity_b384 Fconformance_b384 FinjectedDistance_b384 Fconformant_b384 ge_b384) hZ (wd hw 32) (wd hw 29) (by decide) (by decide)) (by rw [hml]; rfl) (a := b384) (argsL := [(.ref x1_165), (.long A), (.ref x1_168), (.double (FP.i2d (((p4.toUInt32 >>> ((16 : Int32) &&& 31).toUInt32).toInt32) &&& (1 : Int32)))), (.long (0 : Int64)), (.int (1 : Int32))]) (rest := [(.ref b384)]) (lenOf pd_5 rfl) rfl (nb rfl) (hb hby at_114) rfl e384 (by decide) (by decide) fun T398 v398 L398 X398 hQ398 => ?_
    obtain ⟨rfl, Nq398, K398, E_a1_398, Findex_a1_398, FinjectedDistance_a1_398⟩ := hQ398
    have N398 := Fr.app N372 Nq398
    have Ol_399 := Ol_385.keep K398 (allS ge_b384 all0)
    have E_x1_400 := E_x1_386.keep K398
    have Fvalue_x1_401 := Fvalue_x1_387.keep K398 (ninS ne_x1_165_b384 nin0)
    have Fcoder_x1_402 := Fcoder_x1_388.keep K398 (ninS ne_x1_165_b384 nin0)
    have V_t1_403 := V_t1_389.keep K398 (ninS ne_t1_165_b384 nin0)
    have E_x1_404 := E_x1_390.keep K398
    have Fvalue_x1_405 := Fvalue_x1_391.keep K398 (ninS ne_x1_168_b384 nin0)
    have Fcoder_x1_406 := Fcoder_x1_392.keep K398 (ninS ne_x1_168_b384 nin0)
    have V_t1_407 := V_t1_393.keep K398 (ninS ne_t1_168_b384 nin0)
    have E_a1_408 := E_a1_394.keep K398
    have Findex_a1_409 := Findex_a1_395.keep K398 (ninS ne_b361_b384 nin0)
    have FinjectedDistance_a1_410 := FinjectedDistance_a1_396.keep K398 (ninS ne_b361_b384 nin0)
    have A384_411 := A384.keep K398
    have Z_412 := Nat.le_trans Z_397 K398.1
    refine Owe.astore X398.here hx (hb hby at_117) rfl rfl (l' := #[.val (.long q1), .second, .val (.long q2), .second, .val (.long q3), .second, .val (.int p4), .val (.long A), .second, .val (.long D), .second, .val (.long E), .second, .val (.ref x1_165), .val (.ref x1_168), .val (.double (FP.i2d (((p4.toUInt32 >>> ((16 : Int32) &&& 31).toUInt32).toInt32) &&& (1 : Int32)))), .second, .val (.int (1 : Int32)), .val (.ref b361), .val (.ref b384), .unset, .unset, .unset, .unset, .unset, .unset, .unset, .unset, .unset, .unset, .unset, .unset, .unset, .unset, .unset, .unset, .unset, .unset]) rfl ?_
    refine Owe.new X398 hx hZ hown (wd hw 27) (wd hw 28) (wd hw 29) rfl (hb hby at_119) (by decide) (by decide) fun T413 h413 b413 g413 X413 e413 E413 A413 D413 => ?_
    have ne_x1_165_b413 : x1_165 ≠ b413 := Nat.ne_of_lt (Nat.lt_of_lt_of_le E_x1_400.lt (Nat.le_of_eq g413.symm))
    have ne_t1_165_b413 : t1_165 ≠ b413 := Nat.ne_of_lt (Nat.lt_of_lt_of_le V_t1_403.lt (Nat.le_of_eq g413.symm))
    have ne_x1_168_b413 : x1_168 ≠ b413 := Nat.ne_of_lt (Nat.lt_of_lt_of_le E_x1_404.lt (Nat.le_of_eq g413.symm))
    have ne_t1_168_b413 : t1_168 ≠ b413 := Nat.ne_of_lt (Nat.lt_of_lt_of_le V_t1_407.lt (Nat.le_of_eq g413.symm))
    have ne_b361_b413 : b361 ≠ b413 := Nat.ne_of_lt (Nat.lt_of_lt_of_le E_a1_408.lt (Nat.le_of_eq g413.symm))
    have ne_b384_b413 : b384 ≠ b413 := Nat.ne_of_lt (Nat.lt_of_lt_of_le E_a1_398.lt (Nat.le_of_eq g413.symm))
    have ge_b413 := Nat.le_trans Z_412 (Nat.le_of_eq g413.symm)
    have Ol_414 := Ol_399.ext E413
    have E_x1_415 := E_x1_400.ext E413
    have Fvalue_x1_416 := Fvalue_x1_401.ext E413
    have Fcoder_x1_417 := Fcoder_x1_402.ext E413
    have V_t1_418 := V_t1_403.ext E413
    have E_x1_419 := E_x1_404.ext E413
    have Fvalue_x1_420 := Fvalue_x1_405.ext E413
    have Fcoder_x1_421 := Fcoder_x1_406.ext E413
    have V_t1_422 := V_t1_407.ext E413
    have E_a1_423 := E_a1_408.ext E413
    have Findex_a1_424 := Findex_a1_409.ext E413
    have FinjectedDistance_a1_425 := FinjectedDistance_a1_410.ext E413
    have E_a1_426 := E_a1_398.ext E413
    have Findex_a1_427 := Findex_a1_398.ext E413
    have FinjectedDistance_a1_428 := FinjectedDistance_a1_398.ext E413
    have Z_429 := Nat.le_trans Z_412 E413.1
    have FcaseId_b413 : Fld Z h413 b413 "com/example/casewarden/casewarden/conformance/hmm/HmmVerdict" "caseId" "Ljava/lang/String;" .null := D413 (Or.inr (wd hw 40)) (ty := (.object "java/lang/String")) (by decide)
    have Findex_b413 : Fld Z h413 b413 "com/example/casewarden/casewarden/conformance/hmm/HmmVerdict" "index" "J" (.long (0 : Int64)) := D413 (Or.inr (wd hw 42)) (ty := .long) (by decide)
    have Factivity_b413 : Fld Z h413 b413 "com/example/casewarden/casewarden/conformance/hmm/HmmVerdict" "activity" "Ljava/lang/String;" .null := D413 (Or.inr (wd hw 44)) (ty := (.object "java/lang/String")) (by decide)
    have Fconformance_b413 : Fld Z h413 b413 "com/example/casewarden/casewarden/conformance/hmm/HmmVerdict" "conformance" "D" (.double (0 : UInt64)) := D413 (Or.inr (wd hw 46)) (ty := .double) (by decide)
    have FinjectedDistance_b413 : Fld Z h413 b413 "com/example/casewarden/casewarden/conformance/hmm/HmmVerdict" "injectedDistance" "J" (.long (0 : Int64)) := D413 (Or.inr (wd hw 48)) (ty := .long) (by decide)
    have Fconformant_b413 : Fld Z h413 b413 "com/example/casewarden/casewarden/conformance/hmm/HmmVerdict" "conformant" "Z" (.int (0 : Int32)) := D413 (Or.inr (wd hw 50)) (ty := .boolean) (by decide)
    refine Owe.dup X413.here hx (hb hby at_122) rfl rfl ?_
    refine Owe.aload X413.here hx (hb hby at_123) rfl rfl ?_
    refine Owe.lload X413.here hx (hb hby at_125) rfl ?_
    refine Owe.aload X413.here hx (hb hby at_127) rfl rfl ?_
    refine Owe.dload X413.here hx (hb hby at_129) rfl ?_
    refine Owe.lload X413.here hx (hb hby at_131) rfl ?_
    refine Owe.iload X413.here hx (hb hby at_133) rfl ?_
    refine Owe.special X413 hx (y := Y5) rfl hown (mvT hZ (wd hw 30)) (mvT hZ (wd hw 31)) (mvT hZ (wd hw 32)) (by decide) (backOf (W := 1) (rmini1 l Z a0 hw [] b413 x1_165 A x1_168 (FP.i2d (((p4.toUInt32 >>> ((16 : Int32) &&& 31).toUInt32).toInt32) &&& (1 : Int32))) A h413 n0 Z_429 A413 FcaseId_b413 Findex_b413 Factivity_b413 Fconformance_b413 FinjectedDistance_b413 Fconformant_b413 ge_b413) hZ (wd hw 32) (wd hw 29) (by decide) (by decide)) (by rw [hml]; rfl) (a := b413) (argsL := [(.ref x1_165), (.long A), (.ref x1_168), (.double (FP.i2d (((p4.toUInt32 >>> ((16 : Int32) &&& 31).toUInt32).toInt32) &&& (1 : Int32)))), (.long A), (.int (1 : Int32))]) (rest := [(.ref b413)]) (lenOf pd_5 rfl) rfl (nb rfl) (hb hby at_135) rfl e413 (by decide) (by decide) fun T430 v430 L430 X430 hQ430 => ?_
    obtain ⟨rfl, Nq430, K430, E_a1_430, Findex_a1_430, FinjectedDistance_a1_430⟩ := hQ430
    have N430 := Fr.app N398 Nq430
    have Ol_431 := Ol_414.keep K430 (allS ge_b413 all0)
    have E_x1_432 := E_x1_415.keep K430
    have Fvalue_x1_433 := Fvalue_x1_416.keep K430 (ninS ne_x1_165_b413 nin0)
    have Fcoder_x1_434 := Fcoder_x1_417.keep K430 (ninS ne_x1_165_b413 nin0)
    have V_t1_435 := V_t1_418.keep K430 (ninS ne_t1_165_b413 nin0)
    have E_x1_436 := E_x1_419.keep K430
    have Fvalue_x1_437 := Fvalue_x1_420.keep K430 (ninS ne_x1_168_b413 nin0)
    have Fcoder_x1_438 := Fcoder_x1_421.keep K430 (ninS ne_x1_168_b413 nin0)
    have V_t1_439 := V_t1_422.keep K430 (ninS ne_t1_168_b413 nin0)
    have E_a1_440 := E_a1_423.keep K430
    have Findex_a1_441 := Findex_a1_424.keep K430 (ninS ne_b361_b413 nin0)
    have FinjectedDistance_a1_442 := FinjectedDistance_a1_425.keep K430 (ninS ne_b361_b413 nin0)
    have E_a1_443 := E_a1_426.keep K430
    have Findex_a1_444 := Findex_a1_427.keep K430 (ninS ne_b384_b413 nin0)
    have FinjectedDistance_a1_445 := FinjectedDistance_a1_428.keep K430 (ninS ne_b384_b413 nin0)
    have A413_446 := A413.keep K430
    have Z_447 := Nat.le_trans Z_429 K430.1
    refine Owe.astore X430.here hx (hb hby at_138) rfl rfl (l' := #[.val (.long q1), .second, .val (.long q2), .second, .val (.long q3), .second, .val (.int p4), .val (.long A), .second, .val (.long D), .second, .val (.long E), .second, .val (.ref x1_165), .val (.ref x1_168), .val (.double (FP.i2d (((p4.toUInt32 >>> ((16 : Int32) &&& 31).toUInt32).toInt32) &&& (1 : Int32)))), .second, .val (.int (1 : Int32)), .val (.ref b361), .val (.ref b384), .val (.ref b413), .unset, .unset, .unset, .unset, .unset, .unset, .unset, .unset, .unset, .unset, .unset, .unset, .unset, .unset, .unset, .unset, .unset]) rfl ?_
    refine Owe.new X430 hx hZ hown (wd hw 27) (wd hw 28) (wd hw 29) rfl (hb hby at_140) (by decide) (by decide) fun T448 h448 b448 g448 X448 e448 E448 A448 D448 => ?_
    have ne_x1_165_b448 : x1_165 ≠ b448 := Nat.ne_of_lt (Nat.lt_of_lt_of_le E_x1_432.lt (Nat.le_of_eq g448.symm))
    have ne_t1_165_b448 : t1_165 ≠ b448 := Nat.ne_of_lt (Nat.lt_of_lt_of_le V_t1_435.lt (Nat.le_of_eq g448.symm))
    have ne_x1_168_b448 : x1_168 ≠ b448 := Nat.ne_of_lt (Nat.lt_of_lt_of_le E_x1_436.lt (Nat.le_of_eq g448.symm))
    have ne_t1_168_b448 : t1_168 ≠ b448 := Nat.ne_of_lt (Nat.lt_of_lt_of_le V_t1_439.lt (Nat.le_of_eq g448.symm))
    have ne_b361_b448 : b361 ≠ b448 := Nat.ne_of_lt (Nat.lt_of_lt_of_le E_a1_440.lt (Nat.le_of_eq g448.symm))
    have ne_b384_b448 : b384 ≠ b448 := Nat.ne_of_lt (Nat.lt_of_lt_of_le E_a1_443.lt (Nat.le_of_eq g448.symm))
    have ne_b413_b448 : b413 ≠ b448 := Nat.ne_of_lt (Nat.lt_of_lt_of_le E_a1_430.lt (Nat.le_of_eq g448.symm))
    have ge_b448 := Nat.le_trans Z_447 (Nat.le_of_eq g448.symm)
    have Ol_449 := Ol_431.ext E448
    have E_x1_450 := E_x1_432.ext E448
    have Fvalue_x1_451 := Fvalue_x1_433.ext E448
    have Fcoder_x1_452 := Fcoder_x1_434.ext E448
    have V_t1_453 := V_t1_435.ext E448
    have E_x1_454 := E_x1_436.ext E448
    have Fvalue_x1_455 := Fvalue_x1_437.ext E448
    have Fcoder_x1_456 := Fcoder_x1_438.ext E448
    have V_t1_457 := V_t1_439.ext E448
    have E_a1_458 := E_a1_440.ext E448
    have Findex_a1_459 := Findex_a1_441.ext E448
    have FinjectedDistance_a1_460 := FinjectedDistance_a1_442.ext E448
    have E_a1_461 := E_a1_443.ext E448
    have Findex_a1_462 := Findex_a1_444.ext E448
    have FinjectedDistance_a1_463 := FinjectedDistance_a1_445.ext E448
    have E_a1_464 := E_a1_430.ext E448
    have Findex_a1_465 := Findex_a1_430.ext E448
    have FinjectedDistance_a1_466 := FinjectedDistance_a1_430.ext E448
    have Z_467 := Nat.le_trans Z_447 E448.1
    have FcaseId_b448 : Fld Z h448 b448 "com/example/casewarden/casewarden/conformance/hmm/HmmVerdict" "caseId" "Ljava/lang/String;" .null := D448 (Or.inr (wd hw 40)) (ty := (.object "java/lang/String")) (by decide)
    have Findex_b448 : Fld Z h448 b448 "com/example/casewarden/casewarden/conformance/hmm/HmmVerdict" "index" "J" (.long (0 : Int64)) := D448 (Or.inr (wd hw 42)) (ty := .long) (by decide)
    have Factivity_b448 : Fld Z h448 b448 "com/example/casewarden/casewarden/conformance/hmm/HmmVerdict" "activity" "Ljava/lang/String;" .null := D448 (Or.inr (wd hw 44)) (ty := (.object "java/lang/String")) (by decide)
    have Fconformance_b448 : Fld Z h448 b448 "com/example/casewarden/casewarden/conformance/hmm/HmmVerdict" "conformance" "D" (.double (0 : UInt64)) := D448 (Or.inr (wd hw 46)) (ty := .double) (by decide)
    have FinjectedDistance_b448 : Fld Z h448 b448 "com/example/casewarden/casewarden/conformance/hmm/HmmVerdict" "injectedDistance" "J" (.long (0 : Int64)) := D448 (Or.inr (wd hw 48)) (ty := .long) (by decide)
    have Fconformant_b448 : Fld Z h448 b448 "com/example/casewarden/casewarden/conformance/hmm/HmmVerdict" "conformant" "Z" (.int (0 : Int32)) := D448 (Or.inr (wd hw 50)) (ty := .boolean) (by decide)
    refine Owe.dup X448.here hx (hb hby at_143) rfl rfl ?_
    refine Owe.aload X448.here hx (hb hby at_144) rfl rfl ?_
    refine Owe.ldc2L X448 hx (v := (2 : Int64)) hown (mvT hZ (wd hw 51)) (hb hby at_146) ?_
    refine Owe.lload X448.here hx (hb hby at_149) rfl ?_
    refine Owe.lmul X448.here hx (hb hby at_151) rfl ?_
    refine Owe.aload X448.here hx (hb hby at_152) rfl rfl ?_
    refine Owe.dload X448.here hx (hb hby at_154) rfl ?_
    refine Owe.ldc2L X448 hx (v := (2 : Int64)) hown (mvT hZ (wd hw 51)) (hb hby at_156) ?_
    refine Owe.lload X448.here hx (hb hby at_159) rfl ?_
    refine Owe.lmul X448.here hx (hb hby at_161) rfl ?_
    refine Owe.iload X448.here hx (hb hby at_162) rfl ?_
    refine Owe.special X448 hx (y := Y5) rfl hown (mvT hZ (wd hw 30)) (mvT hZ (wd hw 31)) (mvT hZ (wd hw 32)) (by decide) (backOf (W := 1) (rmini1 l Z a0 hw [] b448 x1_165 ((2 : Int64) * A) x1_168 (FP.i2d (((p4.toUInt32 >>> ((16 : Int32) &&& 31).toUInt32).toInt32) &&& (1 : Int32))) ((2 : Int64) * D) h448 n0 Z_467 A448 FcaseId_b448 Findex_b448 Factivity_b448 Fconformance_b448 FinjectedDistance_b448 Fconformant_b448 ge_b448) hZ (wd hw 32) (wd hw 29) (by decide) (by decide)) (by rw [hml]; rfl) (a := b448) (argsL := [(.ref x1_165), (.long ((2 : Int64) * A)), (.ref x1_168), (.double (FP.i2d (((p4.toUInt32 >>> ((16 : Int32) &&& 31).toUInt32).toInt32) &&& (1 : Int32)))), (.long ((2 : Int64) * D)), (.int (1 : Int32))]) (rest := [(.ref b448)]) (lenOf pd_5 rfl) rfl (nb rfl) (hb hby at_164) rfl e448 (by decide) (by decide) fun T468 v468 L468 X468 hQ468 => ?_
    obtain ⟨rfl, Nq468, K468, E_a1_468, Findex_a1_468, FinjectedDistance_a1_468⟩ := hQ468
    have N468 := Fr.app N430 Nq468
    have Ol_469 := Ol_449.keep K468 (allS ge_b448 all0)
    have E_x1_470 := E_x1_450.keep K468
    have Fvalue_x1_471 := Fvalue_x1_451.keep K468 (ninS ne_x1_165_b448 nin0)
    have Fcoder_x1_472 := Fcoder_x1_452.keep K468 (ninS ne_x1_165_b448 nin0)
    have V_t1_473 := V_t1_453.keep K468 (ninS ne_t1_165_b448 nin0)
    have E_x1_474 := E_x1_454.keep K468
    have Fvalue_x1_475 := Fvalue_x1_455.keep K468 (ninS ne_x1_168_b448 nin0)
    have Fcoder_x1_476 := Fcoder_x1_456.keep K468 (ninS ne_x1_168_b448 nin0)
    have V_t1_477 := V_t1_457.keep K468 (ninS ne_t1_168_b448 nin0)
    have E_a1_478 := E_a1_458.keep K468
    have Findex_a1_479 := Findex_a1_459.keep K468 (ninS ne_b361_b448 nin0)
    have FinjectedDistance_a1_480 := FinjectedDistance_a1_460.keep K468 (ninS ne_b361_b448 nin0)
    have E_a1_481 := E_a1_461.keep K468
    have Findex_a1_482 := Findex_a1_462.keep K468 (ninS ne_b384_b448 nin0)
    have FinjectedDistance_a1_483 := FinjectedDistance_a1_463.keep K468 (ninS ne_b384_b448 nin0)
    have E_a1_484 := E_a1_464.keep K468
    have Findex_a1_485 := Findex_a1_465.keep K468 (ninS ne_b413_b448 nin0)
    have FinjectedDistance_a1_486 := FinjectedDistance_a1_466.keep K468 (ninS ne_b413_b448 nin0)
    have A448_487 := A448.keep K468
    have Z_488 := Nat.le_trans Z_467 K468.1
    refine Owe.astore X468.here hx (hb hby at_167) rfl rfl (l' := #[.val (.long q1), .second, .val (.long q2), .second, .val (.long q3), .second, .val (.int p4), .val (.long A), .second, .val (.long D), .second, .val (.long E), .second, .val (.ref x1_165), .val (.ref x1_168), .val (.double (FP.i2d (((p4.toUInt32 >>> ((16 : Int32) &&& 31).toUInt32).toInt32) &&& (1 : Int32)))), .second, .val (.int (1 : Int32)), .val (.ref b361), .val (.ref b384), .val (.ref b413), .val (.ref b448), .unset, .unset, .unset, .unset, .unset, .unset, .unset, .unset, .unset, .unset, .unset, .unset, .unset, .unset, .unset, .unset]) rfl ?_
    refine Owe.new X468 hx hZ hown (wd hw 27) (wd hw 28) (wd hw 29) rfl (hb hby at_169) (by decide) (by decide) fun T489 h489 b489 g489 X489 e489 E489 A489 D489 => ?_
    have ne_x1_165_b489 : x1_165 ≠ b489 := Nat.ne_of_lt (Nat.lt_of_lt_of_le E_x1_470.lt (Nat.le_of_eq g489.symm))
    have ne_t1_165_b489 : t1_165 ≠ b489 := Nat.ne_of_lt (Nat.lt_of_lt_of_le V_t1_473.lt (Nat.le_of_eq g489.symm))
    have ne_x1_168_b489 : x1_168 ≠ b489 := Nat.ne_of_lt (Nat.lt_of_lt_of_le E_x1_474.lt (Nat.le_of_eq g489.symm))
    have ne_t1_168_b489 : t1_168 ≠ b489 := Nat.ne_of_lt (Nat.lt_of_lt_of_le V_t1_477.lt (Nat.le_of_eq g489.symm))
    have ne_b361_b489 : b361 ≠ b489 := Nat.ne_of_lt (Nat.lt_of_lt_of_le E_a1_478.lt (Nat.le_of_eq g489.symm))
    have ne_b384_b489 : b384 ≠ b489 := Nat.ne_of_lt (Nat.lt_of_lt_of_le E_a1_481.lt (Nat.le_of_eq g489.symm))
    have ne_b413_b489 : b413 ≠ b489 := Nat.ne_of_lt (Nat.lt_of_lt_of_le E_a1_484.lt (Nat.le_of_eq g489.symm))
    have ne_b448_b489 : b448 ≠ b489 := Nat.ne_of_lt (Nat.lt_of_lt_of_le E_a1_468.lt (Nat.le_of_eq g489.symm))
    have ge_b489 := Nat.le_trans Z_488 (Nat.le_of_eq g489.symm)
    have Ol_490 := Ol_469.ext E489
    have E_x1_491 := E_x1_470.ext E489
    have Fvalue_x1_492 := Fvalue_x1_471.ext E489
    have Fcoder_x1_493 := Fcoder_x1_472.ext E489
    have V_t1_494 := V_t1_473.ext E489
    have E_x1_495 := E_x1_474.ext E489
    have Fvalue_x1_496 := Fvalue_x1_475.ext E489
    have Fcoder_x1_497 := Fcoder_x1_476.ext E489
    have V_t1_498 := V_t1_477.ext E489
    have E_a1_499 := E_a1_478.ext E489
    have Findex_a1_500 := Findex_a1_479.ext E489
    have FinjectedDistance_a1_501 := FinjectedDistance_a1_480.ext E489
    have E_a1_502 := E_a1_481.ext E489
    have Findex_a1_503 := Findex_a1_482.ext E489
    have FinjectedDistance_a1_504 := FinjectedDistance_a1_483.ext E489
    have E_a1_505 := E_a1_484.ext E489
    have Findex_a1_506 := Findex_a1_485.ext E489
    have FinjectedDistance_a1_507 := FinjectedDistance_a1_486.ext E489
    have E_a1_508 := E_a1_468.ext E489
    have Findex_a1_509 := Findex_a1_468.ext E489
    have FinjectedDistance_a1_510 := FinjectedDistance_a1_468.ext E489
    have Z_511 := Nat.le_trans Z_488 E489.1
    have FcaseId_b489 : Fld Z h489 b489 "com/example/casewarden/casewarden/conformance/hmm/HmmVerdict" "caseId" "Ljava/lang/String;" .null := D489 (Or.inr (wd hw 40)) (ty := (.object "java/lang/String")) (by decide)
    have Findex_b489 : Fld Z h489 b489 "com/example/casewarden/casewarden/conformance/hmm/HmmVerdict" "index" "J" (.long (0 : Int64)) := D489 (Or.inr (wd hw 42)) (ty := .long) (by decide)
    have Factivity_b489 : Fld Z h489 b489 "com/example/casewarden/casewarden/conformance/hmm/HmmVerdict" "activity" "Ljava/lang/String;" .null := D489 (Or.inr (wd hw 44)) (ty := (.object "java/lang/String")) (by decide)
    have Fconformance_b489 : Fld Z h489 b489 "com/example/casewarden/casewarden/conformance/hmm/HmmVerdict" "conformance" "D" (.double (0 : UInt64)) := D489 (Or.inr (wd hw 46)) (ty := .double) (by decide)
    have FinjectedDistance_b489 : Fld Z h489 b489 "com/example/casewarden/casewarden/conformance/hmm/HmmVerdict" "injectedDistance" "J" (.long (0 : Int64)) := D489 (Or.inr (wd hw 48)) (ty := .long) (by decide)
    have Fconformant_b489 : Fld Z h489 b489 "com/example/casewarden/casewarden/conformance/hmm/HmmVerdict" "conformant" "Z" (.int (0 : Int32)) := D489 (Or.inr (wd hw 50)) (ty := .boolean) (by decide)
    refine Owe.dup X489.here hx (hb hby at_172) rfl rfl ?_
    refine Owe.aload X489.here hx (hb hby at_173) rfl rfl ?_
    refine Owe.lload X489.here hx (hb hby at_175) rfl ?_
    refine Owe.aload X489.here hx (hb hby at_177) rfl rfl ?_
    refine Owe.dload X489.here hx (hb hby at_179) rfl ?_
    refine Owe.lload X489.here hx (hb hby at_181) rfl ?_
    refine Owe.lload X489.here hx (hb hby at_183) rfl ?_
    refine Owe.ladd X489.here hx (hb hby at_185) rfl ?_
    refine Owe.iload X489.here hx (hb hby at_186) rfl ?_
    refine Owe.special X489 hx (y := Y5) rfl hown (mvT hZ (wd hw 30)) (mvT hZ (wd hw 31)) (mvT hZ (wd hw 32)) (by decide) (backOf (W := 1) (rmini1 l Z a0 hw [] b489 x1_165 A x1_168 (FP.i2d (((p4.toUInt32 >>> ((16 : Int32) &&& 31).toUInt32).toInt32) &&& (1 : Int32))) (D + E) h489 n0 Z_511 A489 FcaseId_b489 Findex_b489 Factivity_b489 Fconformance_b489 FinjectedDistance_b489 Fconformant_b489 ge_b489) hZ (wd hw 32) (wd hw 29) (by decide) (by decide)) (by rw [hml]; rfl) (a := b489) (argsL := [(.ref x1_165), (.long A), (.ref x1_168), (.double (FP.i2d (((p4.toUInt32 >>> ((16 : Int32) &&& 31).toUInt32).toInt32) &&& (1 : Int32)))), (.long (D + E)), (.int (1 : Int32))]) (rest := [(.ref b489)]) (lenOf pd_5 rfl) rfl (nb rfl) (hb hby at_188) rfl e489 (by decide) (by decide) fun T512 v512 L512 X512 hQ512 => ?_
    obtain ⟨rfl, Nq512, K512, E_a1_512, Findex_a1_512, FinjectedDistance_a1_512⟩ := hQ512
    have N512 := Fr.app N468 Nq512
    have Ol_513 := Ol_490.keep K512 (allS ge_b489 all0)
    have E_x1_514 := E_x1_491.keep K512
    have Fvalue_x1_515 := Fvalue_x1_492.keep K512 (ninS ne_x1_165_b489 nin0)
    have Fcoder_x1_516 := Fcoder_x1_493.keep K512 (ninS ne_x1_165_b489 nin0)
    have V_t1_517 := V_t1_494.keep K512 (ninS ne_t1_165_b489 nin0)
    have E_x1_518 := E_x1_495.keep K512
    have Fvalue_x1_519 := Fvalue_x1_496.keep K512 (ninS ne_x1_168_b489 nin0)
    have Fcoder_x1_520 := Fcoder_x1_497.keep K512 (ninS ne_x1_168_b489 nin0)
    have V_t1_521 := V_t1_498.keep K512 (ninS ne_t1_168_b489 nin0)
    have E_a1_522 := E_a1_499.keep K512
    have Findex_a1_523 := Findex_a1_500.keep K512 (ninS ne_b361_b489 nin0)
    have FinjectedDistance_a1_524 := FinjectedDistance_a1_501.keep K512 (ninS ne_b361_b489 nin0)
    have E_a1_525 := E_a1_502.keep K512
    have Findex_a1_526 := Findex_a1_503.keep K512 (ninS ne_b384_b489 nin0)
    have FinjectedDistance_a1_527 := FinjectedDistance_a1_504.keep K512 (ninS ne_b384_b489 nin0)
    have E_a1_528 := E_a1_505.keep K512
    have Findex_a1_529 := Findex_a1_506.keep K512 (ninS ne_b413_b489 nin0)
    have FinjectedDistance_a1_530 := FinjectedDistance_a1_507.keep K512 (ninS ne_b413_b489 nin0)
    have E_a1_531 := E_a1_508.keep K512
    have Findex_a1_532 := Findex_a1_509.keep K512 (ninS ne_b448_b489 nin0)
    have FinjectedDistance_a1_533 := FinjectedDistance_a1_510.keep K512 (ninS ne_b448_b489 nin0)
    have A489_534 := A489.keep K512
    have Z_535 := Nat.le_trans Z_511 K512.1
    refine Owe.astore X512.here hx (hb hby at_191) rfl rfl (l' := #[.val (.long q1), .second, .val (.long q2), .second, .val (.long q3), .second, .val (.int p4), .val (.long A), .second, .val (.long D), .second, .val (.long E), .second, .val (.ref x1_165), .val (.ref x1_168), .val (.double (FP.i2d (((p4.toUInt32 >>> ((16 : Int32) &&& 31).toUInt32).toInt32) &&& (1 : Int32)))), .second, .val (.int (1 : Int32)), .val (.ref b361), .val (.ref b384), .val (.ref b413), .val (.ref b448), .val (.ref b489), .unset, .unset, .unset, .unset, .unset, .unset, .unset, .unset, .unset, .unset, .unset, .unset, .unset, .unset, .unset]) rfl ?_
    obtain ⟨sn1, sn0, snh, sn2a, sn2, snm⟩ := own_sums hA hD hE
    have c1 := own_c (A := A) (N := A + D) hA.1 (by omega) (by omega)
    have c0 := own_c (A := A) (N := A + (0 : Int64)) hA.1 (by omega) (by omega)
    have ch := own_c (A := A) (N := A + A) hA.1 (by omega) (by omega)
    have c2 := own_c2 (A := A) (N := A + D) (A2 := (2 : Int64) * A) (N2 := ((2 : Int64) * A) + ((2 : Int64) * D)) hA.1 (by omega) (by omega) sn2a sn2
    have cm := own_cm (A := A) (N := A + D) (M := A + (D + E)) hA.1 (by omega) (by omega) (by omega) (by omega)
    by_cases hd : D = (0 : Int64)
    · have d0 : D.toInt = 0 := by rw [hd]; rfl
      have cx := c1.2.2.1 (by omega)
      refine Owe.aload X512.here hx (hb hby at_193) rfl rfl ?_
      refine Owe.virt X512 hx hZ (y := Y6) (z := Y6) hown (mvT hZ (wd hw 52)) (mvT hZ (wd hw 53)) (mvT hZ (wd hw 55)) (mvT hZ (wd hw 54)) (notFace_of_selects (args := #[]) (mvT hZ (wd hw 55))) (by decide) (backOf (W := 0) (rmcmp l Z a0 hw [] b361 A D T512.heap n0 Z_535 E_a1_522 Findex_a1_523 FinjectedDistance_a1_524 c1.1) hZ (wd hw 56) (wd hw 29) (by decide) (by decide)) (by rw [hml]; rfl) (a := b361) (argsL := []) (rest := []) E_a1_522 (lenOf pd_6 rfl) rfl (nb rfl) (hb hby at_195) rfl rfl (by decide) (by decide) fun T536 v536 L536 X536 hQ536 => ?_
      obtain ⟨rfl, Nq536, e536⟩ := hQ536
      have N536 := Fr.app N512 Nq536
      refine Owe.dstore X536.here hx (hb hby at_198) rfl (l' := #[.val (.long q1), .second, .val (.long q2), .second, .val (.long q3), .second, .val (.int p4), .val (.long A), .second, .val (.long D), .second, .val (.long E), .second, .val (.ref x1_165), .val (.ref x1_168), .val (.double (FP.i2d (((p4.toUInt32 >>> ((16 : Int32) &&& 31).toUInt32).toInt32) &&& (1 : Int32)))), .second, .val (.int (1 : Int32)), .val (.ref b361), .val (.ref b384), .val (.ref b413), .val (.ref b448), .val (.ref b489), .val (.double (FP.ddiv (FP.l2d A) (FP.l2d (A + D)))), .second, .unset, .unset, .unset, .unset, .unset, .unset, .unset, .unset, .unset, .unset, .unset, .unset, .unset]) rfl ?_
      refine Owe.aload X536.here hx (hb hby at_200) rfl rfl ?_
      refine Owe.virt X536 hx hZ (y := Y6) (z := Y6) hown (mvT hZ (wd hw 52)) (mvT hZ (wd hw 53)) (mvT hZ (wd hw 55)) (mvT hZ (wd hw 54)) (notFace_of_selects (args := #[]) (mvT hZ (wd hw 55))) (by decide) (backOf (W := 0) (rmcmp l Z a0 hw [] b384 A (0 : Int64) T512.heap n0 Z_535 E_a1_525 Findex_a1_526 FinjectedDistance_a1_527 c0.1) hZ (wd hw 56) (wd hw 29) (by decide) (by decide)) (by rw [hml]; rfl) (a := b384) (argsL := []) (rest := []) E_a1_525 (lenOf pd_6 rfl) rfl (nb rfl) (hb hby at_202) rfl e536 (by decide) (by decide) fun T537 v537 L537 X537 hQ537 => ?_
      obtain ⟨rfl, Nq537, e537⟩ := hQ537
      have N537 := Fr.app N536 Nq537
      refine Owe.dstore X537.here hx (hb hby at_205) rfl (l' := #[.val (.long q1), .second, .val (.long q2), .second, .val (.long q3), .second, .val (.int p4), .val (.long A), .second, .val (.long D), .second, .val (.long E), .second, .val (.ref x1_165), .val (.ref x1_168), .val (.double (FP.i2d (((p4.toUInt32 >>> ((16 : Int32) &&& 31).toUInt32).toInt32) &&& (1 : Int32)))), .second, .val (.int (1 : Int32)), .val (.ref b361), .val (.ref b384), .val (.ref b413), .val (.ref b448), .val (.ref b489), .val (.double (FP.ddiv (FP.l2d A) (FP.l2d (A + D)))), .second, .val (.double (FP.ddiv (FP.l2d A) (FP.l2d (A + (0 : Int64))))), .second, .unset, .unset, .unset, .unset, .unset, .unset, .unset, .unset, .unset, .unset, .unset]) rfl ?_
      refine Owe.aload X537.here hx (hb hby at_207) rfl rfl ?_
      refine Owe.virt X537 hx hZ (y := Y6) (z := Y6) hown (mvT hZ (wd hw 52)) (mvT hZ (wd hw 53)) (mvT hZ (wd hw 55)) (mvT hZ (wd hw 54)) (notFace_of_selects (args := #[]) (mvT hZ (wd hw 55))) (by decide) (backOf (W := 0) (rmcmp l Z a0 hw [] b413 A A T512.heap n0 Z_535 E_a1_528 Findex_a1_529 FinjectedDistance_a1_530 ch.1) hZ (wd hw 56) (wd hw 29) (by decide) (by decide)) (by rw [hml]; rfl) (a := b413) (argsL := []) (rest := []) E_a1_528 (lenOf pd_6 rfl) rfl (nb rfl) (hb hby at_209) rfl e537 (by decide) (by decide) fun T538 v538 L538 X538 hQ538 => ?_
      obtain ⟨rfl, Nq538, e538⟩ := hQ538
      have N538 := Fr.app N537 Nq538
      refine Owe.dstore X538.here hx (hb hby at_212) rfl (l' := #[.val (.long q1), .second, .val (.long q2), .second, .val (.long q3), .second, .val (.int p4), .val (.long A), .second, .val (.long D), .second, .val (.long E), .second, .val (.ref x1_165), .val (.ref x1_168), .val (.double (FP.i2d (((p4.toUInt32 >>> ((16 : Int32) &&& 31).toUInt32).toInt32) &&& (1 : Int32)))), .second, .val (.int (1 : Int32)), .val (.ref b361), .val (.ref b384), .val (.ref b413), .val (.ref b448), .val (.ref b489), .val (.double (FP.ddiv (FP.l2d A) (FP.l2d (A + D)))), .second, .val (.double (FP.ddiv (FP.l2d A) (FP.l2d (A + (0 : Int64))))), .second, .val (.double (FP.ddiv (FP.l2d A) (FP.l2d (A + A)))), .second, .unset, .unset, .unset, .unset, .unset, .unset, .unset, .unset, .unset]) rfl ?_
      refine Owe.aload X538.here hx (hb hby at_214) rfl rfl ?_
      refine Owe.virt X538 hx hZ (y := Y6) (z := Y6) hown (mvT hZ (wd hw 52)) (mvT hZ (wd hw 53)) (mvT hZ (wd hw 55)) (mvT hZ (wd hw 54)) (notFace_of_selects (args := #[]) (mvT hZ (wd hw 55))) (by decide) (backOf (W := 0) (rmcmp l Z a0 hw [] b448 ((2 : Int64) * A) ((2 : Int64) * D) T512.heap n0 Z_535 E_a1_531 Findex_a1_532 FinjectedDistance_a1_533 c2.1) hZ (wd hw 56) (wd hw 29) (by decide) (by decide)) (by rw [hml]; rfl) (a := b448) (argsL := []) (rest := []) E_a1_531 (lenOf pd_6 rfl) rfl (nb rfl) (hb hby at_216) rfl e538 (by decide) (by decide) fun T539 v539 L539 X539 hQ539 => ?_
      obtain ⟨rfl, Nq539, e539⟩ := hQ539
      have N539 := Fr.app N538 Nq539
      refine Owe.dstore X539.here hx (hb hby at_219) rfl (l' := #[.val (.long q1), .second, .val (.long q2), .second, .val (.long q3), .second, .val (.int p4), .val (.long A), .second, .val (.long D), .second, .val (.long E), .second, .val (.ref x1_165), .val (.ref x1_168), .val (.double (FP.i2d (((p4.toUInt32 >>> ((16 : Int32) &&& 31).toUInt32).toInt32) &&& (1 : Int32)))), .second, .val (.int (1 : Int32)), .val (.ref b361), .val (.ref b384), .val (.ref b413), .val (.ref b448), .val (.ref b489), .val (.double (FP.ddiv (FP.l2d A) (FP.l2d (A + D)))), .second, .val (.double (FP.ddiv (FP.l2d A) (FP.l2d (A + (0 : Int64))))), .second, .val (.double (FP.ddiv (FP.l2d A) (FP.l2d (A + A)))), .second, .val (.double (FP.ddiv (FP.l2d ((2 : Int64) * A)) (FP.l2d (((2 : Int64) * A) + ((2 : Int64) * D))))), .second, .unset, .unset, .unset, .unset, .unset, .unset, .unset]) rfl ?_
      refine Owe.aload X539.here hx (hb hby at_221) rfl rfl ?_
      refine Owe.virt X539 hx hZ (y := Y6) (z := Y6) hown (mvT hZ (wd hw 52)) (mvT hZ (wd hw 53)) (mvT hZ (wd hw 55)) (mvT hZ (wd hw 54)) (notFace_of_selects (args := #[]) (mvT hZ (wd hw 55))) (by decide) (backOf (W := 0) (rmcmp l Z a0 hw [] b489 A (D + E) T512.heap n0 Z_535 E_a1_512 Findex_a1_512 FinjectedDistance_a1_512 cm.1) hZ (wd hw 56) (wd hw 29) (by decide) (by decide)) (by rw [hml]; rfl) (a := b489) (argsL := []) (rest := []) E_a1_512 (lenOf pd_6 rfl) rfl (nb rfl) (hb hby at_223) rfl e539 (by decide) (by decide) fun T540 v540 L540 X540 hQ540 => ?_
      obtain ⟨rfl, Nq540, e540⟩ := hQ540
      have N540 := Fr.app N539 Nq540
      refine Owe.dstore X540.here hx (hb hby at_226) rfl (l' := #[.val (.long q1), .second, .val (.long q2), .second, .val (.long q3), .second, .val (.int p4), .val (.long A), .second, .val (.long D), .second, .val (.long E), .second, .val (.ref x1_165), .val (.ref x1_168), .val (.double (FP.i2d (((p4.toUInt32 >>> ((16 : Int32) &&& 31).toUInt32).toInt32) &&& (1 : Int32)))), .second, .val (.int (1 : Int32)), .val (.ref b361), .val (.ref b384), .val (.ref b413), .val (.ref b448), .val (.ref b489), .val (.double (FP.ddiv (FP.l2d A) (FP.l2d (A + D)))), .second, .val (.double (FP.ddiv (FP.l2d A) (FP.l2d (A + (0 : Int64))))), .second, .val (.double (FP.ddiv (FP.l2d A) (FP.l2d (A + A)))), .second, .val (.double (FP.ddiv (FP.l2d ((2 : Int64) * A)) (FP.l2d (((2 : Int64) * A) + ((2 : Int64) * D))))), .second, .val (.double (FP.ddiv (FP.l2d A) (FP.l2d (A + (D + E))))), .second, .unset, .unset, .unset, .unset, .unset]) rfl ?_
      refine Owe.dload X540.here hx (hb hby at_228) rfl ?_
      refine Owe.dconst0 X540.here hx (hb hby at_230) (v := (0 : UInt64)) own_dconst0 ?_
      refine Owe.dcmpS X540.here hx (hb hby at_231) rfl rfl ?_
      refine Owe.ifNo X540.here hx (hb hby at_232) rfl ((if0 _ _).trans (tlt (own_p c1.2.1)).2.2.2) ?_
      refine Owe.dload X540.here hx (hb hby at_235) rfl ?_
      refine Owe.dconst1 X540.here hx (hb hby at_237) (v := (4607182418800017408 : UInt64)) own_dconst1 ?_
      refine Owe.dcmpS X540.here hx (hb hby at_238) rfl rfl ?_
      refine Owe.ifNo X540.here hx (hb hby at_239) rfl ((if0 _ _).trans (flt (own_z cx.2)).2.2.1) ?_
      refine Owe.dload X540.here hx (hb hby at_242) rfl ?_
      refine Owe.dconst1 X540.here hx (hb hby at_244) (v := (4607182418800017408 : UInt64)) own_dconst1 ?_
      refine Owe.dcmpS X540.here hx (hb hby at_245) rfl rfl ?_
      refine Owe.ifNo X540.here hx (hb hby at_246) rfl ((if0 _ _).trans (teq cx.1).2) ?_
      refine Owe.iconst X540.here hx (hb hby at_249) (w := (1 : Int32)) rfl ?_
      refine Owe.goto X540.here hx (hb hby at_250) (pc' := 254) (by decide) (by decide) ?_
      refine Owe.lload X540.here hx (hb hby at_254) rfl ?_
      refine Owe.lconst X540.here hx (hb hby at_256) (w := (0 : Int64)) rfl ?_
      refine Owe.lcmp X540.here hx (hb hby at_257) rfl ?_
      refine Owe.ifNo X540.here hx (hb hby at_258) rfl ((if0 _ _).trans (teq (own_lc.mpr hd)).2) ?_
      refine Owe.iconst X540.here hx (hb hby at_261) (w := (1 : Int32)) rfl ?_
      refine Owe.goto X540.here hx (hb hby at_262) (pc' := 266) (by decide) (by decide) ?_
      refine Owe.icmpNo X540.here hx (hb hby at_266) rfl (teq (by decide)).2 ?_
      refine Owe.iconst X540.here hx (hb hby at_269) (w := (1 : Int32)) rfl ?_
      refine Owe.goto X540.here hx (hb hby at_270) (pc' := 274) (by decide) (by decide) ?_
      refine Owe.istore X540.here hx (hb hby at_274) rfl (l' := #[.val (.long q1), .second, .val (.long q2), .second, .val (.long q3), .second, .val (.int p4), .val (.long A), .second, .val (.long D), .second, .val (.long E), .second, .val (.ref x1_165), .val (.ref x1_168), .val (.double (FP.i2d (((p4.toUInt32 >>> ((16 : Int32) &&& 31).toUInt32).toInt32) &&& (1 : Int32)))), .second, .val (.int (1 : Int32)), .val (.ref b361), .val (.ref b384), .val (.ref b413), .val (.ref b448), .val (.ref b489), .val (.double (FP.ddiv (FP.l2d A) (FP.l2d (A + D)))), .second, .val (.double (FP.ddiv (FP.l2d A) (FP.l2d (A + (0 : Int64))))), .second, .val (.double (FP.ddiv (FP.l2d A) (FP.l2d (A + A)))), .second, .val (.double (FP.ddiv (FP.l2d ((2 : Int64) * A)) (FP.l2d (((2 : Int64) * A) + ((2 : Int64) * D))))), .second, .val (.double (FP.ddiv (FP.l2d A) (FP.l2d (A + (D + E))))), .second, .val (.int (1 : Int32)), .unset, .unset, .unset, .unset]) rfl ?_
      refine Owe.dload X540.here hx (hb hby at_276) rfl ?_
      refine Owe.dconst1 X540.here hx (hb hby at_278) (v := (4607182418800017408 : UInt64)) own_dconst1 ?_
      refine Owe.dcmpS X540.here hx (hb hby at_279) rfl rfl ?_
      refine Owe.ifNo X540.here hx (hb hby at_280) rfl ((if0 _ _).trans (teq (c0.2.2.1 (by omega)).1).2) ?_
      refine Owe.iconst X540.here hx (hb hby at_283) (w := (1 : Int32)) rfl ?_
      refine Owe.goto X540.here hx (hb hby at_284) (pc' := 288) (by decide) (by decide) ?_
      refine Owe.istore X540.here hx (hb hby at_288) rfl (l' := #[.val (.long q1), .second, .val (.long q2), .second, .val (.long q3), .second, .val (.int p4), .val (.long A), .second, .val (.long D), .second, .val (.long E), .second, .val (.ref x1_165), .val (.ref x1_168), .val (.double (FP.i2d (((p4.toUInt32 >>> ((16 : Int32) &&& 31).toUInt32).toInt32) &&& (1 : Int32)))), .second, .val (.int (1 : Int32)), .val (.ref b361), .val (.ref b384), .val (.ref b413), .val (.ref b448), .val (.ref b489), .val (.double (FP.ddiv (FP.l2d A) (FP.l2d (A + D)))), .second, .val (.double (FP.ddiv (FP.l2d A) (FP.l2d (A + (0 : Int64))))), .second, .val (.double (FP.ddiv (FP.l2d A) (FP.l2d (A + A)))), .second, .val (.double (FP.ddiv (FP.l2d ((2 : Int64) * A)) (FP.l2d (((2 : Int64) * A) + ((2 : Int64) * D))))), .second, .val (.double (FP.ddiv (FP.l2d A) (FP.l2d (A + (D + E))))), .second, .val (.int (1 : Int32)), .val (.int (1 : Int32)), .unset, .unset, .unset]) rfl ?_
      refine Owe.dload X540.here hx (hb hby at_290) rfl ?_
      refine Owe.ldc2D X540 hx (v := (4602678819172646912 : UInt64)) hown (mvT hZ (wd hw 57)) (hb hby at_292) ?_
      refine Owe.dcmpS X540.here hx (hb hby at_295) rfl rfl ?_
      refine Owe.ifNo X540.here hx (hb hby at_296) rfl ((if0 _ _).trans (teq (ch.2.2.2.2 (by omega))).2) ?_
      refine Owe.iconst X540.here hx (hb hby at_299) (w := (1 : Int32)) rfl ?_
      refine Owe.goto X540.here hx (hb hby at_300) (pc' := 304) (by decide) (by decide) ?_
      refine Owe.istore X540.here hx (hb hby at_304) rfl (l' := #[.val (.long q1), .second, .val (.long q2), .second, .val (.long q3), .second, .val (.int p4), .val (.long A), .second, .val (.long D), .second, .val (.long E), .second, .val (.ref x1_165), .val (.ref x1_168), .val (.double (FP.i2d (((p4.toUInt32 >>> ((16 : Int32) &&& 31).toUInt32).toInt32) &&& (1 : Int32)))), .second, .val (.int (1 : Int32)), .val (.ref b361), .val (.ref b384), .val (.ref b413), .val (.ref b448), .val (.ref b489), .val (.double (FP.ddiv (FP.l2d A) (FP.l2d (A + D)))), .second, .val (.double (FP.ddiv (FP.l2d A) (FP.l2d (A + (0 : Int64))))), .second, .val (.double (FP.ddiv (FP.l2d A) (FP.l2d (A + A)))), .second, .val (.double (FP.ddiv (FP.l2d ((2 : Int64) * A)) (FP.l2d (((2 : Int64) * A) + ((2 : Int64) * D))))), .second, .val (.double (FP.ddiv (FP.l2d A) (FP.l2d (A + (D + E))))), .second, .val (.int (1 : Int32)), .val (.int (1 : Int32)), .val (.int (1 : Int32)), .unset, .unset]) rfl ?_
      refine Owe.dload X540.here hx (hb hby at_306) rfl ?_
      refine Owe.dload X540.here hx (hb hby at_308) rfl ?_
      refine Owe.dcmpS X540.here hx (hb hby at_310) rfl rfl ?_
      refine Owe.ifNo X540.here hx (hb hby at_311) rfl ((if0 _ _).trans (teq c2.2).2) ?_
      refine Owe.iconst X540.here hx (hb hby at_314) (w := (1 : Int32)) rfl ?_
      refine Owe.goto X540.here hx (hb hby at_315) (pc' := 319) (by decide) (by decide) ?_
      refine Owe.istore X540.here hx (hb hby at_319) rfl (l' := #[.val (.long q1), .second, .val (.long q2), .second, .val (.long q3), .second, .val (.int p4), .val (.long A), .second, .val (.long D), .second, .val (.long E), .second, .val (.ref x1_165), .val (.ref x1_168), .val (.double (FP.i2d (((p4.toUInt32 >>> ((16 : Int32) &&& 31).toUInt32).toInt32) &&& (1 : Int32)))), .second, .val (.int (1 : Int32)), .val (.ref b361), .val (.ref b384), .val (.ref b413), .val (.ref b448), .val (.ref b489), .val (.double (FP.ddiv (FP.l2d A) (FP.l2d (A + D)))), .second, .val (.double (FP.ddiv (FP.l2d A) (FP.l2d (A + (0 : Int64))))), .second, .val (.double (FP.ddiv (FP.l2d A) (FP.l2d (A + A)))), .second, .val (.double (FP.ddiv (FP.l2d ((2 : Int64) * A)) (FP.l2d (((2 : Int64) * A) + ((2 : Int64) * D))))), .second, .val (.double (FP.ddiv (FP.l2d A) (FP.l2d (A + (D + E))))), .second, .val (.int (1 : Int32)), .val (.int (1 : Int32)), .val (.int (1 : Int32)), .val (.int (1 : Int32)), .unset]) rfl ?_
      refine Owe.dload X540.here hx (hb hby at_321) rfl ?_
      refine Owe.dload X540.here hx (hb hby at_323) rfl ?_
      refine Owe.dcmpS X540.here hx (hb hby at_325) rfl rfl ?_
      refine Owe.ifNo X540.here hx (hb hby at_326) rfl ((if0 _ _).trans (flt cm.2.1).2.2.1) ?_
      refine Owe.dload X540.here hx (hb hby at_329) rfl ?_
      refine Owe.dconst0 X540.here hx (hb hby at_331) (v := (0 : UInt64)) own_dconst0 ?_
      refine Owe.dcmpS X540.here hx (hb hby at_332) rfl rfl ?_
      refine Owe.ifNo X540.here hx (hb hby at_333) rfl ((if0 _ _).trans (tlt (own_p cm.2.2)).2.2.2) ?_
      refine Owe.iconst X540.here hx (hb hby at_336) (w := (1 : Int32)) rfl ?_
      refine Owe.goto X540.here hx (hb hby at_337) (pc' := 341) (by decide) (by decide) ?_
      refine Owe.istore X540.here hx (hb hby at_341) rfl (l' := #[.val (.long q1), .second, .val (.long q2), .second, .val (.long q3), .second, .val (.int p4), .val (.long A), .second, .val (.long D), .second, .val (.long E), .second, .val (.ref x1_165), .val (.ref x1_168), .val (.double (FP.i2d (((p4.toUInt32 >>> ((16 : Int32) &&& 31).toUInt32).toInt32) &&& (1 : Int32)))), .second, .val (.int (1 : Int32)), .val (.ref b361), .val (.ref b384), .val (.ref b413), .val (.ref b448), .val (.ref b489), .val (.double (FP.ddiv (FP.l2d A) (FP.l2d (A + D)))), .second, .val (.double (FP.ddiv (FP.l2d A) (FP.l2d (A + (0 : Int64))))), .second, .val (.double (FP.ddiv (FP.l2d A) (FP.l2d (A + A)))), .second, .val (.double (FP.ddiv (FP.l2d ((2 : Int64) * A)) (FP.l2d (((2 : Int64) * A) + ((2 : Int64) * D))))), .second, .val (.double (FP.ddiv (FP.l2d A) (FP.l2d (A + (D + E))))), .second, .val (.int (1 : Int32)), .val (.int (1 : Int32)), .val (.int (1 : Int32)), .val (.int (1 : Int32)), .val (.int (1 : Int32))]) rfl ?_
      refine Owe.iload X540.here hx (hb hby at_343) rfl ?_
      refine Owe.ifNo X540.here hx (hb hby at_345) rfl ((if0 _ _).trans (feq (by decide)).1) ?_
      refine Owe.iload X540.here hx (hb hby at_348) rfl ?_
      refine Owe.ifNo X540.here hx (hb hby at_350) rfl ((if0 _ _).trans (feq (by decide)).1) ?_
      refine Owe.iload X540.here hx (hb hby at_353) rfl ?_
      refine Owe.ifNo X540.here hx (hb hby at_355) rfl ((if0 _ _).trans (feq (by decide)).1) ?_
      refine Owe.iload X540.here hx (hb hby at_358) rfl ?_
      refine Owe.ifNo X540.here hx (hb hby at_360) rfl ((if0 _ _).trans (feq (by decide)).1) ?_
      refine Owe.iload X540.here hx (hb hby at_363) rfl ?_
      refine Owe.ifNo X540.here hx (hb hby at_365) rfl ((if0 _ _).trans (feq (by decide)).1) ?_
      refine Owe.iconst X540.here hx (hb hby at_368) (w := (1 : Int32)) rfl ?_
      refine Owe.goto X540.here hx (hb hby at_369) (pc' := 373) (by decide) (by decide) ?_
      refine Owe.retN X540 hx hlk (t := .boolean) hrt (by simp) (hb hby at_373) rfl fun fs hE => ?_
      rw [hG]
      refine ⟨_, _, rfl, ?_, frameMono hE (by decide) (by decide)⟩
      show Q0 Z q1 q2 q3 p4 G1 h0 n0 _ T540.heap _
      rw [e540]
      exact ⟨rfl, N540⟩
    · have d0 : ¬ D.toInt = 0 := fun q => hd (Int64.toInt_inj.mp q)
      have cx := c1.2.2.2.1 (by omega)
      refine Owe.aload X512.here hx (hb hby at_193) rfl rfl ?_
      refine Owe.virt X512 hx hZ (y := Y6) (z := Y6) hown (mvT hZ (wd hw 52)) (mvT hZ (wd hw 53)) (mvT hZ (wd hw 55)) (mvT hZ (wd hw 54)) (notFace_of_selects (args := #[]) (mvT hZ (wd hw 55))) (by decide) (backOf (W := 0) (rmcmp l Z a0 hw [] b361 A D T512.heap n0 Z_535 E_a1_522 Findex_a1_523 FinjectedDistance_a1_524 c1.1) hZ (wd hw 56) (wd hw 29) (by decide) (by decide)) (by rw [hml]; rfl) (a := b361) (argsL := []) (rest := []) E_a1_522 (lenOf pd_6 rfl) rfl (nb rfl) (hb hby at_195) rfl rfl (by decide) (by decide) fun T541 v541 L541 X541 hQ541 => ?_
      obtain ⟨rfl, Nq541, e541⟩ := hQ541
      have N541 := Fr.app N512 Nq541
      refine Owe.dstore X541.here hx (hb hby at_198) rfl (l' := #[.val (.long q1), .second, .val (.long q2), .second, .val (.long q3), .second, .val (.int p4), .val (.long A), .second, .val (.long D), .second, .val (.long E), .second, .val (.ref x1_165), .val (.ref x1_168), .val (.double (FP.i2d (((p4.toUInt32 >>> ((16 : Int32) &&& 31).toUInt32).toInt32) &&& (1 : Int32)))), .second, .val (.int (1 : Int32)), .val (.ref b361), .val (.ref b384), .val (.ref b413), .val (.ref b448), .val (.ref b489), .val (.double (FP.ddiv (FP.l2d A) (FP.l2d (A + D)))), .second, .unset, .unset, .unset, .unset, .unset, .unset, .unset, .unset, .unset, .unset, .unset, .unset, .unset]) rfl ?_
      refine Owe.aload X541.here hx (hb hby at_200) rfl rfl ?_
      refine Owe.virt X541 hx hZ (y := Y6) (z := Y6) hown (mvT hZ (wd hw 52)) (mvT hZ (wd hw 53)) (mvT hZ (wd hw 55)) (mvT hZ (wd hw 54)) (notFace_of_selects (args := #[]) (mvT hZ (wd hw 55))) (by decide) (backOf (W := 0) (rmcmp l Z a0 hw [] b384 A (0 : Int64) T512.heap n0 Z_535 E_a1_525 Findex_a1_526 FinjectedDistance_a1_527 c0.1) hZ (wd hw 56) (wd hw 29) (by decide) (by decide)) (by rw [hml]; rfl) (a := b384) (argsL := []) (rest := []) E_a1_525 (lenOf pd_6 rfl) rfl (nb rfl) (hb hby at_202) rfl e541 (by decide) (by decide) fun T542 v542 L542 X542 hQ542 => ?_
      obtain ⟨rfl, Nq542, e542⟩ := hQ542
      have N542 := Fr.app N541 Nq542
      refine Owe.dstore X542.here hx (hb hby at_205) rfl (l' := #[.val (.long q1), .second, .val (.long q2), .second, .val (.long q3), .second, .val (.int p4), .val (.long A), .second, .val (.long D), .second, .val (.long E), .second, .val (.ref x1_165), .val (.ref x1_168), .val (.double (FP.i2d (((p4.toUInt32 >>> ((16 : Int32) &&& 31).toUInt32).toInt32) &&& (1 : Int32)))), .second, .val (.int (1 : Int32)), .val (.ref b361), .val (.ref b384), .val (.ref b413), .val (.ref b448), .val (.ref b489), .val (.double (FP.ddiv (FP.l2d A) (FP.l2d (A + D)))), .second, .val (.double (FP.ddiv (FP.l2d A) (FP.l2d (A + (0 : Int64))))), .second, .unset, .unset, .unset, .unset, .unset, .unset, .unset, .unset, .unset, .unset, .unset]) rfl ?_
      refine Owe.aload X542.here hx (hb hby at_207) rfl rfl ?_
      refine Owe.virt X542 hx hZ (y := Y6) (z := Y6) hown (mvT hZ (wd hw 52)) (mvT hZ (wd hw 53)) (mvT hZ (wd hw 55)) (mvT hZ (wd hw 54)) (notFace_of_selects (args := #[]) (mvT hZ (wd hw 55))) (by decide) (backOf (W := 0) (rmcmp l Z a0 hw [] b413 A A T512.heap n0 Z_535 E_a1_528 Findex_a1_529 FinjectedDistance_a1_530 ch.1) hZ (wd hw 56) (wd hw 29) (by decide) (by decide)) (by rw [hml]; rfl) (a := b413) (argsL := []) (rest := []) E_a1_528 (lenOf pd_6 rfl) rfl (nb rfl) (hb hby at_209) rfl e542 (by decide) (by decide) fun T543 v543 L543 X543 hQ543 => ?_
      obtain ⟨rfl, Nq543, e543⟩ := hQ543
      have N543 := Fr.app N542 Nq543
      refine Owe.dstore X543.here hx (hb hby at_212) rfl (l' := #[.val (.long q1), .second, .val (.long q2), .second, .val (.long q3), .second, .val (.int p4), .val (.long A), .second, .val (.long D), .second, .val (.long E), .second, .val (.ref x1_165), .val (.ref x1_168), .val (.double (FP.i2d (((p4.toUInt32 >>> ((16 : Int32) &&& 31).toUInt32).toInt32) &&& (1 : Int32)))), .second, .val (.int (1 : Int32)), .val (.ref b361), .val (.ref b384), .val (.ref b413), .val (.ref b448), .val (.ref b489), .val (.double (FP.ddiv (FP.l2d A) (FP.l2d (A + D)))), .second, .val (.double (FP.ddiv (FP.l2d A) (FP.l2d (A + (0 : Int64))))), .second, .val (.double (FP.ddiv (FP.l2d A) (FP.l2d (A + A)))), .second, .unset, .unset, .unset, .unset, .unset, .unset, .unset, .unset, .unset]) rfl ?_
      refine Owe.aload X543.here hx (hb hby at_214) rfl rfl ?_
      refine Owe.virt X543 hx hZ (y := Y6) (z := Y6) hown (mvT hZ (wd hw 52)) (mvT hZ (wd hw 53)) (mvT hZ (wd hw 55)) (mvT hZ (wd hw 54)) (notFace_of_selects (args := #[]) (mvT hZ (wd hw 55))) (by decide) (backOf (W := 0) (rmcmp l Z a0 hw [] b448 ((2 : Int64) * A) ((2 : Int64) * D) T512.heap n0 Z_535 E_a1_531 Findex_a1_532 FinjectedDistance_a1_533 c2.1) hZ (wd hw 56) (wd hw 29) (by decide) (by decide)) (by rw [hml]; rfl) (a := b448) (argsL := []) (rest := []) E_a1_531 (lenOf pd_6 rfl) rfl (nb rfl) (hb hby at_216) rfl e543 (by decide) (by decide) fun T544 v544 L544 X544 hQ544 => ?_
      obtain ⟨rfl, Nq544, e544⟩ := hQ544
      have N544 := Fr.app N543 Nq544
      refine Owe.dstore X544.here hx (hb hby at_219) rfl (l' := #[.val (.long q1), .second, .val (.long q2), .second, .val (.long q3), .second, .val (.int p4), .val (.long A), .second, .val (.long D), .second, .val (.long E), .second, .val (.ref x1_165), .val (.ref x1_168), .val (.double (FP.i2d (((p4.toUInt32 >>> ((16 : Int32) &&& 31).toUInt32).toInt32) &&& (1 : Int32)))), .second, .val (.int (1 : Int32)), .val (.ref b361), .val (.ref b384), .val (.ref b413), .val (.ref b448), .val (.ref b489), .val (.double (FP.ddiv (FP.l2d A) (FP.l2d (A + D)))), .second, .val (.double (FP.ddiv (FP.l2d A) (FP.l2d (A + (0 : Int64))))), .second, .val (.double (FP.ddiv (FP.l2d A) (FP.l2d (A + A)))), .second, .val (.double (FP.ddiv (FP.l2d ((2 : Int64) * A)) (FP.l2d (((2 : Int64) * A) + ((2 : Int64) * D))))), .second, .unset, .unset, .unset, .unset, .unset, .unset, .unset]) rfl ?_
      refine Owe.aload X544.here hx (hb hby at_221) rfl rfl ?_
      refine Owe.virt X544 hx hZ (y := Y6) (z := Y6) hown (mvT hZ (wd hw 52)) (mvT hZ (wd hw 53)) (mvT hZ (wd hw 55)) (mvT hZ (wd hw 54)) (notFace_of_selects (args := #[]) (mvT hZ (wd hw 55))) (by decide) (backOf (W := 0) (rmcmp l Z a0 hw [] b489 A (D + E) T512.heap n0 Z_535 E_a1_512 Findex_a1_512 FinjectedDistance_a1_512 cm.1) hZ (wd hw 56) (wd hw 29) (by decide) (by decide)) (by rw [hml]; rfl) (a := b489) (argsL := []) (rest := []) E_a1_512 (lenOf pd_6 rfl) rfl (nb rfl) (hb hby at_223) rfl e544 (by decide) (by decide) fun T545 v545 L545 X545 hQ545 => ?_
      obtain ⟨rfl, Nq545, e545⟩ := hQ545
      have N545 := Fr.app N544 Nq545
      refine Owe.dstore X545.here hx (hb hby at_226) rfl (l' := #[.val (.long q1), .second, .val (.long q2), .second, .val (.long q3), .second, .val (.int p4), .val (.long A), .second, .val (.long D), .second, .val (.long E), .second, .val (.ref x1_165), .val (.ref x1_168), .val (.double (FP.i2d (((p4.toUInt32 >>> ((16 : Int32) &&& 31).toUInt32).toInt32) &&& (1 : Int32)))), .second, .val (.int (1 : Int32)), .val (.ref b361), .val (.ref b384), .val (.ref b413), .val (.ref b448), .val (.ref b489), .val (.double (FP.ddiv (FP.l2d A) (FP.l2d (A + D)))), .second, .val (.double (FP.ddiv (FP.l2d A) (FP.l2d (A + (0 : Int64))))), .second, .val (.double (FP.ddiv (FP.l2d A) (FP.l2d (A + A)))), .second, .val (.double (FP.ddiv (FP.l2d ((2 : Int64) * A)) (FP.l2d (((2 : Int64) * A) + ((2 : Int64) * D))))), .second, .val (.double (FP.ddiv (FP.l2d A) (FP.l2d (A + (D + E))))), .second, .unset, .unset, .unset, .unset, .unset]) rfl ?_
      refine Owe.dload X545.here hx (hb hby at_228) rfl ?_
      refine Owe.dconst0 X545.here hx (hb hby at_230) (v := (0 : UInt64)) own_dconst0 ?_
      refine Owe.dcmpS X545.here hx (hb hby at_231) rfl rfl ?_
      refine Owe.ifNo X545.here hx (hb hby at_232) rfl ((if0 _ _).trans (tlt (own_p c1.2.1)).2.2.2) ?_
      refine Owe.dload X545.here hx (hb hby at_235) rfl ?_
      refine Owe.dconst1 X545.here hx (hb hby at_237) (v := (4607182418800017408 : UInt64)) own_dconst1 ?_
      refine Owe.dcmpS X545.here hx (hb hby at_238) rfl rfl ?_
      refine Owe.ifNo X545.here hx (hb hby at_239) rfl ((if0 _ _).trans (flt (own_m cx.2)).2.2.1) ?_
      refine Owe.dload X545.here hx (hb hby at_242) rfl ?_
      refine Owe.dconst1 X545.here hx (hb hby at_244) (v := (4607182418800017408 : UInt64)) own_dconst1 ?_
      refine Owe.dcmpS X545.here hx (hb hby at_245) rfl rfl ?_
      refine Owe.ifYes X545.here hx (hb hby at_246) rfl ((if0 _ _).trans (feq (own_m0 cx.1)).2) (pc' := 253) (by decide) (by decide) ?_
      refine Owe.iconst X545.here hx (hb hby at_253) (w := (0 : Int32)) rfl ?_
      refine Owe.lload X545.here hx (hb hby at_254) rfl ?_
      refine Owe.lconst X545.here hx (hb hby at_256) (w := (0 : Int64)) rfl ?_
      refine Owe.lcmp X545.here hx (hb hby at_257) rfl ?_
      refine Owe.ifYes X545.here hx (hb hby at_258) rfl ((if0 _ _).trans (feq (fun q => hd (own_lc.mp q))).2) (pc' := 265) (by decide) (by decide) ?_
      refine Owe.iconst X545.here hx (hb hby at_265) (w := (0 : Int32)) rfl ?_
      refine Owe.icmpNo X545.here hx (hb hby at_266) rfl (teq (by decide)).2 ?_
      refine Owe.iconst X545.here hx (hb hby at_269) (w := (1 : Int32)) rfl ?_
      refine Owe.goto X545.here hx (hb hby at_270) (pc' := 274) (by decide) (by decide) ?_
      refine Owe.istore X545.here hx (hb hby at_274) rfl (l' := #[.val (.long q1), .second, .val (.long q2), .second, .val (.long q3), .second, .val (.int p4), .val (.long A), .second, .val (.long D), .second, .val (.long E), .second, .val (.ref x1_165), .val (.ref x1_168), .val (.double (FP.i2d (((p4.toUInt32 >>> ((16 : Int32) &&& 31).toUInt32).toInt32) &&& (1 : Int32)))), .second, .val (.int (1 : Int32)), .val (.ref b361), .val (.ref b384), .val (.ref b413), .val (.ref b448), .val (.ref b489), .val (.double (FP.ddiv (FP.l2d A) (FP.l2d (A + D)))), .second, .val (.double (FP.ddiv (FP.l2d A) (FP.l2d (A + (0 : Int64))))), .second, .val (.double (FP.ddiv (FP.l2d A) (FP.l2d (A + A)))), .second, .val (.double (FP.ddiv (FP.l2d ((2 : Int64) * A)) (FP.l2d (((2 : Int64) * A) + ((2 : Int64) * D))))), .second, .val (.double (FP.ddiv (FP.l2d A) (FP.l2d (A + (D + E))))), .second, .val (.int (1 : Int32)), .unset, .unset, .unset, .unset]) rfl ?_
      refine Owe.dload X545.here hx (hb hby at_276) rfl ?_
      refine Owe.dconst1 X545.here hx (hb hby at_278) (v := (4607182418800017408 : UInt64)) own_dconst1 ?_
      refine Owe.dcmpS X545.here hx (hb hby at_279) rfl rfl ?_
      refine Owe.ifNo X545.here hx (hb hby at_280) rfl ((if0 _ _).trans (teq (c0.2.2.1 (by omega)).1).2) ?_
      refine Owe.iconst X545.here hx (hb hby at_283) (w := (1 : Int32)) rfl ?_
      refine Owe.goto X545.here hx (hb hby at_284) (pc' := 288) (by decide) (by decide) ?_
      refine Owe.istore X545.here hx (hb hby at_288) rfl (l' := #[.val (.long q1), .second, .val (.long q2), .second, .val (.long q3), .second, .val (.int p4), .val (.long A), .second, .val (.long D), .second, .val (.long E), .second, .val (.ref x1_165), .val (.ref x1_168), .val (.double (FP.i2d (((p4.toUInt32 >>> ((16 : Int32) &&& 31).toUInt32).toInt32) &&& (1 : Int32)))), .second, .val (.int (1 : Int32)), .val (.ref b361), .val (.ref b384), .val (.ref b413), .val (.ref b448), .val (.ref b489), .val (.double (FP.ddiv (FP.l2d A) (FP.l2d (A + D)))), .second, .val (.double (FP.ddiv (FP.l2d A) (FP.l2d (A + (0 : Int64))))), .second, .val (.double (FP.ddiv (FP.l2d A) (FP.l2d (A + A)))), .second, .val (.double (FP.ddiv (FP.l2d ((2 : Int64) * A)) (FP.l2d (((2 : Int64) * A) + ((2 : Int64) * D))))), .second, .val (.double (FP.ddiv (FP.l2d A) (FP.l2d (A + (D + E))))), .second, .val (.int (1 : Int32)), .val (.int (1 : Int32)), .unset, .unset, .unset]) rfl ?_
      refine Owe.dload X545.here hx (hb hby at_290) rfl ?_
      refine Owe.ldc2D X545 hx (v := (4602678819172646912 : UInt64)) hown (mvT hZ (wd hw 57)) (hb hby at_292) ?_
      refine Owe.dcmpS X545.here hx (hb hby at_295) rfl rfl ?_
      refine Owe.ifNo X545.here hx (hb hby at_296) rfl ((if0 _ _).trans (teq (ch.2.2.2.2 (by omega))).2) ?_
      refine Owe.iconst X545.here hx (hb hby at_299) (w := (1 : Int32)) rfl ?_
      refine Owe.goto X545.here hx (hb hby at_300) (pc' := 304) (by decide) (by decide) ?_
      refine Owe.istore X545.here hx (hb hby at_304) rfl (l' := #[.val (.long q1), .second, .val (.long q2), .second, .val (.long q3), .second, .val (.int p4), .val (.long A), .second, .val (.long D), .second, .val (.long E), .second, .val (.ref x1_165), .val (.ref x1_168), .val (.double (FP.i2d (((p4.toUInt32 >>> ((16 : Int32) &&& 31).toUInt32).toInt32) &&& (1 : Int32)))), .second, .val (.int (1 : Int32)), .val (.ref b361), .val (.ref b384), .val (.ref b413), .val (.ref b448), .val (.ref b489), .val (.double (FP.ddiv (FP.l2d A) (FP.l2d (A + D)))), .second, .val (.double (FP.ddiv (FP.l2d A) (FP.l2d (A + (0 : Int64))))), .second, .val (.double (FP.ddiv (FP.l2d A) (FP.l2d (A + A)))), .second, .val (.double (FP.ddiv (FP.l2d ((2 : Int64) * A)) (FP.l2d (((2 : Int64) * A) + ((2 : Int64) * D))))), .second, .val (.double (FP.ddiv (FP.l2d A) (FP.l2d (A + (D + E))))), .second, .val (.int (1 : Int32)), .val (.int (1 : Int32)), .val (.int (1 : Int32)), .unset, .unset]) rfl ?_
      refine Owe.dload X545.here hx (hb hby at_306) rfl ?_
      refine Owe.dload X545.here hx (hb hby at_308) rfl ?_
      refine Owe.dcmpS X545.here hx (hb hby at_310) rfl rfl ?_
      refine Owe.ifNo X545.here hx (hb hby at_311) rfl ((if0 _ _).trans (teq c2.2).2) ?_
      refine Owe.iconst X545.here hx (hb hby at_314) (w := (1 : Int32)) rfl ?_
      refine Owe.goto X545.here hx (hb hby at_315) (pc' := 319) (by decide) (by decide) ?_
      refine Owe.istore X545.here hx (hb hby at_319) rfl (l' := #[.val (.long q1), .second, .val (.long q2), .second, .val (.long q3), .second, .val (.int p4), .val (.long A), .second, .val (.long D), .second, .val (.long E), .second, .val (.ref x1_165), .val (.ref x1_168), .val (.double (FP.i2d (((p4.toUInt32 >>> ((16 : Int32) &&& 31).toUInt32).toInt32) &&& (1 : Int32)))), .second, .val (.int (1 : Int32)), .val (.ref b361), .val (.ref b384), .val (.ref b413), .val (.ref b448), .val (.ref b489), .val (.double (FP.ddiv (FP.l2d A) (FP.l2d (A + D)))), .second, .val (.double (FP.ddiv (FP.l2d A) (FP.l2d (A + (0 : Int64))))), .second, .val (.double (FP.ddiv (FP.l2d A) (FP.l2d (A + A)))), .second, .val (.double (FP.ddiv (FP.l2d ((2 : Int64) * A)) (FP.l2d (((2 : Int64) * A) + ((2 : Int64) * D))))), .second, .val (.double (FP.ddiv (FP.l2d A) (FP.l2d (A + (D + E))))), .second, .val (.int (1 : Int32)), .val (.int (1 : Int32)), .val (.int (1 : Int32)), .val (.int (1 : Int32)), .unset]) rfl ?_
      refine Owe.dload X545.here hx (hb hby at_321) rfl ?_
      refine Owe.dload X545.here hx (hb hby at_323) rfl ?_
      refine Owe.dcmpS X545.here hx (hb hby at_325) rfl rfl ?_
      refine Owe.ifNo X545.here hx (hb hby at_326) rfl ((if0 _ _).trans (flt cm.2.1).2.2.1) ?_
      refine Owe.dload X545.here hx (hb hby at_329) rfl ?_
      refine Owe.dconst0 X545.here hx (hb hby at_331) (v := (0 : UInt64)) own_dconst0 ?_
      refine Owe.dcmpS X545.here hx (hb hby at_332) rfl rfl ?_
      refine Owe.ifNo X545.here hx (hb hby at_333) rfl ((if0 _ _).trans (tlt (own_p cm.2.2)).2.2.2) ?_
      refine Owe.iconst X545.here hx (hb hby at_336) (w := (1 : Int32)) rfl ?_
      refine Owe.goto X545.here hx (hb hby at_337) (pc' := 341) (by decide) (by decide) ?_
      refine Owe.istore X545.here hx (hb hby at_341) rfl (l' := #[.val (.long q1), .second, .val (.long q2), .second, .val (.long q3), .second, .val (.int p4), .val (.long A), .second, .val (.long D), .second, .val (.long E), .second, .val (.ref x1_165), .val (.ref x1_168), .val (.double (FP.i2d (((p4.toUInt32 >>> ((16 : Int32) &&& 31).toUInt32).toInt32) &&& (1 : Int32)))), .second, .val (.int (1 : Int32)), .val (.ref b361), .val (.ref b384), .val (.ref b413), .val (.ref b448), .val (.ref b489), .val (.double (FP.ddiv (FP.l2d A) (FP.l2d (A + D)))), .second, .val (.double (FP.ddiv (FP.l2d A) (FP.l2d (A + (0 : Int64))))), .second, .val (.double (FP.ddiv (FP.l2d A) (FP.l2d (A + A)))), .second, .val (.double (FP.ddiv (FP.l2d ((2 : Int64) * A)) (FP.l2d (((2 : Int64) * A) + ((2 : Int64) * D))))), .second, .val (.double (FP.ddiv (FP.l2d A) (FP.l2d (A + (D + E))))), .second, .val (.int (1 : Int32)), .val (.int (1 : Int32)), .val (.int (1 : Int32)), .val (.int (1 : Int32)), .val (.int (1 : Int32))]) rfl ?_
      refine Owe.iload X545.here hx (hb hby at_343) rfl ?_
      refine Owe.ifNo X545.here hx (hb hby at_345) rfl ((if0 _ _).trans (feq (by decide)).1) ?_
      refine Owe.iload X545.here hx (hb hby at_348) rfl ?_
      refine Owe.ifNo X545.here hx (hb hby at_350) rfl ((if0 _ _).trans (feq (by decide)).1) ?_
      refine Owe.iload X545.here hx (hb hby at_353) rfl ?_
      refine Owe.ifNo X545.here hx (hb hby at_355) rfl ((if0 _ _).trans (feq (by decide)).1) ?_
      refine Owe.iload X545.here hx (hb hby at_358) rfl ?_
      refine Owe.ifNo X545.here hx (hb hby at_360) rfl ((if0 _ _).trans (feq (by decide)).1) ?_
      refine Owe.iload X545.here hx (hb hby at_363) rfl ?_
      refine Owe.ifNo X545.here hx (hb hby at_365) rfl ((if0 _ _).trans (feq (by decide)).1) ?_
      refine Owe.iconst X545.here hx (hb hby at_368) (w := (1 : Int32)) rfl ?_
      refine Owe.goto X545.here hx (hb hby at_369) (pc' := 373) (by decide) (by decide) ?_
      refine Owe.retN X545 hx hlk (t := .boolean) hrt (by simp) (hb hby at_373) rfl fun fs hE => ?_
      rw [hG]
      refine ⟨_, _, rfl, ?_, frameMono hE (by decide) (by decide)⟩
      show Q0 Z q1 q2 q3 p4 G1 h0 n0 _ T545.heap _
      rw [e545]
      exact ⟨rfl, N545⟩
set_option maxRecDepth 65536 in
set_option maxHeartbeats 40000000 in
theorem comes_1 {Post : Tables → Env → Array Value → State → Outcome → State → Prop} (hpost : ∀ tb e args s v u, (limb_1_1.after args s (.returned v) u = true ∧ limb_1_2.after args s (.returned v) u = true ∧ True) → FrameEnd s (.returned v) u (Jvm.fieldLocs frame_1_writes args s ++ Jvm.arrayLocs frame_1_arrays args s ++ Jvm.staticLocs frame_1_statics s) 32 192 → Post tb e args s (.returned v) u) :
    ArmFor flags0 classFile x code maxLocals ret World_1 tables_1 room_1 Calls_1 rest_1 Pre_1 Post := by
  intro l hfl _ _ p e ha hc hk s m args below hf hA hF happ hP
  obtain ⟨hcalls, hrest, hpre⟩ := hP
  obtain ⟨-, -, -, hnamed, -, -, -, hat⟩ := (Spec.applies_iff hf).mp happ
  obtain ⟨hg, hn⟩ := and_e (Cond.before_iff.mp (show (Jvm.Cond.and given_1 narrow_1).before args s = true from hpre))
  obtain ⟨g0, q0⟩ := and_e hg
  obtain ⟨g1, q1⟩ := and_e q0
  obtain ⟨g2, q2⟩ := and_e q1
  obtain ⟨g3, q3⟩ := and_e q2
  obtain ⟨w0, w1, w2, w3, rfl⟩ : ∃ w0 w1 w2 w3 : Value, args = #[w0, w1, w2, w3] := by
    have hs : args.size = 4 := by simpa [Cond.value, given_1] using g0
    obtain ⟨L⟩ := args
    match L, hs with
    | [w0, w1, w2, w3], _ => exact ⟨w0, w1, w2, w3, rfl⟩
  have hw := fun d (hd : d ∈ tables_1) => atoms_spec (ws := Jvm.Cond.code x code maxLocals ret :: tables_1) hat d (List.mem_cons_of_mem _ hd)
  have hfit : Fit s := fun {y c} hc i hi => by
    obtain ⟨ha, rfl⟩ := Array.getElem?_eq_some_iff.mp hc
    have q := List.all_eq_true.mp ((Array.all_eq_true_iff_forall_mem.mp hF) _ (Array.getElem_mem ha)) i (List.mem_range.mpr hi)
    simpa [Array.getElem?_eq_getElem hi] using q
  obtain ⟨hsets, hown0⟩ := atoms_of _ (rest_1_c_eq ▸ (show rest_1_c.before _ s = true from hrest))
  have hr0 := Cond.before_iff.mp hown0
  obtain ⟨i0, ei0⟩ := isL_v g1
  obtain rfl : w0 = (.long i0) := Option.some.inj ei0
  obtain ⟨i1, ei1⟩ := isL_v g2
  obtain rfl : w1 = (.long i1) := Option.some.inj ei1
  obtain ⟨i2, ei2⟩ := isL_v g3
  obtain rfl : w2 = (.long i2) := Option.some.inj ei2
  obtain ⟨i3, ei3⟩ := is_v q3
  obtain rfl : w3 = (.int i3) := Option.some.inj ei3
  have n5 := not_v (Cond.before_iff.mp (hsets _ (List.mem_of_getElem? (i := 2) rfl)))
  obtain ⟨ics, ecs⟩ := is_v (Cond.before_iff.mp (hsets _ (List.mem_of_getElem? (i := 1) rfl)))
  have Scs : Sta s s.heap "java/lang/String" "COMPACT_STRINGS" "Z" (.int ics) := Sta.start ecs (Or.inl (hsets _ (List.mem_of_getElem? (i := 0) rfl)))
  have hcs0 : ¬ (ics = (0 : Int32)) := gotF (Cond.eq_ints ecs (Term.int_eval (0))) n5
  obtain ⟨n, o, h1, h2, h3, _, L, rfl, ⟨rfl, N⟩, hq⟩ := rm0 l s _ hw tables_1 i0 i1 i2 i3 ics s.heap s.heap.size (Nat.le_refl _) Scs hcs0 (Old.start s) p e ha hc hk s m _ below hf ((Spec.applies_iff_loose hf).mp happ).1 ⟨rfl, State.Warmed39.refl s, rfl⟩ trivial
  refine ⟨n, _, h1, h2, h3, hpost _ _ _ _ _ _ ⟨Cond.after_iff.mpr rfl, Cond.after_iff.mpr (eq_i res_at (Term.int_eval (1)) rfl), trivial⟩ ⟨hq.1, hq.2.1, (hq.2.2.sift fun y hy => Or.inr (N y hy)).mono (by decide) (by decide)⟩⟩
theorem main_1_1 : Claimed_1_1 := comes_1 fun _ _ _ _ _ _ h hF => ⟨h.1, hF⟩
theorem main_1_2 : Claimed_1_2 := comes_1 fun _ _ _ _ _ _ h hF => ⟨h.2.1, hF⟩
end Jvm.Pilot.@@N@@
namespace Jvm.Pilot.@@N@@
open Jvm Jvm.ClassFile Sem Op Lib Jvm.Free Jvm.Stand Jvm.Pilot.@@N@@.Jvm.D
/-! MADE BY PROGRAM (witnessworld.py) out of the Statement's table words and the real class files: 19 classes; the members and pool entries that the words name. The judged class is class 1, her method 1. -/
namespace start1
open Jvm.ClassFile
def u (s : String) : CpInfo := .utf8 (stringToUtf16 s)
/-- a pool by its gaps: so many unusable entries, then the entry; so many at the end -/
def gap : Nat → List CpInfo → List CpInfo
  | 0, r => r
  | n + 1, r => .unusable :: gap n r
def poolList (es : List (Nat × CpInfo)) (last : Nat) : List CpInfo := es.foldr (fun e r => gap e.1 (e.2 :: r)) (gap last [])
def pool (es : List (Nat × CpInfo)) (last : Nat) : Array CpInfo := ⟨poolList es last⟩
def fileOf (pool : Array CpInfo) (this : Nat) (attrs : Array Attribute := #[]) (ms : Array MethodInfo := #[]) (fl : Nat := 33) (sup : Nat := 0) (ifs : Array Nat := #[]) (fds : Array FieldInfo := #[]) : ClassFile where
  minorVersion := 0
  majorVersion := 65
  constantPool := pool
  accessFlags := fl
  thisClass := this
  superClass := sup
  interfaces := ifs
  fields := fds
  methods := ms
  attributes := attrs
def plain (name : String) (sup : Option ClassId) : Class where
  name := name
  kind := .ordinary
  loader := none
  accessFlags := 33
  super := sup
  interfaces := #[]
  cf := none
  fields := #[]
  methods := #[]
  instanceTypes := #[]
  staticTypes := #[]
  resolved := #[]
  callSites := []
  init := .initialized
  statics := none
  mirror := none

def pool0 : Array CpInfo := pool [(5, u "<init>"), (0, u "()V"), (1, .class_ 10), (1, u "java/lang/Object")] 113

def k0c0 : Code := { maxStack := 0, maxLocals := 1, code := object_method_1_code, exceptionTable := #[], attributes := #[] }
def k0m0 : Method := { name := "<init>", desc := "()V", sig := { parameters := [], returnType := none }, accessFlags := 1, code := some k0c0 }
/-- java/lang/Object -/
def k0 : Class := { plain "java/lang/Object" none with
  accessFlags := 33
  interfaces := #[]
  cf := some (fileOf pool0 8 #[] #[{ accessFlags := 1, nameIndex := 5, descriptorIndex := 6, attributes := #[] }] 33 0 #[] #[])
  fields := #[]
  methods := #[k0m0]
  instanceTypes := #[]
  staticTypes := #[]
  resolved := Array.replicate 124 none
  statics := none }

def pool1 : Array CpInfo := pool [(2, .class_ 4), (1, u "java/lang/Object"), (0, u "<init>"), (0, u "()V"), (0, .long 4503599627370495), (1, .methodref 10 11), (0, .class_ 12), (0, .nameAndType 13 14), (0, u "java/lang/String"), (0, u "valueOf"), (0, u "(C)Ljava/lang/String;"), (0, .class_ 16), (0, u "com/example/casewarden/casewarden/conformance/hmm/HmmVerdict"), (0, .methodref 15 18), (0, .nameAndType 5 19), (0, u "(Ljava/lang/String;JLjava/lang/String;DJZ)V"), (0, .long 2), (1, .methodref 15 23), (0, .nameAndType 24 25), (0, u "completeness"), (0, u "()D"), (0, .double 4602678819172646912), (1, .class_ 29), (0, u "com/example/casewarden/casewarden/conformance/hmm/HmmVerdictCompletenessPinLaw"), (2, u "law"), (0, u "(JJJI)Z")] 3

def k1m0 : Method := { name := "<init>", desc := "()V", sig := { parameters := [], returnType := none }, accessFlags := 1, code := none }
def k1c1 : Code := { maxStack := 12, maxLocals := 38, code := code, exceptionTable := #[], attributes := #[] }
def k1m1 : Method := { name := "law", desc := "(JJJI)Z", sig := { parameters := [.long, .long, .long, .int], returnType := some .boolean }, accessFlags := 9, code := some k1c1 }
/-- com/example/casewarden/casewarden/conformance/hmm/HmmVerdictCompletenessPinLaw -/
def k1 : Class := { plain "com/example/casewarden/casewarden/conformance/hmm/HmmVerdictCompletenessPinLaw" (some 0) with
  accessFlags := 49
  interfaces := #[]
  cf := some (fileOf pool1 28 #[] #[{ accessFlags := 1, nameIndex := 5, descriptorIndex := 6, attributes := #[] }, { accessFlags := 9, nameIndex := 32, descriptorIndex := 33, attributes := #[] }] 49 2 #[] #[])
  fields := #[]
  methods := #[k1m0, k1m1]
  instanceTypes := #[]
  staticTypes := #[]
  resolved := Array.replicate 37 none
  statics := none }

def pool2 : Array CpInfo := pool [(1, .class_ 2), (0, u "java/io/Serializable"), (0, .class_ 4), (0, u "java/lang/Object")] 2

/-- java/io/Serializable -/
def k2 : Class := { plain "java/io/Serializable" (some 0) with
  accessFlags := 1537
  interfaces := #[]
  cf := some (fileOf pool2 1 #[] #[] 1537 3 #[] #[])
  fields := #[]
  methods := #[]
  instanceTypes := #[]
  staticTypes := #[]
  resolved := Array.replicate 7 none
  statics := none }

def pool3 : Array CpInfo := pool [(1, .class_ 2), (0, u "java/lang/Comparable"), (0, .class_ 4), (0, u "java/lang/Object")] 7

/-- java/lang/Comparable -/
def k3 : Class := { plain "java/lang/Comparable" (some 0) with
  accessFlags := 1537
  interfaces := #[]
  cf := some (fileOf pool3 1 #[] #[] 1537 3 #[] #[])
  fields := #[]
  methods := #[]
  instanceTypes := #[]
  staticTypes := #[]
  resolved := Array.replicate 12 none
  statics := none }

def pool4 : Array CpInfo := pool [(2, .class_ 4), (1, u "java/lang/CharSequence"), (42, .class_ 48), (0, u "java/lang/CharSequence$1CodePointIterator"), (10, .class_ 60), (0, u "java/lang/CharSequence$1CharIterator"), (5, .class_ 67), (0, u "java/lang/Object")] 63

/-- java/lang/CharSequence -/
def k4 : Class := { plain "java/lang/CharSequence" (some 0) with
  accessFlags := 1537
  interfaces := #[]
  cf := some (fileOf pool4 2 #[.nestMembers #[47, 59]] #[] 1537 66 #[] #[])
  fields := #[]
  methods := #[]
  instanceTypes := #[]
  staticTypes := #[]
  resolved := Array.replicate 131 none
  statics := none }

def pool5 : Array CpInfo := pool [(1, .class_ 2), (0, u "java/lang/constant/Constable"), (0, .class_ 4), (0, u "java/lang/Object")] 6

/-- java/lang/constant/Constable -/
def k5 : Class := { plain "java/lang/constant/Constable" (some 0) with
  accessFlags := 1537
  interfaces := #[]
  cf := some (fileOf pool5 1 #[] #[] 1537 3 #[] #[])
  fields := #[]
  methods := #[]
  instanceTypes := #[]
  staticTypes := #[]
  resolved := Array.replicate 11 none
  statics := none }

def pool6 : Array CpInfo := pool [(1, .class_ 2), (0, u "java/lang/constant/ConstantDesc"), (0, .class_ 4), (0, u "java/lang/Object")] 32

/-- java/lang/constant/ConstantDesc -/
def k6 : Class := { plain "java/lang/constant/ConstantDesc" (some 0) with
  accessFlags := 1537
  interfaces := #[]
  cf := some (fileOf pool6 1 #[] #[] 1537 3 #[] #[])
  fields := #[]
  methods := #[]
  instanceTypes := #[]
  staticTypes := #[]
  resolved := Array.replicate 37 none
  statics := none }

def pool7 : Array CpInfo := pool [(1, .methodref 2 3), (0, .class_ 4), (0, .nameAndType 5 6), (0, u "java/lang/Object"), (0, u "<init>"), (0, u "()V"), (2, .fieldref 10 11), (0, .class_ 12), (0, .nameAndType 13 14), (0, u "java/lang/String"), (0, u "value"), (0, u "[B"), (0, .fieldref 10 16), (0, .nameAndType 17 18), (0, u "coder"), (0, u "B"), (2, u "hash"), (0, u "I"), (2, u "hashIsZero"), (0, u "Z"), (11, .fieldref 10 39), (0, .nameAndType 40 26), (0, u "COMPACT_STRINGS"), (12, u "toBytes"), (53, .class_ 109), (1, u "java/lang/StringLatin1"), (99, .methodref 10 210), (0, .nameAndType 5 211), (0, u "([BB)V"), (157, u "(C)Z"), (205, .class_ 576), (0, u "java/lang/CharSequence"), (22, u "CASE_INSENSITIVE_ORDER"), (0, u "Ljava/util/Comparator;"), (181, u "valueOf"), (0, u "(C)Ljava/lang/String;"), (231, .methodref 107 1016), (0, .nameAndType 1017 369), (0, u "canEncode"), (0, .methodref 107 1019), (0, .nameAndType 53 1020), (0, u "(C)[B"), (80, u "serialPersistentFields"), (0, u "[Ljava/io/ObjectStreamField;"), (0, .class_ 1104), (0, u "java/lang/String$CaseInsensitiveComparator"), (1, .class_ 1107), (0, u "java/io/Serializable"), (0, .class_ 1109), (0, u "java/lang/Comparable"), (0, .class_ 1111), (0, u "java/lang/constant/Constable"), (0, .class_ 1113), (0, u "java/lang/constant/ConstantDesc"), (2, u "serialVersionUID"), (0, u "J"), (3, u "REPL"), (0, u "C"), (2, u "LATIN1"), (1, u "UTF16")] 323

def k7m0 : Method := { name := "<init>", desc := "()V", sig := { parameters := [], returnType := none }, accessFlags := 1, code := none }
def k7c1 : Code := { maxStack := 4, maxLocals := 1, code := jdk_42_method_139_code, exceptionTable := #[], attributes := #[] }
def k7m1 : Method := { name := "valueOf", desc := "(C)Ljava/lang/String;", sig := { parameters := [.char], returnType := some (.object "java/lang/String") }, accessFlags := 9, code := some k7c1 }
def k7c2 : Code := { maxStack := 2, maxLocals := 3, code := jdk_42_method_151_code, exceptionTable := #[], attributes := #[] }
def k7m2 : Method := { name := "<init>", desc := "([BB)V", sig := { parameters := [(.array .byte), .byte], returnType := none }, accessFlags := 0, code := some k7c2 }
/-- java/lang/String -/
def k7 : Class := { plain "java/lang/String" (some 0) with
  accessFlags := 49
  interfaces := #[2, 3, 4, 5, 6]
  cf := some (fileOf pool7 10 #[.nestMembers #[1103]] #[{ accessFlags := 1, nameIndex := 5, descriptorIndex := 6, attributes := #[] }, { accessFlags := 9, nameIndex := 782, descriptorIndex := 783, attributes := #[] }, { accessFlags := 0, nameIndex := 5, descriptorIndex := 211, attributes := #[] }] 49 2 #[1106, 1108, 575, 1110, 1112] #[{ accessFlags := 18, nameIndex := 13, descriptorIndex := 14, attributes := #[] }, { accessFlags := 18, nameIndex := 17, descriptorIndex := 18, attributes := #[] }, { accessFlags := 2, nameIndex := 21, descriptorIndex := 22, attributes := #[] }, { accessFlags := 2, nameIndex := 25, descriptorIndex := 26, attributes := #[] }, { accessFlags := 26, nameIndex := 1116, descriptorIndex := 1117, attributes := #[] }, { accessFlags := 24, nameIndex := 40, descriptorIndex := 26, attributes := #[] }, { accessFlags := 26, nameIndex := 1101, descriptorIndex := 1102, attributes := #[] }, { accessFlags := 26, nameIndex := 1121, descriptorIndex := 1122, attributes := #[] }, { accessFlags := 25, nameIndex := 599, descriptorIndex := 600, attributes := #[] }, { accessFlags := 24, nameIndex := 1125, descriptorIndex := 18, attributes := #[] }, { accessFlags := 24, nameIndex := 1127, descriptorIndex := 18, attributes := #[] }])
  fields := #[{ name := "value", type := (.array .byte), accessFlags := 18, slot := 0, constantValue := 0 }, { name := "coder", type := .byte, accessFlags := 18, slot := 1, constantValue := 0 }, { name := "hash", type := .int, accessFlags := 2, slot := 2, constantValue := 0 }, { name := "hashIsZero", type := .boolean, accessFlags := 2, slot := 3, constantValue := 0 }, { name := "serialVersionUID", type := .long, accessFlags := 26, slot := 0, constantValue := 0 }, { name := "COMPACT_STRINGS", type := .boolean, accessFlags := 24, slot := 1, constantValue := 0 }, { name := "serialPersistentFields", type := (.array (.object "java/io/ObjectStreamField")), accessFlags := 26, slot := 2, constantValue := 0 }, { name := "REPL", type := .char, accessFlags := 26, slot := 3, constantValue := 0 }, { name := "CASE_INSENSITIVE_ORDER", type := (.object "java/util/Comparator"), accessFlags := 25, slot := 4, constantValue := 0 }, { name := "LATIN1", type := .byte, accessFlags := 24, slot := 5, constantValue := 0 }, { name := "UTF16", type := .byte, accessFlags := 24, slot := 6, constantValue := 0 }]
  methods := #[k7m0, k7m1, k7m2]
  instanceTypes := #[(.array .byte), .byte, .int, .boolean]
  staticTypes := #[.long, .boolean, (.array (.object "java/io/ObjectStreamField")), .char, (.object "java/util/Comparator"), .byte, .byte]
  resolved := Array.replicate 1451 none
  statics := some 0 }

def pool8 : Array CpInfo := pool [(4, .class_ 6), (1, u "java/lang/Object"), (0, u "<init>"), (0, u "()V"), (5, .class_ 16), (1, u "java/lang/StringLatin1"), (73, u "canEncode"), (14, u "(C)Z"), (15, u "$assertionsDisabled"), (0, u "Z"), (98, .class_ 223), (1, u "java/lang/StringLatin1$LinesSpliterator"), (156, u "toBytes"), (1, u "(C)[B"), (7, .class_ 391), (0, u "java/lang/StringLatin1$CharsSpliterator")] 3

def k8m0 : Method := { name := "<init>", desc := "()V", sig := { parameters := [], returnType := none }, accessFlags := 0, code := none }
def k8c1 : Code := { maxStack := 2, maxLocals := 1, code := jdk_43_method_3_code, exceptionTable := #[], attributes := #[] }
def k8m1 : Method := { name := "canEncode", desc := "(C)Z", sig := { parameters := [.char], returnType := some .boolean }, accessFlags := 9, code := some k8c1 }
def k8c2 : Code := { maxStack := 4, maxLocals := 1, code := jdk_43_method_46_code, exceptionTable := #[], attributes := #[] }
def k8m2 : Method := { name := "toBytes", desc := "(C)[B", sig := { parameters := [.char], returnType := some (.array .byte) }, accessFlags := 9, code := some k8c2 }
/-- java/lang/StringLatin1 -/
def k8 : Class := { plain "java/lang/StringLatin1" (some 0) with
  accessFlags := 48
  interfaces := #[]
  cf := some (fileOf pool8 14 #[.nestMembers #[390, 221]] #[{ accessFlags := 0, nameIndex := 7, descriptorIndex := 8, attributes := #[] }, { accessFlags := 9, nameIndex := 90, descriptorIndex := 105, attributes := #[] }, { accessFlags := 9, nameIndex := 380, descriptorIndex := 382, attributes := #[] }] 48 4 #[] #[{ accessFlags := 4120, nameIndex := 121, descriptorIndex := 122, attributes := #[] }])
  fields := #[{ name := "$assertionsDisabled", type := .boolean, accessFlags := 4120, slot := 0, constantValue := 0 }]
  methods := #[k8m0, k8m1, k8m2]
  instanceTypes := #[]
  staticTypes := #[.boolean]
  resolved := Array.replicate 395 none
  statics := none }

def pool9 : Array CpInfo := pool [(1, .methodref 2 3), (0, .class_ 4), (0, .nameAndType 5 6), (0, u "java/lang/Object"), (0, u "<init>"), (0, u "()V"), (0, .class_ 8), (0, u "java/lang/Record")] 13

def k9c0 : Code := { maxStack := 1, maxLocals := 1, code := jdk_30_method_1_code, exceptionTable := #[], attributes := #[] }
def k9m0 : Method := { name := "<init>", desc := "()V", sig := { parameters := [], returnType := none }, accessFlags := 4, code := some k9c0 }
/-- java/lang/Record -/
def k9 : Class := { plain "java/lang/Record" (some 0) with
  accessFlags := 1057
  interfaces := #[]
  cf := some (fileOf pool9 7 #[] #[{ accessFlags := 4, nameIndex := 5, descriptorIndex := 6, attributes := #[] }] 1057 2 #[] #[])
  fields := #[]
  methods := #[k9m0]
  instanceTypes := #[]
  staticTypes := #[]
  resolved := Array.replicate 22 none
  statics := none }

def pool10 : Array CpInfo := pool [(1, .class_ 2), (0, u "com/example/casewarden/casewarden/conformance/CaseVerdict"), (0, .class_ 4), (0, u "java/lang/Object"), (0, u "CONFORMANT"), (0, u "Ljava/lang/String;"), (3, u "ACTIVITY")] 9

/-- com/example/casewarden/casewarden/conformance/CaseVerdict -/
def k10 : Class := { plain "com/example/casewarden/casewarden/conformance/CaseVerdict" (some 0) with
  accessFlags := 1537
  interfaces := #[]
  cf := some (fileOf pool10 1 #[] #[] 1537 3 #[] #[{ accessFlags := 25, nameIndex := 5, descriptorIndex := 6, attributes := #[] }, { accessFlags := 25, nameIndex := 10, descriptorIndex := 6, attributes := #[] }])
  fields := #[{ name := "CONFORMANT", type := (.object "java/lang/String"), accessFlags := 25, slot := 0, constantValue := 0 }, { name := "ACTIVITY", type := (.object "java/lang/String"), accessFlags := 25, slot := 1, constantValue := 0 }]
  methods := #[]
  instanceTypes := #[]
  staticTypes := #[(.object "java/lang/String"), (.object "java/lang/String")]
  resolved := Array.replicate 20 none
  statics := none }

def pool11 : Array CpInfo := pool [(1, .methodref 2 3), (0, .class_ 4), (0, .nameAndType 5 6), (0, u "java/lang/Record"), (0, u "<init>"), (0, u "()V"), (0, .fieldref 8 9), (0, .class_ 10), (0, .nameAndType 11 12), (0, u "com/example/casewarden/casewarden/conformance/hmm/HmmVerdict"), (0, u "caseId"), (0, u "Ljava/lang/String;"), (0, .fieldref 8 14), (0, .nameAndType 15 16), (0, u "index"), (0, u "J"), (0, .fieldref 8 18), (0, .nameAndType 19 12), (0, u "activity"), (0, .fieldref 8 21), (0, .nameAndType 22 23), (0, u "conformance"), (0, u "D"), (0, .fieldref 8 25), (0, .nameAndType 26 16), (0, u "injectedDistance"), (0, .fieldref 8 28), (0, .nameAndType 29 30), (0, u "conformant"), (0, u "Z"), (12, .class_ 44), (0, u "com/example/casewarden/casewarden/conformance/CaseVerdict"), (0, u "(Ljava/lang/String;JLjava/lang/String;DJZ)V"), (3, u "completeness"), (0, u "()D")] 30

def k11c0 : Code := { maxStack := 3, maxLocals := 10, code := prog_48_method_1_code, exceptionTable := #[], attributes := #[] }
def k11m0 : Method := { name := "<init>", desc := "(Ljava/lang/String;JLjava/lang/String;DJZ)V", sig := { parameters := [(.object "java/lang/String"), .long, (.object "java/lang/String"), .double, .long, .boolean], returnType := none }, accessFlags := 1, code := some k11c0 }
def k11c1 : Code := { maxStack := 6, maxLocals := 1, code := prog_48_method_2_code, exceptionTable := #[], attributes := #[] }
def k11m1 : Method := { name := "completeness", desc := "()D", sig := { parameters := [], returnType := some .double }, accessFlags := 1, code := some k11c1 }
/-- com/example/casewarden/casewarden/conformance/hmm/HmmVerdict -/
def k11 : Class := { plain "com/example/casewarden/casewarden/conformance/hmm/HmmVerdict" (some 9) with
  accessFlags := 49
  interfaces := #[10]
  cf := some (fileOf pool11 8 #[] #[{ accessFlags := 1, nameIndex := 5, descriptorIndex := 45, attributes := #[] }, { accessFlags := 1, nameIndex := 49, descriptorIndex := 50, attributes := #[] }] 49 2 #[43] #[{ accessFlags := 18, nameIndex := 11, descriptorIndex := 12, attributes := #[] }, { accessFlags := 18, nameIndex := 15, descriptorIndex := 16, attributes := #[] }, { accessFlags := 18, nameIndex := 19, descriptorIndex := 12, attributes := #[] }, { accessFlags := 18, nameIndex := 22, descriptorIndex := 23, attributes := #[] }, { accessFlags := 18, nameIndex := 26, descriptorIndex := 16, attributes := #[] }, { accessFlags := 18, nameIndex := 29, descriptorIndex := 30, attributes := #[] }])
  fields := #[{ name := "caseId", type := (.object "java/lang/String"), accessFlags := 18, slot := 0, constantValue := 0 }, { name := "index", type := .long, accessFlags := 18, slot := 1, constantValue := 0 }, { name := "activity", type := (.object "java/lang/String"), accessFlags := 18, slot := 2, constantValue := 0 }, { name := "conformance", type := .double, accessFlags := 18, slot := 3, constantValue := 0 }, { name := "injectedDistance", type := .long, accessFlags := 18, slot := 4, constantValue := 0 }, { name := "conformant", type := .boolean, accessFlags := 18, slot := 5, constantValue := 0 }]
  methods := #[k11m0, k11m1]
  instanceTypes := #[(.object "java/lang/String"), .long, (.object "java/lang/String"), .double, .long, .boolean]
  staticTypes := #[]
  resolved := Array.replicate 81 none
  statics := none }

def pool12 : Array CpInfo := pool [(2, .class_ 4), (1, u "java/lang/Object"), (0, u "<init>"), (0, u "()V"), (17, .class_ 26), (1, u "jdk/internal/util/Preconditions"), (28, .class_ 56), (0, u "jdk/internal/util/Preconditions$4"), (57, .class_ 115), (0, u "jdk/internal/util/Preconditions$1"), (7, u "SIOOBE_FORMATTER"), (0, u "Ljava/util/function/BiFunction;"), (0, .class_ 126), (0, u "jdk/internal/util/Preconditions$2"), (3, u "AIOOBE_FORMATTER"), (0, .class_ 132), (0, u "jdk/internal/util/Preconditions$3"), (3, u "IOOBE_FORMATTER")] 57

def k12m0 : Method := { name := "<init>", desc := "()V", sig := { parameters := [], returnType := none }, accessFlags := 1, code := none }
/-- jdk/internal/util/Preconditions -/
def k12 : Class := { plain "jdk/internal/util/Preconditions" (some 0) with
  accessFlags := 33
  interfaces := #[]
  cf := some (fileOf pool12 24 #[.nestMembers #[55, 131, 125, 114]] #[{ accessFlags := 1, nameIndex := 5, descriptorIndex := 6, attributes := #[] }] 33 2 #[] #[{ accessFlags := 25, nameIndex := 123, descriptorIndex := 124, attributes := #[] }, { accessFlags := 25, nameIndex := 130, descriptorIndex := 124, attributes := #[] }, { accessFlags := 25, nameIndex := 136, descriptorIndex := 124, attributes := #[] }])
  fields := #[{ name := "SIOOBE_FORMATTER", type := (.object "java/util/function/BiFunction"), accessFlags := 25, slot := 0, constantValue := 0 }, { name := "AIOOBE_FORMATTER", type := (.object "java/util/function/BiFunction"), accessFlags := 25, slot := 1, constantValue := 0 }, { name := "IOOBE_FORMATTER", type := (.object "java/util/function/BiFunction"), accessFlags := 25, slot := 2, constantValue := 0 }]
  methods := #[k12m0]
  instanceTypes := #[]
  staticTypes := #[(.object "java/util/function/BiFunction"), (.object "java/util/function/BiFunction"), (.object "java/util/function/BiFunction")]
  resolved := Array.replicate 194 none
  statics := some 1 }

def pool13 : Array CpInfo := pool [(9, u "<init>"), (6, .class_ 18), (1, u "java/lang/Object"), (0, u "()V"), (1, .class_ 23), (1, u "jdk/internal/util/ArraysSupport"), (0, u "LOG2_ARRAY_LONG_INDEX_SCALE"), (0, u "I"), (2, u "U"), (0, u "Ljdk/internal/misc/Unsafe;"), (8, u "BIG_ENDIAN"), (0, u "Z"), (8, u "LOG2_BYTE_BIT_SIZE"), (4, u "LOG2_ARRAY_INT_INDEX_SCALE"), (54, u "JLA"), (0, u "Ljdk/internal/access/JavaLangAccess;"), (11, u "LOG2_ARRAY_BOOLEAN_INDEX_SCALE"), (9, u "LOG2_ARRAY_BYTE_INDEX_SCALE"), (5, u "LOG2_ARRAY_CHAR_INDEX_SCALE"), (5, u "LOG2_ARRAY_SHORT_INDEX_SCALE"), (18, u "LOG2_ARRAY_FLOAT_INDEX_SCALE"), (24, u "LOG2_ARRAY_DOUBLE_INDEX_SCALE"), (89, u "T_BOOLEAN"), (2, u "T_CHAR"), (1, u "T_FLOAT"), (1, u "T_DOUBLE"), (1, u "T_BYTE"), (1, u "T_SHORT"), (1, u "T_INT"), (1, u "T_LONG"), (1, u "SOFT_MAX_ARRAY_LENGTH")] 83

def k13m0 : Method := { name := "<init>", desc := "()V", sig := { parameters := [], returnType := none }, accessFlags := 2, code := none }
/-- jdk/internal/util/ArraysSupport -/
def k13 : Class := { plain "jdk/internal/util/ArraysSupport" (some 0) with
  accessFlags := 33
  interfaces := #[]
  cf := some (fileOf pool13 21 #[] #[{ accessFlags := 2, nameIndex := 9, descriptorIndex := 19, attributes := #[] }] 33 16 #[] #[{ accessFlags := 24, nameIndex := 28, descriptorIndex := 29, attributes := #[] }, { accessFlags := 26, nameIndex := 38, descriptorIndex := 39, attributes := #[] }, { accessFlags := 25, nameIndex := 121, descriptorIndex := 25, attributes := #[] }, { accessFlags := 25, nameIndex := 131, descriptorIndex := 25, attributes := #[] }, { accessFlags := 25, nameIndex := 137, descriptorIndex := 25, attributes := #[] }, { accessFlags := 25, nameIndex := 143, descriptorIndex := 25, attributes := #[] }, { accessFlags := 25, nameIndex := 53, descriptorIndex := 25, attributes := #[] }, { accessFlags := 25, nameIndex := 24, descriptorIndex := 25, attributes := #[] }, { accessFlags := 25, nameIndex := 162, descriptorIndex := 25, attributes := #[] }, { accessFlags := 25, nameIndex := 187, descriptorIndex := 25, attributes := #[] }, { accessFlags := 26, nameIndex := 48, descriptorIndex := 25, attributes := #[] }, { accessFlags := 25, nameIndex := 277, descriptorIndex := 25, attributes := #[] }, { accessFlags := 25, nameIndex := 280, descriptorIndex := 25, attributes := #[] }, { accessFlags := 25, nameIndex := 282, descriptorIndex := 25, attributes := #[] }, { accessFlags := 25, nameIndex := 284, descriptorIndex := 25, attributes := #[] }, { accessFlags := 25, nameIndex := 286, descriptorIndex := 25, attributes := #[] }, { accessFlags := 25, nameIndex := 288, descriptorIndex := 25, attributes := #[] }, { accessFlags := 25, nameIndex := 290, descriptorIndex := 25, attributes := #[] }, { accessFlags := 25, nameIndex := 292, descriptorIndex := 25, attributes := #[] }, { accessFlags := 26, nameIndex := 108, descriptorIndex := 109, attributes := #[] }, { accessFlags := 25, nameIndex := 294, descriptorIndex := 25, attributes := #[] }])
  fields := #[{ name := "U", type := (.object "jdk/internal/misc/Unsafe"), accessFlags := 24, slot := 0, constantValue := 0 }, { name := "BIG_ENDIAN", type := .boolean, accessFlags := 26, slot := 1, constantValue := 0 }, { name := "LOG2_ARRAY_BOOLEAN_INDEX_SCALE", type := .int, accessFlags := 25, slot := 2, constantValue := 0 }, { name := "LOG2_ARRAY_BYTE_INDEX_SCALE", type := .int, accessFlags := 25, slot := 3, constantValue := 0 }, { name := "LOG2_ARRAY_CHAR_INDEX_SCALE", type := .int, accessFlags := 25, slot := 4, constantValue := 0 }, { name := "LOG2_ARRAY_SHORT_INDEX_SCALE", type := .int, accessFlags := 25, slot := 5, constantValue := 0 }, { name := "LOG2_ARRAY_INT_INDEX_SCALE", type := .int, accessFlags := 25, slot := 6, constantValue := 0 }, { name := "LOG2_ARRAY_LONG_INDEX_SCALE", type := .int, accessFlags := 25, slot := 7, constantValue := 0 }, { name := "LOG2_ARRAY_FLOAT_INDEX_SCALE", type := .int, accessFlags := 25, slot := 8, constantValue := 0 }, { name := "LOG2_ARRAY_DOUBLE_INDEX_SCALE", type := .int, accessFlags := 25, slot := 9, constantValue := 0 }, { name := "LOG2_BYTE_BIT_SIZE", type := .int, accessFlags := 26, slot := 10, constantValue := 0 }, { name := "T_BOOLEAN", type := .int, accessFlags := 25, slot := 11, constantValue := 0 }, { name := "T_CHAR", type := .int, accessFlags := 25, slot := 12, constantValue := 0 }, { name := "T_FLOAT", type := .int, accessFlags := 25, slot := 13, constantValue := 0 }, { name := "T_DOUBLE", type := .int, accessFlags := 25, slot := 14, constantValue := 0 }, { name := "T_BYTE", type := .int, accessFlags := 25, slot := 15, constantValue := 0 }, { name := "T_SHORT", type := .int, accessFlags := 25, slot := 16, constantValue := 0 }, { name := "T_INT", type := .int, accessFlags := 25, slot := 17, constantValue := 0 }, { name := "T_LONG", type := .int, accessFlags := 25, slot := 18, constantValue := 0 }, { name := "JLA", type := (.object "jdk/internal/access/JavaLangAccess"), accessFlags := 26, slot := 19, constantValue := 0 }, { name := "SOFT_MAX_ARRAY_LENGTH", type := .int, accessFlags := 25, slot := 20, constantValue := 0 }]
  methods := #[k13m0]
  instanceTypes := #[]
  staticTypes := #[(.object "jdk/internal/misc/Unsafe"), .boolean, .int, .int, .int, .int, .int, .int, .int, .int, .int, .int, .int, .int, .int, .int, .int, .int, .int, (.object "jdk/internal/access/JavaLangAccess"), .int]
  resolved := Array.replicate 378 none
  statics := none }

def pool14 : Array CpInfo := pool [(1, u "java/lang/Cloneable"), (0, .class_ 1), (0, u "java/lang/Object"), (0, .class_ 3)] 3

/-- java/lang/Cloneable -/
def k14 : Class := { plain "java/lang/Cloneable" (some 0) with
  accessFlags := 1537
  interfaces := #[]
  cf := some (fileOf pool14 2 #[] #[] 1537 4 #[] #[])
  fields := #[]
  methods := #[]
  instanceTypes := #[]
  staticTypes := #[]
  resolved := Array.replicate 8 none
  statics := none }

/-- the primitive byte -/
def k15 : Class := { plain "byte" none with kind := .primitive 'B', accessFlags := 0x411 }
/-- [B -/
def k16 : Class := { plain "[B" (some 0) with kind := .array 15 .byte, interfaces := #[14, 2], accessFlags := 1041 }

/-- the primitive int -/
def k17 : Class := { plain "int" none with kind := .primitive 'I', accessFlags := 0x411 }
/-- [I -/
def k18 : Class := { plain "[I" (some 0) with kind := .array 17 .int, interfaces := #[14, 2], accessFlags := 1041 }

def heap : Heap := #[{ cls := 7, slots := #[.long 0, .int 1, .null, .int 0, .null, .int 0, .int 0], vm := .statics 7 },
  { cls := 12, slots := #[.null, .null, .null], vm := .statics 12 }]
def classes : Array Class := #[k0, k1, k2, k3, k4, k5, k6, k7, k8, k9, k10, k11, k12, k13, k14, k15, k16, k17, k18]
def interned : List (Array UInt16 × Addr) := []
def slotsUsed : Nat := 10
def theMethod : MethodId := ⟨1, 1⟩
def args0 : Array Value := #[.long 5, .long 5, .long 5, .int 5]
def aboutOver (below : List Frame) : State where
  vm := { classes := classes, interned := interned.toArray }
  heap := heap
  slotsUsed := slotsUsed
  threads := #[{ frames := .invoking theMethod args0 :: below }]
def below0 : List Frame := [.native { method := ⟨0, 0⟩, args := #[] }]
def about1 : State := aboutOver below0
def p0 : Program := .bare "" "" ""
def e0 : Env := launch0.env 0 0 0
theorem w_frames : about1.frames = Frame.invoking theMethod args0 :: below0 := rfl
set_option maxRecDepth 65536 in
theorem w_args : argsFit about1.vm theMethod args0 = true := by decide +kernel
set_option maxRecDepth 65536 in
theorem w_heap : heapFits about1 = true := by decide +kernel
set_option maxRecDepth 65536 in
theorem w_runnable : about1.curStatus? = some .runnable := by decide +kernel
set_option maxRecDepth 65536 in
theorem w_alone : about1.alone = true := by decide +kernel
set_option maxRecDepth 65536 in
theorem w_named : about1.methodNamed? x = some theMethod := by decide +kernel
set_option maxRecDepth 65536 in
theorem w_hears : about1.hears theMethod below0 = true := by decide +kernel
set_option maxRecDepth 65536 in
theorem w_ripe : about1.ripe theMethod args0 below0 = true := by decide +kernel
theorem w_running : about1.status = .running := rfl
set_option maxRecDepth 65536 in
theorem w_room : about1.hasRoom e0.platform room_1 = true :=
  launch0.hasRoom_least _ room_1 (by decide +kernel) (by decide +kernel) (by decide +kernel) (by decide +kernel) (by decide +kernel) (by decide +kernel)
theorem allAtoms_all (ts : List Jvm.Cond) (a : Array Jvm.Value) (st : Jvm.State) : (allAtoms ts).before a st = ts.all (fun c => c.before a st) := by
  induction ts with
  | nil => rfl
  | cons c t ih =>
    show (Jvm.Cond.and c (allAtoms t)).before a st = _
    rw [Jvm.Cond.before_and, ih, List.all_cons]
def words1 : List Jvm.Cond := Jvm.Cond.code x code maxLocals ret :: tables_1
/-- a 'code' word, met by the world's own term for the bytes: nothing is compared byte by byte -/
theorem code_word {y : MethodName} {bytes : ByteArray} {mx : Nat} {rt : Option FieldType} {a : Array Value} {s : State} {m : MethodId} {meth : Method} {c : Code} (h1 : s.methodNamed? y = some m) (h2 : s.vm.method? m = some meth) (h3 : meth.code = some c) (h4 : c.code = bytes)
    (h5 : (c.maxLocals == mx && c.exceptionTable.isEmpty && decide (c.maxStack ≤ mostOperands) && decide (meth.sig.returnType = rt) && !meth.locks && decide (parseMethodDescriptor y.desc = some meth.sig)) = true) : (Jvm.Cond.code y bytes mx rt).before a s = true := by
  simp only [Bool.and_eq_true, beq_iff_eq, Bool.not_eq_true', decide_eq_true_eq] at h5
  obtain ⟨⟨⟨⟨⟨g1, g2⟩, g3⟩, g4⟩, g5⟩, g6⟩ := h5
  simp [Cond.before, Cond.holds, Cond.value, h1, h2, h3, h4, g1, g2, g3, g4, g5, g6]
def isCode : Jvm.Cond → Bool
  | .code _ _ _ _ => true
  | _ => false
theorem all_split {L : List Jvm.Cond} {P : Jvm.Cond → Bool} (h1 : L.all (fun c => isCode c || P c) = true) (h2 : ∀ c ∈ L.filter isCode, P c = true) : L.all P = true := by
  refine List.all_eq_true.mpr fun c hc => ?_
  have h := List.all_eq_true.mp h1 c hc
  rcases Bool.eq_false_or_eq_true (isCode c) with hi | hi
  · exact h2 c (List.mem_filter.mpr ⟨hc, hi⟩)
  · simpa [hi] using h
set_option maxRecDepth 65536 in
theorem w_c0 : (Jvm.Cond.code x code maxLocals ret).before args0 about1 = true := code_word (m := ⟨1, 1⟩) (meth := k1m1) (c := k1c1) (by decide +kernel) rfl rfl rfl (by decide +kernel)
set_option maxRecDepth 65536 in
theorem w_c1 : (Jvm.Cond.code ({ cls := "java/lang/String", name := "valueOf", desc := "(C)Ljava/lang/String;" } : Jvm.MethodName) jdk_42_method_139_code (1 : Nat) (Option.some (Jvm.ClassFile.FieldType.object "java/lang/String"))).before args0 about1 = true := code_word (m := ⟨7, 1⟩) (meth := k7m1) (c := k7c1) (by decide +kernel) rfl rfl rfl (by decide +kernel)
set_option maxRecDepth 65536 in
theorem w_c2 : (Jvm.Cond.code ({ cls := "java/lang/StringLatin1", name := "canEncode", desc := "(C)Z" } : Jvm.MethodName) jdk_43_method_3_code (1 : Nat) (Option.some Jvm.ClassFile.FieldType.boolean)).before args0 about1 = true := code_word (m := ⟨8, 1⟩) (meth := k8m1) (c := k8c1) (by decide +kernel) rfl rfl rfl (by decide +kernel)
set_option maxRecDepth 65536 in
theorem w_c3 : (Jvm.Cond.code ({ cls := "java/lang/StringLatin1", name := "toBytes", desc := "(C)[B" } : Jvm.MethodName) jdk_43_method_46_code (1 : Nat) (Option.some (Jvm.ClassFile.FieldType.array Jvm.ClassFile.FieldType.byte))).before args0 about1 = true := code_word (m := ⟨8, 2⟩) (meth := k8m2) (c := k8c2) (by decide +kernel) rfl rfl rfl (by decide +kernel)
set_option maxRecDepth 65536 in
theorem w_c4 : (Jvm.Cond.code ({ cls := "java/lang/String", name := "<init>", desc := "([BB)V" } : Jvm.MethodName) jdk_42_method_151_code (3 : Nat) (Option.none : Option Jvm.ClassFile.FieldType)).before args0 about1 = true := code_word (m := ⟨7, 2⟩) (meth := k7m2) (c := k7c2) (by decide +kernel) rfl rfl rfl (by decide +kernel)
set_option maxRecDepth 65536 in
theorem w_c5 : (Jvm.Cond.code ({ cls := "java/lang/Object", name := "<init>", desc := "()V" } : Jvm.MethodName) object_method_1_code (1 : Nat) (Option.none : Option Jvm.ClassFile.FieldType)).before args0 about1 = true := code_word (m := ⟨0, 0⟩) (meth := k0m0) (c := k0c0) (by decide +kernel) rfl rfl rfl (by decide +kernel)
set_option maxRecDepth 65536 in
theorem w_c6 : (Jvm.Cond.code ({ cls := "com/example/casewarden/casewarden/conformance/hmm/HmmVerdict", name := "<init>", desc := "(Ljava/lang/String;JLjava/lang/String;DJZ)V" } : Jvm.MethodName) prog_48_method_1_code (10 : Nat) (Option.none : Option Jvm.ClassFile.FieldType)).before args0 about1 = true := code_word (m := ⟨11, 0⟩) (meth := k11m0) (c := k11c0) (by decide +kernel) rfl rfl rfl (by decide +kernel)
set_option maxRecDepth 65536 in
theorem w_c7 : (Jvm.Cond.code ({ cls := "java/lang/Record", name := "<init>", desc := "()V" } : Jvm.MethodName) jdk_30_method_1_code (1 : Nat) (Option.none : Option Jvm.ClassFile.FieldType)).before args0 about1 = true := code_word (m := ⟨9, 0⟩) (meth := k9m0) (c := k9c0) (by decide +kernel) rfl rfl rfl (by decide +kernel)
set_option maxRecDepth 65536 in
theorem w_c8 : (Jvm.Cond.code ({ cls := "com/example/casewarden/casewarden/conformance/hmm/HmmVerdict", name := "completeness", desc := "()D" } : Jvm.MethodName) prog_48_method_2_code (1 : Nat) (Option.some Jvm.ClassFile.FieldType.double)).before args0 about1 = true := code_word (m := ⟨11, 1⟩) (meth := k11m1) (c := k11c1) (by decide +kernel) rfl rfl rfl (by decide +kernel)
def codes1 : List Jvm.Cond := [Jvm.Cond.code x code maxLocals ret, Jvm.Cond.code ({ cls := "java/lang/String", name := "valueOf", desc := "(C)Ljava/lang/String;" } : Jvm.MethodName) jdk_42_method_139_code (1 : Nat) (Option.some (Jvm.ClassFile.FieldType.object "java/lang/String")), Jvm.Cond.code ({ cls := "java/lang/StringLatin1", name := "canEncode", desc := "(C)Z" } : Jvm.MethodName) jdk_43_method_3_code (1 : Nat) (Option.some Jvm.ClassFile.FieldType.boolean), Jvm.Cond.code ({ cls := "java/lang/StringLatin1", name := "toBytes", desc := "(C)[B" } : Jvm.MethodName) jdk_43_method_46_code (1 : Nat) (Option.some (Jvm.ClassFile.FieldType.array Jvm.ClassFile.FieldType.byte)), Jvm.Cond.code ({ cls := "java/lang/String", name := "<init>", desc := "([BB)V" } : Jvm.MethodName) jdk_42_method_151_code (3 : Nat) (Option.none : Option Jvm.ClassFile.FieldType), Jvm.Cond.code ({ cls := "java/lang/Object", name := "<init>", desc := "()V" } : Jvm.MethodName) object_method_1_code (1 : Nat) (Option.none : Option Jvm.ClassFile.FieldType), Jvm.Cond.code ({ cls := "com/example/casewarden/casewarden/conformance/hmm/HmmVerdict", name := "<init>", desc := "(Ljava/lang/String;JLjava/lang/String;DJZ)V" } : Jvm.MethodName) prog_48_method_1_code (10 : Nat) (Option.none : Option Jvm.ClassFile.FieldType), Jvm.Cond.code ({ cls := "java/lang/Record", name := "<init>", desc := "()V" } : Jvm.MethodName) jdk_30_method_1_code (1 : Nat) (Option.none : Option Jvm.ClassFile.FieldType), Jvm.Cond.code ({ cls := "com/example/casewarden/casewarden/conformance/hmm/HmmVerdict", name := "completeness", desc := "()D" } : Jvm.MethodName) prog_48_method_2_code (1 : Nat) (Option.some Jvm.ClassFile.FieldType.double)]
set_option maxRecDepth 65536 in
theorem codes_eq : words1.filter isCode = codes1 := rfl
theorem w_codes : ∀ c ∈ words1.filter isCode, c.before args0 about1 = true := by
  rw [codes_eq]
  intro c hc
  simp only [codes1, List.mem_cons, List.not_mem_nil, or_false] at hc
  rcases hc with rfl | rfl | rfl | rfl | rfl | rfl | rfl | rfl | rfl
  · exact w_c0
  · exact w_c1
  · exact w_c2
  · exact w_c3
  · exact w_c4
  · exact w_c5
  · exact w_c6
  · exact w_c7
  · exact w_c8
set_option maxRecDepth 65536 in
theorem w_t1 : (words1.take 24).all (fun c => isCode c || c.before args0 about1) = true := by decide +kernel
set_option maxRecDepth 65536 in
theorem w_t2 : ((words1.drop 24).take 24).all (fun c => isCode c || c.before args0 about1) = true := by decide +kernel
set_option maxRecDepth 65536 in
theorem w_t3 : ((words1.drop 24).drop 24).all (fun c => isCode c || c.before args0 about1) = true := by decide +kernel
theorem w_tables : (allAtoms (Jvm.Cond.code x code maxLocals ret :: tables_1)).before args0 about1 = true := by
  rw [allAtoms_all]
  show words1.all (fun c => c.before args0 about1) = true
  refine all_split ?_ w_codes
  rw [← List.take_append_drop 24 words1, List.all_append, w_t1, ← List.take_append_drop 24 (words1.drop 24), List.all_append, w_t2, w_t3]
  rfl
set_option maxRecDepth 65536 in
theorem w_rest : rest_1_c.before args0 about1 = true := by decide +kernel
set_option maxRecDepth 65536 in
theorem w_case : (Jvm.Cond.and given_1 narrow_1).before args0 about1 = true := by decide +kernel
theorem w_applies : (headSpec (Jvm.Cond.code x code maxLocals ret :: tables_1) room_1).applies x e0.platform about1 = true :=
  (Spec.applies_iff w_frames).mpr ⟨w_running, w_runnable, w_alone, w_named, w_hears, w_ripe, w_room, w_tables⟩
theorem atStart : AtStart classFile x code maxLocals ret World_1 tables_1 room_1 Calls_1 rest_1 Pre_1 launch0 p0 e0 about1 theMethod args0 below0 :=
  ⟨lists_1, trivial, launch0.admits_env _ _ _, launch0.least_env, fairChoices_fair.cas, fairChoices_fair.clock, w_frames, w_args, w_heap, w_applies, trivial, w_rest, w_case⟩
end start1
theorem witness_1 : WitnessClaimed_1 := ⟨start1.p0, start1.e0, start1.about1, start1.theMethod, start1.args0, start1.below0, start1.atStart⟩
end Jvm.Pilot.@@N@@
