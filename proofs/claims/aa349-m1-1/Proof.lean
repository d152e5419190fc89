import JvmDerived
import JvmDerived.Pilot.@@N@@Statement
import JvmDerived.Pilot.@@N@@Code
set_option linter.unusedVariables false
set_option linter.unusedSimpArgs false
namespace Jvm.Pilot.@@N@@
namespace Own
open Jvm Jvm.ClassFile Sem Op Lib Jvm.Free Jvm.Stand Jvm.LawKit Jvm.RoadKit
/-! A WALK READ FORWARDS. 'Owe .. G T g': from the state T with the frame g on top the invocation comes back, and G holds of what it leaves. Each step's rule asks what is owed behind the step. -/
def Owe (tb : Tables) (e : Env) (below : List Frame) (G : Outcome → State → Prop) (T : State) (g : JFrame) : Prop := ∃ u o, Steps tb e below (T.setTop g) u ∧ u.status = .running ∧ Ended u below o ∧ G o u
theorem Owe.by {tb : Tables} {e : Env} {below : List Frame} {G : Outcome → State → Prop} {T T' : State} {g g' : JFrame} (k : ∀ t, Steps tb e below (T'.setTop g') t → Steps tb e below (T.setTop g) t) (h : Owe tb e below G T' g') : Owe tb e below G T g := by
  obtain ⟨u, o, h1, h2⟩ := h
  exact ⟨u, o, k _ h1, h2⟩
theorem Owe.cast {tb : Tables} {e : Env} {below : List Frame} {G : Outcome → State → Prop} {T : State} {g g' : JFrame} (q : g = g') (h : Owe tb e below G T g') : Owe tb e below G T g := q ▸ h
section Plain
variable {tb : Tables} [Ours tb] {e : Env} {below : List Frame} {G : Outcome → State → Prop} {T : State} {m : MethodId} {c : Code} {pc : Nat} {Ls : Array Slot} {st : List Value}
theorem Owe.aloadN (h : At T m c below) (hx : tb.exec = Jvm.exec) {k : Fin 4} {v : Value} (hd : decode c.code pc = .ok (.aload_n k, 1)) (hl : Ls[k.val]? = some (.val v)) (hv : v.isRef = true) (go : Owe tb e below G T (mkF m (pc + 1) Ls (v :: st))) : Owe tb e below G T (mkF m pc Ls st) := Owe.by (fun t k => XS.aloadN h hx rfl hd hl hv k) go
theorem Owe.aload (h : At T m c below) (hx : tb.exec = Jvm.exec) {k : Nat} {v : Value} (hd : decode c.code pc = .ok (.aload k, 2)) (hl : Ls[k]? = some (.val v)) (hv : v.isRef = true) (go : Owe tb e below G T (mkF m (pc + 2) Ls (v :: st))) : Owe tb e below G T (mkF m pc Ls st) := Owe.by (fun t k => XS.aload h hx rfl hd hl hv k) go
theorem Owe.iloadN (h : At T m c below) (hx : tb.exec = Jvm.exec) {k : Fin 4} {v : Int32} (hd : decode c.code pc = .ok (.iload_n k, 1)) (hl : Ls[k.val]? = some (.val (.int v))) (go : Owe tb e below G T (mkF m (pc + 1) Ls (.int v :: st))) : Owe tb e below G T (mkF m pc Ls st) := Owe.by (fun t k => XS.iloadN h hx rfl hd hl k) go
theorem Owe.iload (h : At T m c below) (hx : tb.exec = Jvm.exec) {k : Nat} {v : Int32} (hd : decode c.code pc = .ok (.iload k, 2)) (hl : Ls[k]? = some (.val (.int v))) (go : Owe tb e below G T (mkF m (pc + 2) Ls (.int v :: st))) : Owe tb e below G T (mkF m pc Ls st) := Owe.by (fun t k => XS.iload h hx rfl hd hl k) go
theorem Owe.iconst (h : At T m c below) (hx : tb.exec = Jvm.exec) {i : Int} (hd : decode c.code pc = .ok (.iconst i, 1)) {w : Int32} (hw : (Int32.ofInt i) = w) (go : Owe tb e below G T (mkF m (pc + 1) Ls (.int w :: st))) : Owe tb e below G T (mkF m pc Ls st) := by subst hw; exact Owe.by (fun t k => XS.iconst h hx rfl hd k) go
theorem Owe.bipush (h : At T m c below) (hx : tb.exec = Jvm.exec) {i : Int} (hd : decode c.code pc = .ok (.bipush i, 2)) {w : Int32} (hw : (Int8.ofInt i).toInt32 = w) (go : Owe tb e below G T (mkF m (pc + 2) Ls (.int w :: st))) : Owe tb e below G T (mkF m pc Ls st) := by subst hw; exact Owe.by (fun t k => XS.bipush h hx rfl hd k) go
theorem Owe.sipush (h : At T m c below) (hx : tb.exec = Jvm.exec) {i : Int} (hd : decode c.code pc = .ok (.sipush i, 3)) {w : Int32} (hw : (Int16.ofInt i).toInt32 = w) (go : Owe tb e below G T (mkF m (pc + 3) Ls (.int w :: st))) : Owe tb e below G T (mkF m pc Ls st) := by subst hw; exact Owe.by (fun t k => XS.sipush h hx rfl hd k) go
theorem Owe.aconstNull (h : At T m c below) (hx : tb.exec = Jvm.exec) (hd : decode c.code pc = .ok (.aconst_null, 1)) (go : Owe tb e below G T (mkF m (pc + 1) Ls (.null :: st))) : Owe tb e below G T (mkF m pc Ls st) := Owe.by (fun t k => XS.aconstNull h hx rfl hd k) go
theorem Owe.iadd (h : At T m c below) (hx : tb.exec = Jvm.exec) {x y : Int32} {rest : List Value} (hd : decode c.code pc = .ok (.iadd, 1)) (hs : st = .int y :: .int x :: rest) (go : Owe tb e below G T (mkF m (pc + 1) Ls (.int (x + y) :: rest))) : Owe tb e below G T (mkF m pc Ls st) := Owe.by (fun t k => XS.iadd h hx rfl hd hs k) go
theorem Owe.isub (h : At T m c below) (hx : tb.exec = Jvm.exec) {x y : Int32} {rest : List Value} (hd : decode c.code pc = .ok (.isub, 1)) (hs : st = .int y :: .int x :: rest) (go : Owe tb e below G T (mkF m (pc + 1) Ls (.int (x - y) :: rest))) : Owe tb e below G T (mkF m pc Ls st) := Owe.by (fun t k => XS.isub h hx rfl hd hs k) go
theorem Owe.imul (h : At T m c below) (hx : tb.exec = Jvm.exec) {x y : Int32} {rest : List Value} (hd : decode c.code pc = .ok (.imul, 1)) (hs : st = .int y :: .int x :: rest) (go : Owe tb e below G T (mkF m (pc + 1) Ls (.int (x * y) :: rest))) : Owe tb e below G T (mkF m pc Ls st) := Owe.by (fun t k => XS.imul h hx rfl hd hs k) go
theorem Owe.iand (h : At T m c below) (hx : tb.exec = Jvm.exec) {x y : Int32} {rest : List Value} (hd : decode c.code pc = .ok (.iand, 1)) (hs : st = .int y :: .int x :: rest) (go : Owe tb e below G T (mkF m (pc + 1) Ls (.int (x &&& y) :: rest))) : Owe tb e below G T (mkF m pc Ls st) := Owe.by (fun t k => XS.iand h hx rfl hd hs k) go
theorem Owe.ior (h : At T m c below) (hx : tb.exec = Jvm.exec) {x : Int32} {y : Int32} {rest : List Value} (hd : decode c.code pc = .ok (.ior, 1)) (hs : st = .int y :: .int x :: rest) (go : Owe tb e below G T (mkF m (pc + 1) Ls (.int (x ||| y) :: rest))) : Owe tb e below G T (mkF m pc Ls st) := Owe.by (fun t k => XS.ior h hx rfl hd hs k) go
theorem Owe.ixor (h : At T m c below) (hx : tb.exec = Jvm.exec) {x : Int32} {y : Int32} {rest : List Value} (hd : decode c.code pc = .ok (.ixor, 1)) (hs : st = .int y :: .int x :: rest) (go : Owe tb e below G T (mkF m (pc + 1) Ls (.int (x ^^^ y) :: rest))) : Owe tb e below G T (mkF m pc Ls st) := Owe.by (fun t k => XS.ixor h hx rfl hd hs k) go
theorem Owe.ishl (h : At T m c below) (hx : tb.exec = Jvm.exec) {x : Int32} {y : Int32} {rest : List Value} (hd : decode c.code pc = .ok (.ishl, 1)) (hs : st = .int y :: .int x :: rest) (go : Owe tb e below G T (mkF m (pc + 1) Ls (.int (x <<< (y &&& 31)) :: rest))) : Owe tb e below G T (mkF m pc Ls st) := Owe.by (fun t k => XS.ishl h hx rfl hd hs k) go
theorem Owe.ishr (h : At T m c below) (hx : tb.exec = Jvm.exec) {x : Int32} {y : Int32} {rest : List Value} (hd : decode c.code pc = .ok (.ishr, 1)) (hs : st = .int y :: .int x :: rest) (go : Owe tb e below G T (mkF m (pc + 1) Ls (.int (x >>> (y &&& 31)) :: rest))) : Owe tb e below G T (mkF m pc Ls st) := Owe.by (fun t k => XS.ishr h hx rfl hd hs k) go
theorem Owe.iushr (h : At T m c below) (hx : tb.exec = Jvm.exec) {x : Int32} {y : Int32} {rest : List Value} (hd : decode c.code pc = .ok (.iushr, 1)) (hs : st = .int y :: .int x :: rest) (go : Owe tb e below G T (mkF m (pc + 1) Ls (.int ((x.toUInt32 >>> (y &&& 31).toUInt32).toInt32) :: rest))) : Owe tb e below G T (mkF m pc Ls st) := Owe.by (fun t k => XS.iushr h hx rfl hd hs k) go
theorem Owe.irem (h : At T m c below) (hx : tb.exec = Jvm.exec) {x y : Int32} {rest : List Value} (hd : decode c.code pc = .ok (.irem, 1)) (hs : st = .int y :: .int x :: rest) (hy : y ≠ 0) (go : Owe tb e below G T (mkF m (pc + 1) Ls (.int (x - (x / y) * y) :: rest))) : Owe tb e below G T (mkF m pc Ls st) := Owe.by (fun t k => XS.irem h hx rfl hd hs hy k) go
theorem Owe.idiv (h : At T m c below) (hx : tb.exec = Jvm.exec) {x y : Int32} {rest : List Value} (hd : decode c.code pc = .ok (.idiv, 1)) (hs : st = .int y :: .int x :: rest) (hy : y ≠ 0) (go : Owe tb e below G T (mkF m (pc + 1) Ls (.int (x / y) :: rest))) : Owe tb e below G T (mkF m pc Ls st) := Owe.by (fun t k => XS.idiv h hx rfl hd hs hy k) go
theorem Owe.ineg (h : At T m c below) (hx : tb.exec = Jvm.exec) {x : Int32} {rest : List Value} (hd : decode c.code pc = .ok (.ineg, 1)) (hs : st = .int x :: rest) (go : Owe tb e below G T (mkF m (pc + 1) Ls (.int (-x) :: rest))) : Owe tb e below G T (mkF m pc Ls st) := Owe.by (fun t k => XS.ineg h hx rfl hd hs k) go
theorem Owe.iinc (h : At T m c below) (hx : tb.exec = Jvm.exec) {k : Nat} {cst : Int} {x : Int32} {l' : Array Slot} (hd : decode c.code pc = .ok (.iinc k cst, 3)) (hl : Ls[k]? = some (.val (.int x))) (hl' : storeLocals Ls k (.int (x + Int32.ofInt cst)) = some l') (go : Owe tb e below G T (mkF m (pc + 3) l' st)) : Owe tb e below G T (mkF m pc Ls st) := Owe.by (fun t k => XS.iinc h hx rfl hd hl hl' k) go
theorem Owe.dup (h : At T m c below) (hx : tb.exec = Jvm.exec) {x : Value} {rest : List Value} (hd : decode c.code pc = .ok (.dup, 1)) (hs : st = x :: rest) (hc : x.category = 1) (go : Owe tb e below G T (mkF m (pc + 1) Ls (x :: x :: rest))) : Owe tb e below G T (mkF m pc Ls st) := Owe.by (fun t k => XS.dup h hx rfl hd hs hc k) go
theorem Owe.pop (h : At T m c below) (hx : tb.exec = Jvm.exec) {x : Value} {rest : List Value} (hd : decode c.code pc = .ok (.pop, 1)) (hs : st = x :: rest) (hc : x.category = 1) (go : Owe tb e below G T (mkF m (pc + 1) Ls rest)) : Owe tb e below G T (mkF m pc Ls st) := Owe.by (fun t k => XS.pop h hx rfl hd hs hc k) go
theorem Owe.dupX1 (h : At T m c below) (hx : tb.exec = Jvm.exec) {x y : Value} {rest : List Value} (hd : decode c.code pc = .ok (.dup_x1, 1)) (hs : st = x :: y :: rest) (hc : x.category = 1) (hc2 : y.category = 1) (go : Owe tb e below G T (mkF m (pc + 1) Ls (x :: y :: x :: rest))) : Owe tb e below G T (mkF m pc Ls st) := Owe.by (fun t k => XS.dupX1 h hx rfl hd hs hc hc2 k) go
theorem Owe.dup2 (h : At T m c below) (hx : tb.exec = Jvm.exec) {x y : Value} {rest : List Value} (hd : decode c.code pc = .ok (.dup2, 1)) (hs : st = x :: y :: rest) (hc : x.category = 1) (hc' : y.category = 1) (go : Owe tb e below G T (mkF m (pc + 1) Ls (x :: y :: x :: y :: rest))) : Owe tb e below G T (mkF m pc Ls st) := Owe.by (fun t k => Jvm.Free.XT.dup2 h hx rfl hd hs hc hc' k) go
theorem Owe.istoreN (h : At T m c below) (hx : tb.exec = Jvm.exec) {k : Fin 4} {x : Int32} {rest : List Value} {l' : Array Slot} (hd : decode c.code pc = .ok (.istore_n k, 1)) (hs : st = .int x :: rest) (hl : storeLocals Ls k.val (.int x) = some l') (go : Owe tb e below G T (mkF m (pc + 1) l' rest)) : Owe tb e below G T (mkF m pc Ls st) := Owe.by (fun t k => XS.istoreN h hx rfl hd hs hl k) go
theorem Owe.istore (h : At T m c below) (hx : tb.exec = Jvm.exec) {k : Nat} {x : Int32} {rest : List Value} {l' : Array Slot} (hd : decode c.code pc = .ok (.istore k, 2)) (hs : st = .int x :: rest) (hl : storeLocals Ls k (.int x) = some l') (go : Owe tb e below G T (mkF m (pc + 2) l' rest)) : Owe tb e below G T (mkF m pc Ls st) := Owe.by (fun t k => XS.istore h hx rfl hd hs hl k) go
theorem Owe.astoreN (h : At T m c below) (hx : tb.exec = Jvm.exec) {k : Fin 4} {x : Value} {rest : List Value} {l' : Array Slot} (hd : decode c.code pc = .ok (.astore_n k, 1)) (hs : st = x :: rest) (hv : x.isRef = true) (hl : storeLocals Ls k.val x = some l') (go : Owe tb e below G T (mkF m (pc + 1) l' rest)) : Owe tb e below G T (mkF m pc Ls st) := Owe.by (fun t k => XS.astoreN h hx rfl hd hs hv hl k) go
theorem Owe.astore (h : At T m c below) (hx : tb.exec = Jvm.exec) {k : Nat} {x : Value} {rest : List Value} {l' : Array Slot} (hd : decode c.code pc = .ok (.astore k, 2)) (hs : st = x :: rest) (hv : x.isRef = true) (hl : storeLocals Ls k x = some l') (go : Owe tb e below G T (mkF m (pc + 2) l' rest)) : Owe tb e below G T (mkF m pc Ls st) := Owe.by (fun t k => XS.astore h hx rfl hd hs hv hl k) go
theorem Owe.goto (h : At T m c below) (hx : tb.exec = Jvm.exec) {o : Int} {pc' : Nat}  (hd : decode c.code pc = .ok (.goto o, 3)) (ho : 0 ≤ (pc : Int) + o) (hp : ((pc : Int) + o).toNat = pc') (go : Owe tb e below G T (mkF m pc' Ls st)) : Owe tb e below G T (mkF m pc Ls st) := Owe.by (fun t k => XS.goto h hx rfl rfl hd ho hp k) go
theorem Owe.ifYes (h : At T m c below) (hx : tb.exec = Jvm.exec) {cd : ClassFile.Cond} {x : Int32} {rest : List Value} {o : Int} {pc' : Nat}  (hd : decode c.code pc = .ok (.ifCond cd o, 3)) (hs : st = .int x :: rest) (hc : ifCond.holds cd x = true) (ho : 0 ≤ (pc : Int) + o) (hp : ((pc : Int) + o).toNat = pc') (go : Owe tb e below G T (mkF m pc' Ls rest)) : Owe tb e below G T (mkF m pc Ls st) := Owe.by (fun t k => XS.ifYes h hx rfl rfl hd hs hc ho hp k) go
theorem Owe.ifNo (h : At T m c below) (hx : tb.exec = Jvm.exec) {cd : ClassFile.Cond} {o : Int} {x : Int32} {rest : List Value} (hd : decode c.code pc = .ok (.ifCond cd o, 3)) (hs : st = .int x :: rest) (hc : ifCond.holds cd x = false) (go : Owe tb e below G T (mkF m (pc + 3) Ls rest)) : Owe tb e below G T (mkF m pc Ls st) := Owe.by (fun t k => XS.ifNo h hx rfl hd hs hc k) go
theorem Owe.icmpYes (h : At T m c below) (hx : tb.exec = Jvm.exec) {cd : ClassFile.Cond} {x y : Int32} {rest : List Value} {o : Int} {pc' : Nat}  (hd : decode c.code pc = .ok (.if_icmp cd o, 3)) (hs : st = .int y :: .int x :: rest) (hc : if_icmp.holds cd x y = true) (ho : 0 ≤ (pc : Int) + o) (hp : ((pc : Int) + o).toNat = pc') (go : Owe tb e below G T (mkF m pc' Ls rest)) : Owe tb e below G T (mkF m pc Ls st) := Owe.by (fun t k => XS.icmpYes h hx rfl rfl hd hs hc ho hp k) go
theorem Owe.icmpNo (h : At T m c below) (hx : tb.exec = Jvm.exec) {cd : ClassFile.Cond} {o : Int} {x y : Int32} {rest : List Value} (hd : decode c.code pc = .ok (.if_icmp cd o, 3)) (hs : st = .int y :: .int x :: rest) (hc : if_icmp.holds cd x y = false) (go : Owe tb e below G T (mkF m (pc + 3) Ls rest)) : Owe tb e below G T (mkF m pc Ls st) := Owe.by (fun t k => XS.icmpNo h hx rfl hd hs hc k) go
theorem Owe.ifnullYes (h : At T m c below) (hx : tb.exec = Jvm.exec) {rest : List Value} {o : Int} {pc' : Nat}  (hd : decode c.code pc = .ok (.ifnull o, 3)) (hs : st = .null :: rest) (ho : 0 ≤ (pc : Int) + o) (hp : ((pc : Int) + o).toNat = pc') (go : Owe tb e below G T (mkF m pc' Ls rest)) : Owe tb e below G T (mkF m pc Ls st) := Owe.by (fun t k => XS.ifnullYes h hx rfl rfl hd hs ho hp k) go
theorem Owe.ifnullNo (h : At T m c below) (hx : tb.exec = Jvm.exec) {o : Int} {b : Addr} {rest : List Value} (hd : decode c.code pc = .ok (.ifnull o, 3)) (hs : st = .ref b :: rest) (go : Owe tb e below G T (mkF m (pc + 3) Ls rest)) : Owe tb e below G T (mkF m pc Ls st) := Owe.by (fun t k => XS.ifnullNo h hx rfl hd hs k) go
theorem Owe.ifnonnullYes (h : At T m c below) (hx : tb.exec = Jvm.exec) {b : Addr} {rest : List Value} {o : Int} {pc' : Nat}  (hd : decode c.code pc = .ok (.ifnonnull o, 3)) (hs : st = .ref b :: rest) (ho : 0 ≤ (pc : Int) + o) (hp : ((pc : Int) + o).toNat = pc') (go : Owe tb e below G T (mkF m pc' Ls rest)) : Owe tb e below G T (mkF m pc Ls st) := Owe.by (fun t k => XS.ifnonnullYes h hx rfl rfl hd hs ho hp k) go
theorem Owe.ifnonnullNo (h : At T m c below) (hx : tb.exec = Jvm.exec) {o : Int} {rest : List Value} (hd : decode c.code pc = .ok (.ifnonnull o, 3)) (hs : st = .null :: rest) (go : Owe tb e below G T (mkF m (pc + 3) Ls rest)) : Owe tb e below G T (mkF m pc Ls st) := Owe.by (fun t k => XS.ifnonnullNo h hx rfl hd hs k) go
theorem Owe.acmpYes (h : At T m c below) (hx : tb.exec = Jvm.exec) {cd : ClassFile.ACond} {x y : Value} {rest : List Value} {o : Int} {pc' : Nat}  (hd : decode c.code pc = .ok (.if_acmp cd o, 3)) (hs : st = y :: x :: rest) (hx' : x.isRef = true) (hy' : y.isRef = true) (hc : Jvm.Free.XT.acmp cd x y = true) (ho : 0 ≤ (pc : Int) + o) (hp : ((pc : Int) + o).toNat = pc') (go : Owe tb e below G T (mkF m pc' Ls rest)) : Owe tb e below G T (mkF m pc Ls st) := Owe.by (fun t k => Jvm.Free.XT.acmpYes h hx rfl rfl hd hs hx' hy' hc ho hp k) go
theorem Owe.acmpNo (h : At T m c below) (hx : tb.exec = Jvm.exec) {cd : ClassFile.ACond} {o : Int} {x y : Value} {rest : List Value} (hd : decode c.code pc = .ok (.if_acmp cd o, 3)) (hs : st = y :: x :: rest) (hx' : x.isRef = true) (hy' : y.isRef = true) (hc : Jvm.Free.XT.acmp cd x y = false) (go : Owe tb e below G T (mkF m (pc + 3) Ls rest)) : Owe tb e below G T (mkF m pc Ls st) := Owe.by (fun t k => Jvm.Free.XT.acmpNo h hx rfl hd hs hx' hy' hc k) go
theorem Owe.ladd (h : At T m c below) (hx : tb.exec = Jvm.exec) {x : Int64} {y : Int64} {rest : List Value} (hd : decode c.code pc = .ok (.ladd, 1)) (hs : st = .long y :: .long x :: rest) (go : Owe tb e below G T (mkF m (pc + 1) Ls (.long (x + y) :: rest))) : Owe tb e below G T (mkF m pc Ls st) := Owe.by (fun t k => XS.ladd h hx rfl hd hs k) go
theorem Owe.lsub (h : At T m c below) (hx : tb.exec = Jvm.exec) {x : Int64} {y : Int64} {rest : List Value} (hd : decode c.code pc = .ok (.lsub, 1)) (hs : st = .long y :: .long x :: rest) (go : Owe tb e below G T (mkF m (pc + 1) Ls (.long (x - y) :: rest))) : Owe tb e below G T (mkF m pc Ls st) := Owe.by (fun t k => XS.lsub h hx rfl hd hs k) go
theorem Owe.lmul (h : At T m c below) (hx : tb.exec = Jvm.exec) {x : Int64} {y : Int64} {rest : List Value} (hd : decode c.code pc = .ok (.lmul, 1)) (hs : st = .long y :: .long x :: rest) (go : Owe tb e below G T (mkF m (pc + 1) Ls (.long (x * y) :: rest))) : Owe tb e below G T (mkF m pc Ls st) := Owe.by (fun t k => XS.lmul h hx rfl hd hs k) go
theorem Owe.land (h : At T m c below) (hx : tb.exec = Jvm.exec) {x : Int64} {y : Int64} {rest : List Value} (hd : decode c.code pc = .ok (.land, 1)) (hs : st = .long y :: .long x :: rest) (go : Owe tb e below G T (mkF m (pc + 1) Ls (.long (x &&& y) :: rest))) : Owe tb e below G T (mkF m pc Ls st) := Owe.by (fun t k => XS.land h hx rfl hd hs k) go
theorem Owe.lor (h : At T m c below) (hx : tb.exec = Jvm.exec) {x : Int64} {y : Int64} {rest : List Value} (hd : decode c.code pc = .ok (.lor, 1)) (hs : st = .long y :: .long x :: rest) (go : Owe tb e below G T (mkF m (pc + 1) Ls (.long (x ||| y) :: rest))) : Owe tb e below G T (mkF m pc Ls st) := Owe.by (fun t k => XS.lor h hx rfl hd hs k) go
theorem Owe.lxor (h : At T m c below) (hx : tb.exec = Jvm.exec) {x : Int64} {y : Int64} {rest : List Value} (hd : decode c.code pc = .ok (.lxor, 1)) (hs : st = .long y :: .long x :: rest) (go : Owe tb e below G T (mkF m (pc + 1) Ls (.long (x ^^^ y) :: rest))) : Owe tb e below G T (mkF m pc Ls st) := Owe.by (fun t k => XS.lxor h hx rfl hd hs k) go
theorem Owe.lshl (h : At T m c below) (hx : tb.exec = Jvm.exec) {x : Int64} {y : Int32} {rest : List Value} (hd : decode c.code pc = .ok (.lshl, 1)) (hs : st = .int y :: .long x :: rest) (go : Owe tb e below G T (mkF m (pc + 1) Ls (.long (x <<< (y &&& 0x3f).toInt64) :: rest))) : Owe tb e below G T (mkF m pc Ls st) := Owe.by (fun t k => XS.lshl h hx rfl hd hs k) go
theorem Owe.lshr (h : At T m c below) (hx : tb.exec = Jvm.exec) {x : Int64} {y : Int32} {rest : List Value} (hd : decode c.code pc = .ok (.lshr, 1)) (hs : st = .int y :: .long x :: rest) (go : Owe tb e below G T (mkF m (pc + 1) Ls (.long (x >>> (y &&& 0x3f).toInt64) :: rest))) : Owe tb e below G T (mkF m pc Ls st) := Owe.by (fun t k => XS.lshr h hx rfl hd hs k) go
theorem Owe.lushr (h : At T m c below) (hx : tb.exec = Jvm.exec) {x : Int64} {y : Int32} {rest : List Value} (hd : decode c.code pc = .ok (.lushr, 1)) (hs : st = .int y :: .long x :: rest) (go : Owe tb e below G T (mkF m (pc + 1) Ls (.long ((x.toUInt64 >>> (y &&& 0x3f).toInt64.toUInt64).toInt64) :: rest))) : Owe tb e below G T (mkF m pc Ls st) := Owe.by (fun t k => XS.lushr h hx rfl hd hs k) go
theorem Owe.lneg (h : At T m c below) (hx : tb.exec = Jvm.exec) {v : Int64} {rest : List Value} (hd : decode c.code pc = .ok (.lneg, 1)) (hs : st = .long v :: rest) (go : Owe tb e below G T (mkF m (pc + 1) Ls (.long (-v) :: rest))) : Owe tb e below G T (mkF m pc Ls st) := Owe.by (fun t k => XS.lneg h hx rfl hd hs k) go
theorem Owe.i2l (h : At T m c below) (hx : tb.exec = Jvm.exec) {v : Int32} {rest : List Value} (hd : decode c.code pc = .ok (.i2l, 1)) (hs : st = .int v :: rest) (go : Owe tb e below G T (mkF m (pc + 1) Ls (.long (v.toInt64) :: rest))) : Owe tb e below G T (mkF m pc Ls st) := Owe.by (fun t k => XS.i2l h hx rfl hd hs k) go
theorem Owe.l2i (h : At T m c below) (hx : tb.exec = Jvm.exec) {v : Int64} {rest : List Value} (hd : decode c.code pc = .ok (.l2i, 1)) (hs : st = .long v :: rest) (go : Owe tb e below G T (mkF m (pc + 1) Ls (.int (v.toInt32) :: rest))) : Owe tb e below G T (mkF m pc Ls st) := Owe.by (fun t k => XS.l2i h hx rfl hd hs k) go
theorem Owe.i2b (h : At T m c below) (hx : tb.exec = Jvm.exec) {v : Int32} {rest : List Value} (hd : decode c.code pc = .ok (.i2b, 1)) (hs : st = .int v :: rest) (go : Owe tb e below G T (mkF m (pc + 1) Ls (.int (v.toInt8.toInt32) :: rest))) : Owe tb e below G T (mkF m pc Ls st) := Owe.by (fun t k => XS.i2b h hx rfl hd hs k) go
theorem Owe.i2c (h : At T m c below) (hx : tb.exec = Jvm.exec) {v : Int32} {rest : List Value} (hd : decode c.code pc = .ok (.i2c, 1)) (hs : st = .int v :: rest) (go : Owe tb e below G T (mkF m (pc + 1) Ls (.int (v.toUInt32.toUInt16.toUInt32.toInt32) :: rest))) : Owe tb e below G T (mkF m pc Ls st) := Owe.by (fun t k => XS.i2c h hx rfl hd hs k) go
theorem Owe.i2s (h : At T m c below) (hx : tb.exec = Jvm.exec) {v : Int32} {rest : List Value} (hd : decode c.code pc = .ok (.i2s, 1)) (hs : st = .int v :: rest) (go : Owe tb e below G T (mkF m (pc + 1) Ls (.int (v.toInt16.toInt32) :: rest))) : Owe tb e below G T (mkF m pc Ls st) := Owe.by (fun t k => XS.i2s h hx rfl hd hs k) go
theorem Owe.lloadN (h : At T m c below) (hx : tb.exec = Jvm.exec) {k : Fin 4} {v : Int64} (hd : decode c.code pc = .ok (.lload_n k, 1)) (hl : Ls[k.val]? = some (.val (.long v))) (go : Owe tb e below G T (mkF m (pc + 1) Ls (.long v :: st))) : Owe tb e below G T (mkF m pc Ls st) := Owe.by (fun t k => XS.lloadN h hx rfl hd hl k) go
theorem Owe.lload (h : At T m c below) (hx : tb.exec = Jvm.exec) {k : Nat} {v : Int64} (hd : decode c.code pc = .ok (.lload k, 2)) (hl : Ls[k]? = some (.val (.long v))) (go : Owe tb e below G T (mkF m (pc + 2) Ls (.long v :: st))) : Owe tb e below G T (mkF m pc Ls st) := Owe.by (fun t k => XS.lload h hx rfl hd hl k) go
theorem Owe.lstoreN (h : At T m c below) (hx : tb.exec = Jvm.exec) {k : Fin 4} {x : Int64} {rest : List Value} {l' : Array Slot} (hd : decode c.code pc = .ok (.lstore_n k, 1)) (hs : st = .long x :: rest) (hl : storeLocals Ls k.val (.long x) = some l') (go : Owe tb e below G T (mkF m (pc + 1) l' rest)) : Owe tb e below G T (mkF m pc Ls st) := Owe.by (fun t k => XS.lstoreN h hx rfl hd hs hl k) go
theorem Owe.lstore (h : At T m c below) (hx : tb.exec = Jvm.exec) {k : Nat} {x : Int64} {rest : List Value} {l' : Array Slot} (hd : decode c.code pc = .ok (.lstore k, 2)) (hs : st = .long x :: rest) (hl : storeLocals Ls k (.long x) = some l') (go : Owe tb e below G T (mkF m (pc + 2) l' rest)) : Owe tb e below G T (mkF m pc Ls st) := Owe.by (fun t k => XS.lstore h hx rfl hd hs hl k) go
theorem Owe.lconst (h : At T m c below) (hx : tb.exec = Jvm.exec) {k : Fin 2} (hd : decode c.code pc = .ok (.lconst k, 1)) {w : Int64} (hw : (Int64.ofNat k) = w) (go : Owe tb e below G T (mkF m (pc + 1) Ls (.long w :: st))) : Owe tb e below G T (mkF m pc Ls st) := by subst hw; exact Owe.by (fun t k => XS.lconst h hx rfl hd k) go
theorem Owe.lcmp (h : At T m c below) (hx : tb.exec = Jvm.exec) {x y : Int64} {rest : List Value} (hd : decode c.code pc = .ok (.lcmp, 1)) (hs : st = .long y :: .long x :: rest) (go : Owe tb e below G T (mkF m (pc + 1) Ls (.int (lcmpW x y) :: rest))) : Owe tb e below G T (mkF m pc Ls st) := Owe.by (fun t k => XS.lcmp h hx rfl hd hs k) go
theorem Owe.tswIn (h : At T m c below) (hx : tb.exec = Jvm.exec) {dflt low high : Int} {offs : Array Int} {len : Nat} {o : Int} {pc' : Nat}  (hd : decode c.code pc = .ok (.tableswitch dflt low high offs, len)) {i : Int32} {rest : List Value} (hs : st = .int i :: rest) (hin : ¬ (i.toInt < low ∨ i.toInt > high)) (hoff : offs[(i.toInt - low).toNat]? = some o) (ho : 0 ≤ (pc : Int) + o) (hp : ((pc : Int) + o).toNat = pc') (go : Owe tb e below G T (mkF m pc' Ls rest)) : Owe tb e below G T (mkF m pc Ls st) := Owe.by (fun t k => XS.tswIn h hx rfl rfl hd hs hin hoff ho hp k) go
theorem Owe.tswOut (h : At T m c below) (hx : tb.exec = Jvm.exec) {dflt low high : Int} {offs : Array Int} {len : Nat} {pc' : Nat}  (hd : decode c.code pc = .ok (.tableswitch dflt low high offs, len)) {i : Int32} {rest : List Value} (hs : st = .int i :: rest) (hout : i.toInt < low ∨ i.toInt > high) (ho : 0 ≤ (pc : Int) + dflt) (hp : ((pc : Int) + dflt).toNat = pc') (go : Owe tb e below G T (mkF m pc' Ls rest)) : Owe tb e below G T (mkF m pc Ls st) := Owe.by (fun t k => XS.tswOut h hx rfl rfl hd hs hout ho hp k) go
theorem Owe.dload (h : At T m c below) (hx : tb.exec = Jvm.exec) {k : Nat} {v : UInt64} (hd : decode c.code pc = .ok (.dload k, 2)) (hl : Ls[k]? = some (.val (.double v))) (go : Owe tb e below G T (mkF m (pc + 2) Ls (.double v :: st))) : Owe tb e below G T (mkF m pc Ls st) := Owe.by (fun t k => XS.dload h hx rfl hd hl k) go
theorem Owe.dloadN (h : At T m c below) (hx : tb.exec = Jvm.exec) {k : Fin 4} {v : UInt64} (hd : decode c.code pc = .ok (.dload_n k, 1)) (hl : Ls[k.val]? = some (.val (.double v))) (go : Owe tb e below G T (mkF m (pc + 1) Ls (.double v :: st))) : Owe tb e below G T (mkF m pc Ls st) := Owe.by (fun t k => XS.dloadN h hx rfl hd hl k) go
theorem Owe.dstore (h : At T m c below) (hx : tb.exec = Jvm.exec) {k : Nat} {x : UInt64} {rest : List Value} {l' : Array Slot} (hd : decode c.code pc = .ok (.dstore k, 2)) (hs : st = .double x :: rest) (hl : storeLocals Ls k (.double x) = some l') (go : Owe tb e below G T (mkF m (pc + 2) l' rest)) : Owe tb e below G T (mkF m pc Ls st) := Owe.by (fun t k => XS.dstore h hx rfl hd hs hl k) go
theorem Owe.dstoreN (h : At T m c below) (hx : tb.exec = Jvm.exec) {k : Fin 4} {x : UInt64} {rest : List Value} {l' : Array Slot} (hd : decode c.code pc = .ok (.dstore_n k, 1)) (hs : st = .double x :: rest) (hl : storeLocals Ls k.val (.double x) = some l') (go : Owe tb e below G T (mkF m (pc + 1) l' rest)) : Owe tb e below G T (mkF m pc Ls st) := Owe.by (fun t k => XS.dstoreN h hx rfl hd hs hl k) go
theorem Owe.dconst0 (h : At T m c below) (hx : tb.exec = Jvm.exec) {v : UInt64} (hd : decode c.code pc = .ok (.dconst 0, 1)) (hv : FP.dconst0 = v) (go : Owe tb e below G T (mkF m (pc + 1) Ls (.double v :: st))) : Owe tb e below G T (mkF m pc Ls st) := Owe.by (fun t k => XS.dconst0 h hx rfl hd hv k) go
theorem Owe.dconst1 (h : At T m c below) (hx : tb.exec = Jvm.exec) {v : UInt64} (hd : decode c.code pc = .ok (.dconst 1, 1)) (hv : FP.dconst1 = v) (go : Owe tb e below G T (mkF m (pc + 1) Ls (.double v :: st))) : Owe tb e below G T (mkF m pc Ls st) := Owe.by (fun t k => XS.dconst1 h hx rfl hd hv k) go
theorem Owe.i2dS (h : At T m c below) (hx : tb.exec = Jvm.exec) {x : Int32} {v : UInt64} {rest : List Value} (hd : decode c.code pc = .ok (.i2d, 1)) (hs : st = .int x :: rest) (hv : FP.i2d x = v) (go : Owe tb e below G T (mkF m (pc + 1) Ls (.double v :: rest))) : Owe tb e below G T (mkF m pc Ls st) := Owe.by (fun t k => XS.i2dS h hx rfl hd hs hv k) go
theorem Owe.l2dS (h : At T m c below) (hx : tb.exec = Jvm.exec) {x : Int64} {v : UInt64} {rest : List Value} (hd : decode c.code pc = .ok (.l2d, 1)) (hs : st = .long x :: rest) (hv : FP.l2d x = v) (go : Owe tb e below G T (mkF m (pc + 1) Ls (.double v :: rest))) : Owe tb e below G T (mkF m pc Ls st) := Owe.by (fun t k => XS.l2dS h hx rfl hd hs hv k) go
theorem Owe.dcmpS (h : At T m c below) (hx : tb.exec = Jvm.exec) {o : CmpOp} {x y : UInt64} {v : Int32} {rest : List Value} (hd : decode c.code pc = .ok (.dcmp o, 1)) (hs : st = .double y :: .double x :: rest) (hv : cmpValue (FP.dcmp x y) o = v) (go : Owe tb e below G T (mkF m (pc + 1) Ls (.int v :: rest))) : Owe tb e below G T (mkF m pc Ls st) := Owe.by (fun t k => XS.dcmpS h hx rfl hd hs hv k) go
end Plain
section Heavy
variable {p : Program} {l : Launch} {e : Env} {R : Room} {s : State} {m : MethodId} {args : Array Value} {below : List Frame} {meth : Method} {c : Code} {T : State} {locs : List Loc} {cells slots : Nat} {Z : State} {a0 : Array Value} {h : Heap} {G : Outcome → State → Prop} {pc : Nat} {Ls : Array Slot} {st : List Value}
theorem Owe.ldcI (X : Stand p l e R s m args below meth c T locs cells slots) (hx : p.tables.exec = Jvm.exec) {own : String} {index : Nat} {v : Int32} (hown : s.vm.findClass own = some m.cls) (w : (Cond.constant own index v).before args s = true) (hd : decode c.code pc = .ok (.ldc index, 2)) (go : Owe p.tables e below G T (mkF m (pc + 2) Ls (.int v :: st))) : Owe p.tables e below G T (mkF m pc Ls st) :=
  Owe.by (X.ldcInt hx hown w (g := mkF m pc Ls st) rfl hd) go
theorem Owe.new (X : Stand p l e R s m args below meth c T locs cells slots) (hx : p.tables.exec = Jvm.exec) (hZ : Z.Warmed39 s.vm) {own C : String} {index n : Nat} (hown : s.vm.findClass own = some m.cls) (w : (Cond.classLink own index C).before a0 Z = true) (wi : (Cond.instantiable C n).before a0 Z = true) (wz : (Cond.initialized C).before a0 Z = true) (eT : T.heap = h) (hd : decode c.code pc = .ok (.new index, 3)) (hc : cells + 1 ≤ R.cells) (hl : slots + n ≤ R.slots)
    (go : ∀ (T' : State) (h' : Heap) (a : Addr), a = h.size → Stand p l e R s m args below meth c T' locs (cells + 1) (slots + n) → T'.heap = h' → Ext h h' → Exa Z h' a C → (∀ {O nm d : String} {ty : FieldType}, Laid Z a0 C O nm d → parseFieldDescriptor d = some ty → Fld Z h' a O nm d (defaultValue ty)) → Owe p.tables e below G T' (mkF m (pc + 3) Ls (.ref a :: st))) : Owe p.tables e below G T (mkF m pc Ls st) := by
  obtain ⟨T', h', X', e', E', A', D', -, st'⟩ := newO X hx hZ hown w wi wz eT (g := mkF m pc Ls st) rfl hd hc hl
  exact Owe.by st' (go T' h' _ rfl X' e' E' A' D')
theorem Owe.newarr (X : Stand p l e R s m args below meth c T locs cells slots) (hx : p.tables.exec = Jvm.exec) (hZ : Z.Warmed39 s.vm) {aty : ArrayType} (w : (Cond.arrayClass (newarray.typeOf aty)).before a0 Z = true) (eT : T.heap = h) (hd : decode c.code pc = .ok (.newarray aty, 2)) {n : Int32} {rest : List Value} (hs : st = .int n :: rest) (hn : ¬ n < 0) {cap : Nat} (hcap : n.toNatClampNeg ≤ cap) (hb : cap * 8 ≤ 536870912) (hc : cells + 1 ≤ R.cells) (hl : slots + cap ≤ R.slots)
    (go : ∀ (T' : State) (h' : Heap) (a : Addr) (k : ClassId), a = h.size → Stand p l e R s m args below meth c T' locs (cells + 1) (slots + cap) → T'.heap = h' → Ext h h' → Arv Z h' a k (newarray.typeOf aty) n [] (defaultValue (newarray.typeOf aty)) → Owe p.tables e below G T' (mkF m (pc + 2) Ls (.ref a :: rest))) : Owe p.tables e below G T (mkF m pc Ls st) := by
  obtain ⟨T', h', k, X', e', E', A', st'⟩ := newP X hx hZ w eT (g := mkF m pc Ls st) rfl hd hs hn hcap hb hc hl
  exact Owe.by st' (go T' h' _ k rfl X' e' E' (Arv.new A' hn))
theorem Owe.castore (X : Stand p l e R s m args below meth c T locs cells slots) (hx : p.tables.exec = Jvm.exec) (hZ : Z.Warmed39 s.vm) (eT : T.heap = h) {a : Addr} {k : ClassId} {n : Int32} {vs : List Value} {dv : Value} (V : Arv Z h a k .char n vs dv) {j x : Int32} (i : Nat) (hj : j.toNatClampNeg = i) (hi : i < vs.length) (hin : ¬ j < 0 ∧ j < n) (hd : decode c.code pc = .ok (.castore, 1)) {rest : List Value} (hs : st = .int x :: .int j :: .ref a :: rest)
    (go : ∀ (T' : State) (h' : Heap), Stand p l e R s m args below meth c T' (locs ++ [⟨a, j.toNatClampNeg⟩]) cells slots → T'.heap = h' → Wr h h' a j.toNatClampNeg (.int (nar .char x)) → Arv Z h' a k .char n (vs.set i (.int (nar .char x))) dv → Owe p.tables e below G T' (mkF m (pc + 1) Ls rest)) : Owe p.tables e below G T (mkF m pc Ls st) := by
  obtain ⟨cl, A, q, S, M, H, U⟩ := V
  obtain ⟨T', h', X', e', W', st'⟩ := stC X hx hZ eT A (j := j) (inb_of S hin) (g := mkF m pc Ls st) rfl hs hd
  exact Owe.by st' (go T' h' X' e' W' (Arv.set A q S M H U (fits_nar_char _) W' i hj hi))
theorem Owe.bastore (X : Stand p l e R s m args below meth c T locs cells slots) (hx : p.tables.exec = Jvm.exec) (hZ : Z.Warmed39 s.vm) (eT : T.heap = h) {a : Addr} {k : ClassId} {n : Int32} {vs : List Value} {dv : Value} (V : Arv Z h a k .byte n vs dv) {j x : Int32} (i : Nat) (hj : j.toNatClampNeg = i) (hi : i < vs.length) (hin : ¬ j < 0 ∧ j < n) (hd : decode c.code pc = .ok (.bastore, 1)) {rest : List Value} (hs : st = .int x :: .int j :: .ref a :: rest)
    (go : ∀ (T' : State) (h' : Heap), Stand p l e R s m args below meth c T' (locs ++ [⟨a, j.toNatClampNeg⟩]) cells slots → T'.heap = h' → Wr h h' a j.toNatClampNeg (.int (x.toInt8.toInt32)) → Arv Z h' a k .byte n (vs.set i (.int (x.toInt8.toInt32))) dv → Owe p.tables e below G T' (mkF m (pc + 1) Ls rest)) : Owe p.tables e below G T (mkF m pc Ls st) := by
  obtain ⟨cl, A, q, S, M, H, U⟩ := V
  obtain ⟨T', h', X', e', W', st'⟩ := stB X hx hZ eT A (j := j) (inb_of S hin) (g := mkF m pc Ls st) rfl hs hd
  exact Owe.by st' (go T' h' X' e' W' (Arv.set A q S M H U (fits_nar_byte _) W' i hj hi))
theorem Owe.caload (X : Stand p l e R s m args below meth c T locs cells slots) (hx : p.tables.exec = Jvm.exec) (hZ : Z.Warmed39 s.vm) (eT : T.heap = h) {a : Addr} {k : ClassId} {n : Int32} {vs : List Value} {dv : Value} (V : Arv Z h a k .char n vs dv) {j : Int32} {v : Value} (hin : ¬ j < 0 ∧ j < n) (hv : vs.getD j.toNatClampNeg dv = v) (hd : decode c.code pc = .ok (.caload, 1)) {rest : List Value} (hs : st = .int j :: .ref a :: rest)
    (go : Owe p.tables e below G T (mkF m (pc + 1) Ls (v :: rest))) : Owe p.tables e below G T (mkF m pc Ls st) := by
  obtain ⟨cl, A, q, S, M, H, U⟩ := V
  exact Owe.by (fun t k => X.caload hx (by rw [eT]; exact A.1) (State.isArrayOf_alike hZ.alike A.2.1) A.2.2 (inb_of S hin) (H.at (inb_of S hin) hv) (g := mkF m pc Ls st) rfl hs hd t k) go
theorem Owe.arrlen (X : Stand p l e R s m args below meth c T locs cells slots) (hx : p.tables.exec = Jvm.exec) (hZ : Z.Warmed39 s.vm) (eT : T.heap = h) {a : Addr} {k : ClassId} {ty : FieldType} {n : Int32} {vs : List Value} {dv : Value} (V : Arv Z h a k ty n vs dv) (hd : decode c.code pc = .ok (.arraylength, 1)) {rest : List Value} (hs : st = .ref a :: rest)
    (go : Owe p.tables e below G T (mkF m (pc + 1) Ls (.int n :: rest))) : Owe p.tables e below G T (mkF m pc Ls st) := by
  obtain ⟨cl, A, q, S, M, H, U⟩ := V
  refine Owe.by (fun t k => X.arraylength hx (by rw [eT]; exact A.1) (State.isArrayOf_alike hZ.alike A.2.1) (g := mkF m pc Ls st) rfl hs hd t ?_) go
  rw [len_of S M]; exact k
theorem Owe.getf (X : Stand p l e R s m args below meth c T locs cells slots) (hx : p.tables.exec = Jvm.exec) (hZ : Z.Warmed39 s.vm) {own R0 O n d host : String} {index : Nat} (hown : s.vm.findClass own = some m.cls) (w : (Cond.fieldLink own index R0 n d).before a0 Z = true ∨ (Cond.fieldLinkNest own index R0 n d host).before a0 Z = true) (via : Via Z R0 O n d) (eT : T.heap = h) {a : Addr} {v : Value} (F : Fld Z h a O n d v) (hd : decode c.code pc = .ok (.getfield index, 3)) {rest : List Value} (hs : st = .ref a :: rest)
    (go : ∀ T' : State, Stand p l e R s m args below meth c T' locs cells slots → T'.heap = h → Owe p.tables e below G T' (mkF m (pc + 3) Ls (v :: rest))) : Owe p.tables e below G T (mkF m pc Ls st) := by
  obtain ⟨T', X', e', st'⟩ := getF X hx hZ hown w via eT F (g := mkF m pc Ls st) rfl hs hd
  exact Owe.by st' (go T' X' e')
theorem Owe.gets (X : Stand p l e R s m args below meth c T locs cells slots) (hx : p.tables.exec = Jvm.exec) (hZ : Z.Warmed39 s.vm) {own R0 O n d : String} {index : Nat} (hown : s.vm.findClass own = some m.cls) (w : (Cond.fieldLink own index R0 n d).before a0 Z = true) (via : Via Z R0 O n d) (eT : T.heap = h) {v : Value} (F : Sta Z h O n d v) (hd : decode c.code pc = .ok (.getstatic index, 3))
    (go : ∀ T' : State, Stand p l e R s m args below meth c T' locs cells slots → T'.heap = h → Owe p.tables e below G T' (mkF m (pc + 3) Ls (v :: st))) : Owe p.tables e below G T (mkF m pc Ls st) := by
  obtain ⟨T', X', e', st'⟩ := getS X hx hZ (host := "") hown w via eT F (g := mkF m pc Ls st) rfl hd
  exact Owe.by st' (go T' X' e')
theorem Owe.putf (X : Stand p l e R s m args below meth c T locs cells slots) (hx : p.tables.exec = Jvm.exec) (hZ : Z.Warmed39 s.vm) {own R0 O n d host C : String} {index kk : Nat} {ty : FieldType} (hown : s.vm.findClass own = some m.cls) (w : (Cond.fieldLink own index R0 n d).before a0 Z = true ∨ (Cond.fieldLinkNest own index R0 n d host).before a0 Z = true) (via : Via Z R0 O n d) (eT : T.heap = h) {a : Addr} {v old : Value} (F : Fld Z h a O n d old) (E : Exa Z h a C)
    (L : (Cond.lays C O n d).before a0 Z = true ∨ ((Cond.laysFinal C O n d).before a0 Z = true ∧ own = O ∧ meth.name = "<init>")) (wi : (Cond.instantiable C kk).before a0 Z = true) (hty : parseFieldDescriptor d = some ty) (hn : narrow ty v = v) (hf : fits ty v = true) (hd : decode c.code pc = .ok (.putfield index, 3)) {rest : List Value} (hs : st = v :: .ref a :: rest)
    (go : ∀ (T' : State) (h' : Heap), Stand p l e R s m args below meth c T' (locs ++ [⟨a, Jvm.RoadKit.slotOf Z O n d⟩]) cells slots → T'.heap = h' → Wr h h' a (Jvm.RoadKit.slotOf Z O n d) v → Owe p.tables e below G T' (mkF m (pc + 3) Ls rest)) : Owe p.tables e below G T (mkF m pc Ls st) := by
  obtain ⟨T', h', X', e', W', st'⟩ := putF X hx hZ hown w via eT F E L wi hty hn hf (g := mkF m pc Ls st) rfl hs hd
  exact Owe.by st' (go T' h' X' e' W')
theorem Owe.objinit (X : Stand p l e R s m args below meth c T locs cells slots) (hx : p.tables.exec = Jvm.exec) (hZ : Z.Warmed39 s.vm) {own : String} {idx : Nat} (hown : s.vm.findClass own = some m.cls) (w1 : (Cond.methodLink own idx Lib.objectInit).before a0 Z = true) (w2 : (Cond.instanceMethod Lib.objectInit).before a0 Z = true) (w3 : (Cond.code Lib.objectInit ⟨#[0xb1]⟩ 1 none).before a0 Z = true) (eT : T.heap = h) (hsize : Ls.size = c.maxLocals) {a : Addr} {rest : List Value} (hs : st = .ref a :: rest) (hd : decode c.code pc = .ok (.invokespecial idx, 3)) (hf : 1 ≤ R.frames) {W : Nat} (hW : (rest.map fun v => v.category).sum ≤ W) (hl : W + 12 ≤ R.locals)
    (go : ∀ T' : State, Stand p l e R s m args below meth c T' locs cells slots → T'.heap = h → Owe p.tables e below G T' (mkF m (pc + 3) Ls rest)) : Owe p.tables e below G T (mkF m pc Ls st) := by
  obtain ⟨T', X', e', st'⟩ := initO X hx hZ hown w1 w2 w3 eT (g := mkF m pc Ls st) rfl hsize hs hd hf (W := W) (by show 2 * 0 + _ ≤ W; omega) hl
  exact Owe.by st' (go T' X' e')
theorem Owe.castY (X : Stand p l e R s m args below meth c T locs cells slots) (hx : p.tables.exec = Jvm.exec) (hZ : Z.Warmed39 s.vm) {own K : String} {index : Nat} (hown : s.vm.findClass own = some m.cls) (w : (Cond.classLink own index K).before a0 Z = true) (eT : T.heap = h) {a : Addr} (F : Ins Z h a K true) (hd : decode c.code pc = .ok (.checkcast index, 3)) {rest : List Value} (hs : st = .ref a :: rest)
    (go : ∀ T' : State, Stand p l e R s m args below meth c T' locs cells slots → T'.heap = h → Owe p.tables e below G T' (mkF m (pc + 3) Ls st)) : Owe p.tables e below G T (mkF m pc Ls st) := by
  obtain ⟨T', X', e', st'⟩ := Jvm.RoadKit.castY X hx hZ hown w eT F (g := mkF m pc Ls st) rfl hs hd
  exact Owe.by st' (go T' X' e')
theorem Owe.instY (X : Stand p l e R s m args below meth c T locs cells slots) (hx : p.tables.exec = Jvm.exec) (hZ : Z.Warmed39 s.vm) {own K : String} {index : Nat} (hown : s.vm.findClass own = some m.cls) (w : (Cond.classLink own index K).before a0 Z = true) (eT : T.heap = h) {a : Addr} (F : Ins Z h a K true) (hd : decode c.code pc = .ok (.instanceof index, 3)) {rest : List Value} (hs : st = .ref a :: rest)
    (go : ∀ T' : State, Stand p l e R s m args below meth c T' locs cells slots → T'.heap = h → Owe p.tables e below G T' (mkF m (pc + 3) Ls (.int 1 :: rest))) : Owe p.tables e below G T (mkF m pc Ls st) := by
  obtain ⟨T', X', e', st'⟩ := Jvm.RoadKit.instY X hx hZ hown w eT F (g := mkF m pc Ls st) rfl hs hd
  exact Owe.by st' (go T' X' e')
theorem Owe.instNo (X : Stand p l e R s m args below meth c T locs cells slots) (hx : p.tables.exec = Jvm.exec) (hZ : Z.Warmed39 s.vm) {own K C : String} {index : Nat} (hown : s.vm.findClass own = some m.cls) (w : (Cond.classLink own index K).before a0 Z = true) (eT : T.heap = h) {a : Addr} (E : Exa Z h a C) (F : ∃ c t, Z.vm.findClass C = some c ∧ Z.vm.findClass K = some t ∧ Z.vm.assignable c t = false) (hd : decode c.code pc = .ok (.instanceof index, 3)) {rest : List Value} (hs : st = .ref a :: rest)
    (go : ∀ T' : State, Stand p l e R s m args below meth c T' locs cells slots → T'.heap = h → Owe p.tables e below G T' (mkF m (pc + 3) Ls (.int 0 :: rest))) : Owe p.tables e below G T (mkF m pc Ls st) := by
  obtain ⟨T', X', e', st'⟩ := Jvm.RoadKit.instNo X hx hZ hown w eT E F (g := mkF m pc Ls st) rfl hs hd
  exact Owe.by st' (go T' X' e')
theorem Owe.instNull (X : Stand p l e R s m args below meth c T locs cells slots) (hx : p.tables.exec = Jvm.exec) {index : Nat} (hd : decode c.code pc = .ok (.instanceof index, 3)) {rest : List Value} (hs : st = .null :: rest) (go : Owe p.tables e below G T (mkF m (pc + 3) Ls (.int 0 :: rest))) : Owe p.tables e below G T (mkF m pc Ls st) :=
  Owe.by (Jvm.Stand.instanceofNull X hx (g := mkF m pc Ls st) rfl hs hd) go
theorem Owe.aaload (X : Stand p l e R s m args below meth c T locs cells slots) (hx : p.tables.exec = Jvm.exec) (hZ : Z.Warmed39 s.vm) (eT : T.heap = h) {a : Addr} {cl : Cell} {ty : FieldType} (A : Jvm.RoadKit.Arr Z h a cl ty) (hty : ty.isReference = true) {j : Int32} {v : Value} (hin : ¬ (j < 0 ∨ cl.slots.size ≤ j.toNatClampNeg)) (hv : cl.slots[j.toNatClampNeg]? = some v) (hd : decode c.code pc = .ok (.aaload, 1)) {rest : List Value} (hs : st = .int j :: .ref a :: rest)
    (go : Owe p.tables e below G T (mkF m (pc + 1) Ls (v :: rest))) : Owe p.tables e below G T (mkF m pc Ls st) :=
  Owe.by (fun t k => X.aaload hx (by rw [eT]; exact A.1) (State.isArrayOf_alike hZ.alike A.2.1) hty A.2.2 hin hv (g := mkF m pc Ls st) rfl hs hd t k) go
/-! calls by a contract in the Back form of 'backOf' and of the pasted String laws -/
variable {y z : MethodName} {as' : Array Value} {Q : Option Value → Heap → List Loc → Prop} {W kc ks : Nat}
theorem Owe.special (X : Stand p l e R s m args below meth c T locs cells slots) (hx : p.tables.exec = Jvm.exec) {own : String} {index : Nat} (hy1 : y.name = "<init>") (hown : s.vm.findClass own = some m.cls) (hlink : (Cond.methodLink own index y).before args s = true) (hinst : (Cond.instanceMethod y).before args s = true) {bytes : ByteArray} {maxL : Nat} (hcode : (Cond.code y bytes maxL none).before args s = true) (hy : y.cls ≠ "java/lang/invoke/MethodHandle" ∧ y.cls ≠ "java/lang/invoke/VarHandle")
    (hK : Back l R p e below s args y 3 W (fun A a => a = as' ∧ A.U.heap = h ∧ A.cells + kc ≤ R.cells ∧ A.slots + ks ≤ R.slots) (fun A _ v B => ∃ L, Q v B.U.heap L ∧ B.locs = A.locs ++ L ∧ B.cells = A.cells + kc ∧ B.slots = A.slots + ks))
    (hsize : Ls.size = c.maxLocals) {a : Addr} {argsL rest : List Value} (hlen : ∀ sig, parseMethodDescriptor y.desc = some sig → argsL.length = sig.parameters.length) (hs : st = argsL.reverse ++ .ref a :: rest) (hW : (rest.map fun v => v.category).sum ≤ W) (hd : decode c.code pc = .ok (.invokespecial index, 3))
    (has : (.ref a :: argsL).toArray = as') (eT : T.heap = h) (hc : cells + kc ≤ R.cells) (hl : slots + ks ≤ R.slots)
    (go : ∀ (T' : State) (v : Option Value) (L : List Loc), Stand p l e R s m args below meth c T' (locs ++ L) (cells + kc) (slots + ks) → Q v T'.heap L → Owe p.tables e below G T' (mkF m (pc + 3) Ls (v.toList ++ rest))) : Owe p.tables e below G T (mkF m pc Ls st) := by
  obtain ⟨v, _, ⟨T', L', k', n'⟩, -, X', ⟨L, hQ, l', y', z'⟩, st'⟩ := X.specialBack hx hy1 hown hlink hinst hcode hy hK (g := mkF m pc Ls st) rfl hsize (Steps.refl _) hlen hs (by show 2 * 0 + _ ≤ W; omega) hd (fun _ _ => ⟨has, eT, hc, hl⟩)
  dsimp only [Pt.U, Pt.locs, Pt.cells, Pt.slots] at X' l' y' z' st' hQ
  subst l' y' z'
  exact Owe.by (fun t k => st'.trans k) (go T' v L X' hQ)
theorem Owe.virt (X : Stand p l e R s m args below meth c T locs cells slots) (hx : p.tables.exec = Jvm.exec) (hZ : Z.Warmed39 s.vm) {own C : String} {index : Nat} (hown : s.vm.findClass own = some m.cls) (hlink : (Cond.methodLink own index y).before args s = true) (hdecl : (Cond.declares y).before args s = true) (hsel : (Cond.selects C y z).before args s = true) (hinst : (Cond.instanceMethod z).before args s = true) (hnf : NotFace s y) (hy : y.cls ≠ "java/lang/invoke/MethodHandle" ∧ y.cls ≠ "java/lang/invoke/VarHandle")
    (hK : Back l R p e below s args z 3 W (fun A a => a = as' ∧ A.U.heap = h ∧ A.cells + kc ≤ R.cells ∧ A.slots + ks ≤ R.slots) (fun A _ v B => ∃ L, Q v B.U.heap L ∧ B.locs = A.locs ++ L ∧ B.cells = A.cells + kc ∧ B.slots = A.slots + ks))
    (hsize : Ls.size = c.maxLocals) {a : Addr} {argsL rest : List Value} (E : Exa Z h a C) (hlen : ∀ sig, parseMethodDescriptor y.desc = some sig → argsL.length = sig.parameters.length) (hs : st = argsL.reverse ++ .ref a :: rest) (hW : (rest.map fun v => v.category).sum ≤ W) (hd : decode c.code pc = .ok (.invokevirtual index, 3))
    (has : (.ref a :: argsL).toArray = as') (eT : T.heap = h) (hc : cells + kc ≤ R.cells) (hl : slots + ks ≤ R.slots)
    (go : ∀ (T' : State) (v : Option Value) (L : List Loc), Stand p l e R s m args below meth c T' (locs ++ L) (cells + kc) (slots + ks) → Q v T'.heap L → Owe p.tables e below G T' (mkF m (pc + 3) Ls (v.toList ++ rest))) : Owe p.tables e below G T (mkF m pc Ls st) := by
  obtain ⟨cq, kq, qa, qb, qc⟩ := isOf hZ eT E
  obtain ⟨v, _, ⟨T', L', k', n'⟩, -, X', ⟨L, hQ, l', y', z'⟩, st'⟩ := X.virtualBack hx hown hlink hdecl hnf hsel hinst hy hK qa qc (g := mkF m pc Ls st) rfl hsize (Steps.refl _) hlen hs (by show 2 * 0 + _ ≤ W; omega) hd (fun _ _ => ⟨has, eT, hc, hl⟩)
  dsimp only [Pt.U, Pt.locs, Pt.cells, Pt.slots] at X' l' y' z' st' hQ
  subst l' y' z'
  exact Owe.by (fun t k => st'.trans k) (go T' v L X' hQ)
theorem Owe.virtUp (X : Stand p l e R s m args below meth c T locs cells slots) (hx : p.tables.exec = Jvm.exec) (hZ : Z.Warmed39 s.vm) {own C owner : String} {index : Nat} (hown : s.vm.findClass own = some m.cls) (hlink : (Cond.methodLink own index y).before args s = true) (hsame : (Cond.sameMethod y.cls owner y.name y.desc).before args s = true) (hdecl : (Cond.declares ⟨owner, y.name, y.desc⟩).before args s = true) (howner : owner ≠ "java/lang/invoke/MethodHandle" ∧ owner ≠ "java/lang/invoke/VarHandle") (hsel : (Cond.selects C y z).before args s = true) (hinst : (Cond.instanceMethod z).before args s = true)
    (hK : Back l R p e below s args z 3 W (fun A a => a = as' ∧ A.U.heap = h ∧ A.cells + kc ≤ R.cells ∧ A.slots + ks ≤ R.slots) (fun A _ v B => ∃ L, Q v B.U.heap L ∧ B.locs = A.locs ++ L ∧ B.cells = A.cells + kc ∧ B.slots = A.slots + ks))
    (hsize : Ls.size = c.maxLocals) {a : Addr} {argsL rest : List Value} (E : Exa Z h a C) (hlen : ∀ sig, parseMethodDescriptor y.desc = some sig → argsL.length = sig.parameters.length) (hs : st = argsL.reverse ++ .ref a :: rest) (hW : (rest.map fun v => v.category).sum ≤ W) (hd : decode c.code pc = .ok (.invokevirtual index, 3))
    (has : (.ref a :: argsL).toArray = as') (eT : T.heap = h) (hc : cells + kc ≤ R.cells) (hl : slots + ks ≤ R.slots)
    (go : ∀ (T' : State) (v : Option Value) (L : List Loc), Stand p l e R s m args below meth c T' (locs ++ L) (cells + kc) (slots + ks) → Q v T'.heap L → Owe p.tables e below G T' (mkF m (pc + 3) Ls (v.toList ++ rest))) : Owe p.tables e below G T (mkF m pc Ls st) := by
  obtain ⟨cq, kq, qa, qb, qc⟩ := isOf hZ eT E
  obtain ⟨v, _, ⟨T', L', k', n'⟩, -, X', ⟨L, hQ, l', y', z'⟩, st'⟩ := X.virtualBackUp hx hown hlink hsame hdecl howner hsel hinst hK qa qc (g := mkF m pc Ls st) rfl hsize (Steps.refl _) hlen hs (by show 2 * 0 + _ ≤ W; omega) hd (fun _ _ => ⟨has, eT, hc, hl⟩)
  dsimp only [Pt.U, Pt.locs, Pt.cells, Pt.slots] at X' l' y' z' st' hQ
  subst l' y' z'
  exact Owe.by (fun t k => st'.trans k) (go T' v L X' hQ)
theorem Owe.stat (X : Stand p l e R s m args below meth c T locs cells slots) (hx : p.tables.exec = Jvm.exec) {own : String} {index : Nat} {bytes : ByteArray} {maxL : Nat} {ret : Option FieldType} (hown : s.vm.findClass own = some m.cls) (hlink : (Cond.methodLink own index y).before args s = true) (hstat : (Cond.static y).before args s = true) (hinit : (Cond.initialized y.cls).before args s = true) (hcode : (Cond.code y bytes maxL ret).before args s = true) (hy : y.cls ≠ "java/lang/invoke/MethodHandle" ∧ y.cls ≠ "java/lang/invoke/VarHandle")
    (hK : Back l R p e below s args y 3 W (fun A a => a = as' ∧ A.U.heap = h ∧ A.cells + kc ≤ R.cells ∧ A.slots + ks ≤ R.slots) (fun A _ v B => ∃ L, Q v B.U.heap L ∧ B.locs = A.locs ++ L ∧ B.cells = A.cells + kc ∧ B.slots = A.slots + ks))
    (hsize : Ls.size = c.maxLocals) {argsL rest : List Value} (hlen : ∀ sig, parseMethodDescriptor y.desc = some sig → argsL.length = sig.parameters.length) (hs : st = argsL.reverse ++ rest) (hW : (rest.map fun v => v.category).sum ≤ W) (hd : decode c.code pc = .ok (.invokestatic index, 3))
    (has : argsL.toArray = as') (eT : T.heap = h) (hc : cells + kc ≤ R.cells) (hl : slots + ks ≤ R.slots)
    (go : ∀ (T' : State) (v : Option Value) (L : List Loc), Stand p l e R s m args below meth c T' (locs ++ L) (cells + kc) (slots + ks) → Q v T'.heap L → Owe p.tables e below G T' (mkF m (pc + 3) Ls (v.toList ++ rest))) : Owe p.tables e below G T (mkF m pc Ls st) := by
  obtain ⟨v, _, ⟨T', L', k', n'⟩, -, X', ⟨L, hQ, l', y', z'⟩, st'⟩ := Jvm.LawKit.callS X hx hown hlink hstat hinit hcode hy hK (g := mkF m pc Ls st) rfl hsize hlen hs (by show 2 * 0 + _ ≤ W; omega) hd (fun _ _ => ⟨has, eT, hc, hl⟩)
  dsimp only [Pt.U, Pt.locs, Pt.cells, Pt.slots] at X' l' y' z' st' hQ
  subst l' y' z'
  exact Owe.by st' (go T' v L X' hQ)
/-! the end: it returns -/
theorem Owe.retN (X : Stand p l e R s m args below meth c T locs cells slots) (hx : p.tables.exec = Jvm.exec) (hlk : meth.locks = false) {z : Int32} {t : FieldType} {rest : List Value} (hret : meth.sig.returnType = some t) (ht : t = .boolean ∨ t = .byte ∨ t = .char ∨ t = .short) (hd : decode c.code pc = .ok (.ireturn, 1)) (hs : st = .int z :: rest)
    (go : ∀ fs : List Frame, FrameEnd s (.returned (some (.int (nar t z)))) (T.setFrames fs) locs cells slots → G (.returned (some (.int (nar t z)))) (T.setFrames fs)) : Owe p.tables e below G T (mkF m pc Ls st) := by
  subst hs
  obtain ⟨fs, hr, hrun, hended, hW, hsame⟩ := X.leave (v := some (.int (nar t z))) (fun h => by rw [hret] at h; cases h) hlk
  exact ⟨_, _, Jvm.RoadKit.retN X hx hret ht hd hr, hrun, hended, go fs ⟨⟨_, rfl⟩, hW, hsame⟩⟩
theorem Owe.retI (X : Stand p l e R s m args below meth c T locs cells slots) (hx : p.tables.exec = Jvm.exec) (hlk : meth.locks = false) {z : Int32} {rest : List Value} (hret : meth.sig.returnType = some .int) (hd : decode c.code pc = .ok (.ireturn, 1)) (hs : st = .int z :: rest)
    (go : ∀ fs : List Frame, FrameEnd s (.returned (some (.int z))) (T.setFrames fs) locs cells slots → G (.returned (some (.int z))) (T.setFrames fs)) : Owe p.tables e below G T (mkF m pc Ls st) := by
  subst hs
  obtain ⟨fs, hr, hrun, hended, hW, hsame⟩ := X.leave (v := some (.int z)) (fun h => by rw [hret] at h; cases h) hlk
  have hm' : T.vm.method? m = some meth := X.method'
  have hn : narrow .int (.int z) = .int z := rfl
  refine ⟨_, _, ?_, hrun, hended, go fs ⟨⟨_, rfl⟩, hW, hsame⟩⟩
  show Steps p.tables e below (T.setTop { method := m, pc := pc, locals := Ls, stack := _ :: rest, locked := none }) _
  jvm_step X.here [X.here.top, hx, hd, hm', hret, hn]
  first | (intro acts; rw [hr _ acts rfl rfl rfl]) | rw [hr _ _ rfl rfl rfl]
  exact Steps.refl _
theorem Owe.retR (X : Stand p l e R s m args below meth c T locs cells slots) (hx : p.tables.exec = Jvm.exec) (hlk : meth.locks = false) {w : Value} {t : FieldType} {rest : List Value} (hret : meth.sig.returnType = some t) (hn : narrow t w = w) (ht : t.isReference = true) (hw : w.isRef = true) (hd : decode c.code pc = .ok (.areturn, 1)) (hs : st = w :: rest)
    (go : ∀ fs : List Frame, FrameEnd s (.returned (some w)) (T.setFrames fs) locs cells slots → G (.returned (some w)) (T.setFrames fs)) : Owe p.tables e below G T (mkF m pc Ls st) := by
  subst hs
  obtain ⟨fs, hr, hrun, hended, hW, hsame⟩ := X.leave (v := some w) (fun h => by rw [hret] at h; cases h) hlk
  have hm' : T.vm.method? m = some meth := X.method'
  refine ⟨_, _, ?_, hrun, hended, go fs ⟨⟨_, rfl⟩, hW, hsame⟩⟩
  show Steps p.tables e below (T.setTop { method := m, pc := pc, locals := Ls, stack := _ :: rest, locked := none }) _
  jvm_step X.here [X.here.top, hx, hd, hm', hret, hn, hw]
  try (refine ⟨ht, ?_⟩)
  first | (intro acts; rw [hr _ acts rfl rfl rfl]) | rw [hr _ _ rfl rfl rfl]
  exact Steps.refl _
theorem Owe.ret0 (X : Stand p l e R s m args below meth c T locs cells slots) (hx : p.tables.exec = Jvm.exec) (hlk : meth.locks = false) (hret : meth.sig.returnType = none) (hd : decode c.code pc = .ok (.return_, 1)) (hs : st = [])
    (go : ∀ fs : List Frame, FrameEnd s (.returned none) (T.setFrames fs) locs cells slots → G (.returned none) (T.setFrames fs)) : Owe p.tables e below G T (mkF m pc Ls st) := by
  subst hs
  obtain ⟨fs, hr, hrun, hended, hW, hsame⟩ := X.leave (v := none) (fun _ => rfl) hlk
  exact ⟨_, _, X.returnOut hx hret hd hr, hrun, hended, go fs ⟨⟨_, rfl⟩, hW, hsame⟩⟩
end Heavy
theorem frameMono {s t : State} {o : Outcome} {L : List Loc} {k n k' n' : Nat} (h : FrameEnd s o t L k n) (hk : k ≤ k') (hn : n ≤ n') : FrameEnd s o t L k' n' := ⟨h.1, h.2.1, h.2.2.mono hk hn⟩
end Own
end Jvm.Pilot.@@N@@
namespace Jvm.Pilot.@@N@@
open Jvm Jvm.ClassFile Sem Op Lib Jvm.Free Jvm.Stand Jvm.LawKit Jvm.RoadKit Bundle Jvm.Pilot.@@N@@.Jvm.D Jvm.Pilot.@@N@@.Own
theorem and255_chars (x : Int32) : ¬ nar .char ((x &&& (255 : Int32)).toUInt32.toUInt16.toUInt32.toInt32) < 0 ∧ ¬ (255 : Int32) < nar .char ((x &&& (255 : Int32)).toUInt32.toUInt16.toUInt32.toInt32) := by
  have t : ∀ k : Fin 256, ¬ nar .char ((Int32.ofNat k.val).toUInt32.toUInt16.toUInt32.toInt32) < 0 ∧ ¬ (255 : Int32) < nar .char ((Int32.ofNat k.val).toUInt32.toUInt16.toUInt32.toInt32) := by decide +kernel
  have h : (x &&& 255).toBitVec.toNat < 256 := by
    simp only [Int32.toBitVec_and, BitVec.toNat_and]
    exact Nat.lt_succ_of_le Nat.and_le_right
  have e : (x &&& 255) = Int32.ofNat (x &&& 255).toBitVec.toNat := by
    apply Int32.toBitVec_inj.mp
    show _ = BitVec.ofNat 32 _
    rw [BitVec.ofNat_toNat]; simp
  rw [e]
  exact t ⟨_, h⟩
theorem own_narrow_ref {v : Value} {t : FieldType} (h : v.isRef = true) (ht : t.isReference = true) : narrow t v = v := by cases t <;> first | (cases ht; done) | (cases v <;> first | rfl | (cases h; done))
theorem own_fits_ref {v : Value} {t : FieldType} (h : v.isRef = true) (ht : t.isReference = true) : fits t v = true := by cases t <;> first | (cases ht; done) | (cases v <;> first | rfl | (cases h; done))
theorem own_cat_ref {v : Value} (h : v.isRef = true) : v.category = 1 := by cases v <;> first | rfl | (cases h; done)
theorem own_eq_int {args : Array Value} {Z : State} {t : Term} {j : Int32} (h : (Jvm.Cond.eq t (Term.int j)).value args Z none Z [] = some true) : t.eval args Z none [] Z = some (.int j) := by
  obtain ⟨x, y, ha, hb, hk, -⟩ := cmp_v (Or.inl h)
  have hj : (Term.int j).eval args Z none [] Z = some (.int j) := Term.int_eval j
  cases x with
  | int z => rw [ha, gotT (Cond.eq_ints ha hj) h]
  | _ => simp [Cond.value, ha, hj] at h
theorem own_eq_ref {args : Array Value} {Z : State} {t u : Term} {b : Addr} (eu : u.eval args Z none [] Z = some (.ref b)) (h : (Jvm.Cond.eq t u).value args Z none Z [] = some true) : t.eval args Z none [] Z = some (.ref b) := by
  obtain ⟨x, y, ha, hb, hk, -⟩ := cmp_v (Or.inl h)
  cases x with
  | ref z => simp [Cond.value, ha, eu] at h; rw [ha, h]
  | _ => simp [Cond.value, ha, eu] at h
theorem own_fld_int {Z : State} {args : Array Value} {t : Term} {a : Addr} {C n d : String} {j : Int32} (ev : t.eval args Z none [] Z = some (.ref a)) (h : (Jvm.Cond.eq (Term.field t C n d) (Term.int j)).value args Z none Z [] = some true) : Fld Z Z.heap a C n d (.int j) := Fld.start ((fld_at ev).symm.trans (own_eq_int h))
theorem own_fld_ref {Z : State} {args : Array Value} {t u : Term} {a b : Addr} {C n d : String} (ev : t.eval args Z none [] Z = some (.ref a)) (eu : u.eval args Z none [] Z = some (.ref b)) (h : (Jvm.Cond.eq (Term.field t C n d) u).value args Z none Z [] = some true) : Fld Z Z.heap a C n d (.ref b) := Fld.start ((fld_at ev).symm.trans (own_eq_ref eu h))
theorem own_dconst0 : FP.dconst0 = (0 : UInt64) := by decide +kernel
theorem own_dconst1 : FP.dconst1 = (4607182418800017408 : UInt64) := by decide +kernel
theorem own_rem6 (x : Int32) : ((x &&& (2147483647 : Int32)) - ((x &&& (2147483647 : Int32)) / (6 : Int32)) * (6 : Int32)) = (0 : Int32) ∨ ((x &&& (2147483647 : Int32)) - ((x &&& (2147483647 : Int32)) / (6 : Int32)) * (6 : Int32)) = (1 : Int32) ∨ ((x &&& (2147483647 : Int32)) - ((x &&& (2147483647 : Int32)) / (6 : Int32)) * (6 : Int32)) = (2 : Int32) ∨ ((x &&& (2147483647 : Int32)) - ((x &&& (2147483647 : Int32)) / (6 : Int32)) * (6 : Int32)) = (3 : Int32) ∨ ((x &&& (2147483647 : Int32)) - ((x &&& (2147483647 : Int32)) / (6 : Int32)) * (6 : Int32)) = (4 : Int32) ∨ ((x &&& (2147483647 : Int32)) - ((x &&& (2147483647 : Int32)) / (6 : Int32)) * (6 : Int32)) = (5 : Int32) := by
  have h0 := c_and x (2147483647 : Int32) (by decide)
  generalize (x &&& (2147483647 : Int32)) = k at h0 ⊢
  have h1 := (c_idiv k (6 : Int32) 6 (by decide) (by decide)).1 h0.1
  have h2 := c_imul (k / (6 : Int32)) (6 : Int32)
  have h3 := c_isub k (k / (6 : Int32) * (6 : Int32))
  have r1 := rng32 (k / (6 : Int32) * (6 : Int32)); have r2 := rng32 (k - k / (6 : Int32) * (6 : Int32)); have r3 := rng32 k
  rw [h1, show ((6 : Int32)).toInt = 6 from rfl] at h2
  have e : (k - k / (6 : Int32) * (6 : Int32)).toInt = 0 ∨ (k - k / (6 : Int32) * (6 : Int32)).toInt = 1 ∨ (k - k / (6 : Int32) * (6 : Int32)).toInt = 2 ∨ (k - k / (6 : Int32) * (6 : Int32)).toInt = 3 ∨ (k - k / (6 : Int32) * (6 : Int32)).toInt = 4 ∨ (k - k / (6 : Int32) * (6 : Int32)).toInt = 5 := by omega
  simp only [← Int32.toInt_inj]
  exact e
theorem pd_0 : parseMethodDescriptor "()I" = some ⟨[], some .int⟩ := by decide +kernel
theorem pd_1 : parseMethodDescriptor "(I)Lcom/example/gatemark/gatemark/eval/XPathValues$Comparison;" = some ⟨[.int], some (.object "com/example/gatemark/gatemark/eval/XPathValues$Comparison")⟩ := by decide +kernel
theorem pd_2 : parseMethodDescriptor "()Z" = some ⟨[], some .boolean⟩ := by decide +kernel
theorem pd_3 : parseMethodDescriptor "(DD)Z" = some ⟨[.double, .double], some .boolean⟩ := by decide +kernel
theorem d0_0 : decode jdk_37_method_2_code 0 = .ok (.aload_n 0, 1) := by decide +kernel
theorem d0_1 : decode jdk_37_method_2_code 1 = .ok (.getfield 7, 3) := by decide +kernel
theorem d0_4 : decode jdk_37_method_2_code 4 = .ok (.ireturn, 1) := by decide +kernel
theorem pn_o : plainName "java/lang/Enum" = true := by first | (simp [plainName, overriddenIn]; done) | decide +kernel
theorem ef_o (m : MethodId) (x0 : Addr)  : entryFrame m #[(.ref x0)] 1 = mkF m 0 #[.val (.ref x0)] [] := by first | (simp [entryFrame, mkF, argsToLocals, Value.category]; done) | rfl
def Qo (Z : State) (a1 : Addr) (w2 : Int32) (h0 : Heap) (n0 : Nat) (v : Option Value) (h : Heap) (L : List Loc) : Prop := v = some (.int w2) ∧ Fr n0 L ∧ h = h0
set_option maxRecDepth 65536 in
set_option maxHeartbeats 40000000 in
theorem rmo (l : Launch) (Z : State) (a0 : Array Value) (hw : ∀ d ∈ tables_1, d.before a0 Z = true) (ws : List Jvm.Cond) (a1 : Addr) (w2 : Int32) (h0 : Heap) (n0 : Nat) (Z0 : n0 ≤ h0.size) (Fordinal_a1 : Fld Z h0 a1 "java/lang/Enum" "ordinal" "I" (.int w2)) :
    MetFree l (⟨"java/lang/Enum", "ordinal", "()I"⟩ : MethodName) (head1 (Jvm.Cond.code (⟨"java/lang/Enum", "ordinal", "()I"⟩ : MethodName) jdk_37_method_2_code 1 (some .int) :: ws) ({ frames := 0, cells := 0, slots := 0, locals := 0 } : Room)) (fun a U => a = #[(.ref a1)] ∧ Z.Warmed39 U.vm ∧ U.heap = h0) (fun _ _ _ _ _ => True) (fun _ U o U' => ∃ v L, o = .returned v ∧ Qo Z a1 w2 h0 n0 v U'.heap L ∧ FrameEnd U o U' L ({ frames := 0, cells := 0, slots := 0, locals := 0 } : Room).cells ({ frames := 0, cells := 0, slots := 0, locals := 0 } : Room).slots) := by
  refine MetFree.of_bodySF (plainFor_of_name pn_o) hisR ?_
  intro p e s m args below meth c s₁ Bd hml0 hP hK
  obtain ⟨rfl, hZ, hh⟩ := hP
  have hx := Bd.exec
  have hby := Bd.bytes
  have hml : c.maxLocals = 1 := hml0
  have hown : s.vm.findClass "java/lang/Enum" = some m.cls := findClass_of_methodNamed Bd.named
  have hnm := (name_of_methodNamed Bd.named Bd.method).1
  have hlk : meth.locks = false := BodyLoose.notSynchronized Bd
  have X0 : Stand p l e ({ frames := 0, cells := 0, slots := 0, locals := 0 } : Room) s m #[(.ref a1)] below meth c s₁ [] 0 0 := Stand.of_body Bd
  have e0 : s₁.heap = h0 := by rw [← hh, Bd.state]; rfl
  have N0 := Fr.nil n0
  obtain ⟨G, hG⟩ : ∃ G : Outcome → State → Prop, G = fun o u => ∃ v L, o = .returned v ∧ Qo Z a1 w2 h0 n0 v u.heap L ∧ FrameEnd s o u L ({ frames := 0, cells := 0, slots := 0, locals := 0 } : Room).cells ({ frames := 0, cells := 0, slots := 0, locals := 0 } : Room).slots := ⟨_, rfl⟩
  suffices hgo : Owe p.tables e below G s₁ (mkF m 0 #[.val (.ref a1)] []) by
    obtain ⟨u, o, h1, h2, h3, h4⟩ := hgo
    exact ⟨u, o, castTop (ef_o m a1) h1, h2, h3, by rw [hG] at h4; exact h4⟩
  refine Owe.aloadN X0.here hx (hb hby d0_0) rfl rfl ?_
  refine Owe.getf X0 hx hZ (host := "") hown (Or.inl (hw _ (List.mem_of_getElem? (i := 26) rfl))) Via.refl e0 Fordinal_a1 (hb hby d0_1) rfl fun T1 X1 e1 => ?_
  refine Owe.retI X1 hx hlk Bd.returns (hb hby d0_4) rfl fun fs hE => ?_
  rw [hG]
  refine ⟨_, _, rfl, ?_, frameMono hE (by decide) (by decide)⟩
  show Qo Z a1 w2 h0 n0 _ T1.heap _
  rw [e1]
  exact ⟨rfl, N0, rfl⟩
theorem d1_0 : decode method_2_code 0 = .ok (.iload_n 0, 1) := by decide +kernel
theorem d1_1 : decode method_2_code 1 = .ok (.ifCond .ne 10, 3) := by decide +kernel
theorem d1_4 : decode method_2_code 4 = .ok (.getstatic 7, 3) := by decide +kernel
theorem d1_7 : decode method_2_code 7 = .ok (.astore_n 1, 1) := by decide +kernel
theorem d1_8 : decode method_2_code 8 = .ok (.goto 55, 3) := by decide +kernel
theorem d1_11 : decode method_2_code 11 = .ok (.iload_n 0, 1) := by decide +kernel
theorem d1_12 : decode method_2_code 12 = .ok (.iconst 1, 1) := by decide +kernel
theorem d1_13 : decode method_2_code 13 = .ok (.if_icmp .ne 10, 3) := by decide +kernel
theorem d1_16 : decode method_2_code 16 = .ok (.getstatic 13, 3) := by decide +kernel
theorem d1_19 : decode method_2_code 19 = .ok (.astore_n 1, 1) := by decide +kernel
theorem d1_20 : decode method_2_code 20 = .ok (.goto 43, 3) := by decide +kernel
theorem d1_23 : decode method_2_code 23 = .ok (.iload_n 0, 1) := by decide +kernel
theorem d1_24 : decode method_2_code 24 = .ok (.iconst 2, 1) := by decide +kernel
theorem d1_25 : decode method_2_code 25 = .ok (.if_icmp .ne 10, 3) := by decide +kernel
theorem d1_28 : decode method_2_code 28 = .ok (.getstatic 16, 3) := by decide +kernel
theorem d1_31 : decode method_2_code 31 = .ok (.astore_n 1, 1) := by decide +kernel
theorem d1_32 : decode method_2_code 32 = .ok (.goto 31, 3) := by decide +kernel
theorem d1_35 : decode method_2_code 35 = .ok (.iload_n 0, 1) := by decide +kernel
theorem d1_36 : decode method_2_code 36 = .ok (.iconst 3, 1) := by decide +kernel
theorem d1_37 : decode method_2_code 37 = .ok (.if_icmp .ne 10, 3) := by decide +kernel
theorem d1_40 : decode method_2_code 40 = .ok (.getstatic 19, 3) := by decide +kernel
theorem d1_43 : decode method_2_code 43 = .ok (.astore_n 1, 1) := by decide +kernel
theorem d1_44 : decode method_2_code 44 = .ok (.goto 19, 3) := by decide +kernel
theorem d1_47 : decode method_2_code 47 = .ok (.iload_n 0, 1) := by decide +kernel
theorem d1_48 : decode method_2_code 48 = .ok (.iconst 4, 1) := by decide +kernel
theorem d1_49 : decode method_2_code 49 = .ok (.if_icmp .ne 10, 3) := by decide +kernel
theorem d1_52 : decode method_2_code 52 = .ok (.getstatic 22, 3) := by decide +kernel
theorem d1_55 : decode method_2_code 55 = .ok (.astore_n 1, 1) := by decide +kernel
theorem d1_56 : decode method_2_code 56 = .ok (.goto 7, 3) := by decide +kernel
theorem d1_59 : decode method_2_code 59 = .ok (.getstatic 25, 3) := by decide +kernel
theorem d1_62 : decode method_2_code 62 = .ok (.astore_n 1, 1) := by decide +kernel
theorem d1_63 : decode method_2_code 63 = .ok (.aload_n 1, 1) := by decide +kernel
theorem d1_64 : decode method_2_code 64 = .ok (.areturn, 1) := by decide +kernel
theorem pn_p0 : plainName "com/example/gatemark/gatemark/eval/ComparisonIsEqualityPinLaw" = true := by first | (simp [plainName, overriddenIn]; done) | decide +kernel
theorem ef_p0 (m : MethodId) (x0 : Int32)  : entryFrame m #[(.int x0)] 2 = mkF m 0 #[.val (.int x0), .unset] [] := by first | (simp [entryFrame, mkF, argsToLocals, Value.category]; done) | rfl
def Qp0 (Z : State) (c0 : Addr) (h0 : Heap) (n0 : Nat) (v : Option Value) (h : Heap) (L : List Loc) : Prop := v = some (.ref c0) ∧ Fr n0 L ∧ h = h0
set_option maxRecDepth 65536 in
set_option maxHeartbeats 40000000 in
theorem rmp0 (l : Launch) (Z : State) (a0 : Array Value) (hw : ∀ d ∈ tables_1, d.before a0 Z = true) (ws : List Jvm.Cond) (c0 : Addr) (h0 : Heap) (n0 : Nat) (Z0 : n0 ≤ h0.size) (S_EQUAL : Sta Z Z.heap "com/example/gatemark/gatemark/eval/XPathValues$Comparison" "EQUAL" "Lcom/example/gatemark/gatemark/eval/XPathValues$Comparison;" (.ref c0)) (Ol : Old Z n0 h0) :
    MetFree l (⟨"com/example/gatemark/gatemark/eval/ComparisonIsEqualityPinLaw", "pick", "(I)Lcom/example/gatemark/gatemark/eval/XPathValues$Comparison;"⟩ : MethodName) (head1 (Jvm.Cond.code (⟨"com/example/gatemark/gatemark/eval/ComparisonIsEqualityPinLaw", "pick", "(I)Lcom/example/gatemark/gatemark/eval/XPathValues$Comparison;"⟩ : MethodName) method_2_code 2 (some (.object "com/example/gatemark/gatemark/eval/XPathValues$Comparison")) :: ws) ({ frames := 0, cells := 0, slots := 0, locals := 0 } : Room)) (fun a U => a = #[(.int (0 : Int32))] ∧ Z.Warmed39 U.vm ∧ U.heap = h0) (fun _ _ _ _ _ => True) (fun _ U o U' => ∃ v L, o = .returned v ∧ Qp0 Z c0 h0 n0 v U'.heap L ∧ FrameEnd U o U' L ({ frames := 0, cells := 0, slots := 0, locals := 0 } : Room).cells ({ frames := 0, cells := 0, slots := 0, locals := 0 } : Room).slots) := by
  refine MetFree.of_bodySF (plainFor_of_name pn_p0) hisR ?_
  intro p e s m args below meth c s₁ Bd hml0 hP hK
  obtain ⟨rfl, hZ, hh⟩ := hP
  have hx := Bd.exec
  have hby := Bd.bytes
  have hml : c.maxLocals = 2 := hml0
  have hown : s.vm.findClass "com/example/gatemark/gatemark/eval/ComparisonIsEqualityPinLaw" = some m.cls := findClass_of_methodNamed Bd.named
  have hnm := (name_of_methodNamed Bd.named Bd.method).1
  have hlk : meth.locks = false := BodyLoose.notSynchronized Bd
  have X0 : Stand p l e ({ frames := 0, cells := 0, slots := 0, locals := 0 } : Room) s m #[(.int (0 : Int32))] below meth c s₁ [] 0 0 := Stand.of_body Bd
  have e0 : s₁.heap = h0 := by rw [← hh, Bd.state]; rfl
  have N0 := Fr.nil n0
  obtain ⟨G, hG⟩ : ∃ G : Outcome → State → Prop, G = fun o u => ∃ v L, o = .returned v ∧ Qp0 Z c0 h0 n0 v u.heap L ∧ FrameEnd s o u L ({ frames := 0, cells := 0, slots := 0, locals := 0 } : Room).cells ({ frames := 0, cells := 0, slots := 0, locals := 0 } : Room).slots := ⟨_, rfl⟩
  suffices hgo : Owe p.tables e below G s₁ (mkF m 0 #[.val (.int (0 : Int32)), .unset] []) by
    obtain ⟨u, o, h1, h2, h3, h4⟩ := hgo
    exact ⟨u, o, castTop (ef_p0 m (0 : Int32)) h1, h2, h3, by rw [hG] at h4; exact h4⟩
  refine Owe.iloadN X0.here hx (hb hby d1_0) rfl ?_
  refine Owe.ifNo X0.here hx (hb hby d1_1) rfl ((if0 _ _).trans (teq (by decide)).2) ?_
  refine Owe.gets X0 hx hZ hown (hw _ (List.mem_of_getElem? (i := 5) rfl)) Via.refl e0 (S_EQUAL.ext Ol.2) (hb hby d1_4) fun T2 X2 e2 => ?_
  refine Owe.astoreN X2.here hx (hb hby d1_7) rfl rfl (l' := #[.val (.int (0 : Int32)), .val (.ref c0)]) rfl ?_
  refine Owe.goto X2.here hx (hb hby d1_8) (pc' := 63) (by decide) (by decide) ?_
  refine Owe.aloadN X2.here hx (hb hby d1_63) rfl rfl ?_
  refine Owe.retR X2 hx hlk (t := (.object "com/example/gatemark/gatemark/eval/XPathValues$Comparison")) Bd.returns rfl rfl rfl (hb hby d1_64) rfl fun fs hE => ?_
  rw [hG]
  refine ⟨_, _, rfl, ?_, frameMono hE (by decide) (by decide)⟩
  show Qp0 Z c0 h0 n0 _ T2.heap _
  rw [e2]
  exact ⟨rfl, N0, rfl⟩
theorem d2_0 : decode prog_136_method_5_code 0 = .ok (.aload_n 0, 1) := by decide +kernel
theorem d2_1 : decode prog_136_method_5_code 1 = .ok (.getstatic 3, 3) := by decide +kernel
theorem d2_4 : decode prog_136_method_5_code 4 = .ok (.if_acmp .eq 10, 3) := by decide +kernel
theorem d2_7 : decode prog_136_method_5_code 7 = .ok (.aload_n 0, 1) := by decide +kernel
theorem d2_8 : decode prog_136_method_5_code 8 = .ok (.getstatic 7, 3) := by decide +kernel
theorem d2_11 : decode prog_136_method_5_code 11 = .ok (.if_acmp .ne 7, 3) := by decide +kernel
theorem d2_14 : decode prog_136_method_5_code 14 = .ok (.iconst 1, 1) := by decide +kernel
theorem d2_15 : decode prog_136_method_5_code 15 = .ok (.goto 4, 3) := by decide +kernel
theorem d2_18 : decode prog_136_method_5_code 18 = .ok (.iconst 0, 1) := by decide +kernel
theorem d2_19 : decode prog_136_method_5_code 19 = .ok (.ireturn, 1) := by decide +kernel
theorem pn_q0 : plainName "com/example/gatemark/gatemark/eval/XPathValues$Comparison" = true := by first | (simp [plainName, overriddenIn]; done) | decide +kernel
theorem ef_q0 (m : MethodId) (x0 : Addr)  : entryFrame m #[(.ref x0)] 1 = mkF m 0 #[.val (.ref x0)] [] := by first | (simp [entryFrame, mkF, argsToLocals, Value.category]; done) | rfl
def Qq0 (Z : State) (c0 : Addr) (c1 : Addr) (h0 : Heap) (n0 : Nat) (v : Option Value) (h : Heap) (L : List Loc) : Prop := v = some (.int (1 : Int32)) ∧ Fr n0 L ∧ h = h0
set_option maxRecDepth 65536 in
set_option maxHeartbeats 40000000 in
theorem rmq0 (l : Launch) (Z : State) (a0 : Array Value) (hw : ∀ d ∈ tables_1, d.before a0 Z = true) (ws : List Jvm.Cond) (c0 : Addr) (c1 : Addr) (h0 : Heap) (n0 : Nat) (Z0 : n0 ≤ h0.size) (S_EQUAL : Sta Z Z.heap "com/example/gatemark/gatemark/eval/XPathValues$Comparison" "EQUAL" "Lcom/example/gatemark/gatemark/eval/XPathValues$Comparison;" (.ref c0)) (S_NOT_EQUAL : Sta Z Z.heap "com/example/gatemark/gatemark/eval/XPathValues$Comparison" "NOT_EQUAL" "Lcom/example/gatemark/gatemark/eval/XPathValues$Comparison;" (.ref c1)) (Ol : Old Z n0 h0) :
    MetFree l (⟨"com/example/gatemark/gatemark/eval/XPathValues$Comparison", "isEquality", "()Z"⟩ : MethodName) (head1 (Jvm.Cond.code (⟨"com/example/gatemark/gatemark/eval/XPathValues$Comparison", "isEquality", "()Z"⟩ : MethodName) prog_136_method_5_code 1 (some .boolean) :: ws) ({ frames := 0, cells := 0, slots := 0, locals := 0 } : Room)) (fun a U => a = #[(.ref c0)] ∧ Z.Warmed39 U.vm ∧ U.heap = h0) (fun _ _ _ _ _ => True) (fun _ U o U' => ∃ v L, o = .returned v ∧ Qq0 Z c0 c1 h0 n0 v U'.heap L ∧ FrameEnd U o U' L ({ frames := 0, cells := 0, slots := 0, locals := 0 } : Room).cells ({ frames := 0, cells := 0, slots := 0, locals := 0 } : Room).slots) := by
  refine MetFree.of_bodySF (plainFor_of_name pn_q0) hisR ?_
  intro p e s m args below meth c s₁ Bd hml0 hP hK
  obtain ⟨rfl, hZ, hh⟩ := hP
  have hx := Bd.exec
  have hby := Bd.bytes
  have hml : c.maxLocals = 1 := hml0
  have hown : s.vm.findClass "com/example/gatemark/gatemark/eval/XPathValues$Comparison" = some m.cls := findClass_of_methodNamed Bd.named
  have hnm := (name_of_methodNamed Bd.named Bd.method).1
  have hlk : meth.locks = false := BodyLoose.notSynchronized Bd
  have X0 : Stand p l e ({ frames := 0, cells := 0, slots := 0, locals := 0 } : Room) s m #[(.ref c0)] below meth c s₁ [] 0 0 := Stand.of_body Bd
  have e0 : s₁.heap = h0 := by rw [← hh, Bd.state]; rfl
  have N0 := Fr.nil n0
  obtain ⟨G, hG⟩ : ∃ G : Outcome → State → Prop, G = fun o u => ∃ v L, o = .returned v ∧ Qq0 Z c0 c1 h0 n0 v u.heap L ∧ FrameEnd s o u L ({ frames := 0, cells := 0, slots := 0, locals := 0 } : Room).cells ({ frames := 0, cells := 0, slots := 0, locals := 0 } : Room).slots := ⟨_, rfl⟩
  suffices hgo : Owe p.tables e below G s₁ (mkF m 0 #[.val (.ref c0)] []) by
    obtain ⟨u, o, h1, h2, h3, h4⟩ := hgo
    exact ⟨u, o, castTop (ef_q0 m c0) h1, h2, h3, by rw [hG] at h4; exact h4⟩
  refine Owe.aloadN X0.here hx (hb hby d2_0) rfl rfl ?_
  refine Owe.gets X0 hx hZ hown (hw _ (List.mem_of_getElem? (i := 13) rfl)) Via.refl e0 (S_EQUAL.ext Ol.2) (hb hby d2_1) fun T3 X3 e3 => ?_
  refine Owe.acmpYes X3.here hx (hb hby d2_4) rfl rfl rfl (by simp [Jvm.Free.XT.acmp]) (pc' := 14) (by decide) (by decide) ?_
  refine Owe.iconst X3.here hx (hb hby d2_14) (w := (1 : Int32)) rfl ?_
  refine Owe.goto X3.here hx (hb hby d2_15) (pc' := 19) (by decide) (by decide) ?_
  refine Owe.retN X3 hx hlk (t := .boolean) Bd.returns (by simp) (hb hby d2_19) rfl fun fs hE => ?_
  rw [hG]
  refine ⟨_, _, rfl, ?_, frameMono hE (by decide) (by decide)⟩
  show Qq0 Z c0 c1 h0 n0 _ T3.heap _
  rw [e3]
  exact ⟨rfl, N0, rfl⟩
theorem d3_0 : decode prog_136_method_7_code 0 = .ok (.aload_n 0, 1) := by decide +kernel
theorem d3_1 : decode prog_136_method_7_code 1 = .ok (.invokevirtual 55, 3) := by decide +kernel
theorem d3_4 : decode prog_136_method_7_code 4 = .ok (.tableswitch 116 0 4 #[36, 52, 68, 84, 100], 36) := by decide +kernel
theorem d3_40 : decode prog_136_method_7_code 40 = .ok (.dload_n 1, 1) := by decide +kernel
theorem d3_41 : decode prog_136_method_7_code 41 = .ok (.dload_n 3, 1) := by decide +kernel
theorem d3_42 : decode prog_136_method_7_code 42 = .ok (.dcmp .l, 1) := by decide +kernel
theorem d3_43 : decode prog_136_method_7_code 43 = .ok (.ifCond .ne 7, 3) := by decide +kernel
theorem d3_46 : decode prog_136_method_7_code 46 = .ok (.iconst 1, 1) := by decide +kernel
theorem d3_47 : decode prog_136_method_7_code 47 = .ok (.goto 4, 3) := by decide +kernel
theorem d3_50 : decode prog_136_method_7_code 50 = .ok (.iconst 0, 1) := by decide +kernel
theorem d3_51 : decode prog_136_method_7_code 51 = .ok (.istore 5, 2) := by decide +kernel
theorem d3_53 : decode prog_136_method_7_code 53 = .ok (.goto 80, 3) := by decide +kernel
theorem d3_56 : decode prog_136_method_7_code 56 = .ok (.dload_n 1, 1) := by decide +kernel
theorem d3_57 : decode prog_136_method_7_code 57 = .ok (.dload_n 3, 1) := by decide +kernel
theorem d3_58 : decode prog_136_method_7_code 58 = .ok (.dcmp .l, 1) := by decide +kernel
theorem d3_59 : decode prog_136_method_7_code 59 = .ok (.ifCond .eq 7, 3) := by decide +kernel
theorem d3_62 : decode prog_136_method_7_code 62 = .ok (.iconst 1, 1) := by decide +kernel
theorem d3_63 : decode prog_136_method_7_code 63 = .ok (.goto 4, 3) := by decide +kernel
theorem d3_66 : decode prog_136_method_7_code 66 = .ok (.iconst 0, 1) := by decide +kernel
theorem d3_67 : decode prog_136_method_7_code 67 = .ok (.istore 5, 2) := by decide +kernel
theorem d3_69 : decode prog_136_method_7_code 69 = .ok (.goto 64, 3) := by decide +kernel
theorem d3_72 : decode prog_136_method_7_code 72 = .ok (.dload_n 1, 1) := by decide +kernel
theorem d3_73 : decode prog_136_method_7_code 73 = .ok (.dload_n 3, 1) := by decide +kernel
theorem d3_74 : decode prog_136_method_7_code 74 = .ok (.dcmp .g, 1) := by decide +kernel
theorem d3_75 : decode prog_136_method_7_code 75 = .ok (.ifCond .ge 7, 3) := by decide +kernel
theorem d3_78 : decode prog_136_method_7_code 78 = .ok (.iconst 1, 1) := by decide +kernel
theorem d3_79 : decode prog_136_method_7_code 79 = .ok (.goto 4, 3) := by decide +kernel
theorem d3_82 : decode prog_136_method_7_code 82 = .ok (.iconst 0, 1) := by decide +kernel
theorem d3_83 : decode prog_136_method_7_code 83 = .ok (.istore 5, 2) := by decide +kernel
theorem d3_85 : decode prog_136_method_7_code 85 = .ok (.goto 48, 3) := by decide +kernel
theorem d3_88 : decode prog_136_method_7_code 88 = .ok (.dload_n 1, 1) := by decide +kernel
theorem d3_89 : decode prog_136_method_7_code 89 = .ok (.dload_n 3, 1) := by decide +kernel
theorem d3_90 : decode prog_136_method_7_code 90 = .ok (.dcmp .g, 1) := by decide +kernel
theorem d3_91 : decode prog_136_method_7_code 91 = .ok (.ifCond .gt 7, 3) := by decide +kernel
theorem d3_94 : decode prog_136_method_7_code 94 = .ok (.iconst 1, 1) := by decide +kernel
theorem d3_95 : decode prog_136_method_7_code 95 = .ok (.goto 4, 3) := by decide +kernel
theorem d3_98 : decode prog_136_method_7_code 98 = .ok (.iconst 0, 1) := by decide +kernel
theorem d3_99 : decode prog_136_method_7_code 99 = .ok (.istore 5, 2) := by decide +kernel
theorem d3_101 : decode prog_136_method_7_code 101 = .ok (.goto 32, 3) := by decide +kernel
theorem d3_104 : decode prog_136_method_7_code 104 = .ok (.dload_n 1, 1) := by decide +kernel
theorem d3_105 : decode prog_136_method_7_code 105 = .ok (.dload_n 3, 1) := by decide +kernel
theorem d3_106 : decode prog_136_method_7_code 106 = .ok (.dcmp .l, 1) := by decide +kernel
theorem d3_107 : decode prog_136_method_7_code 107 = .ok (.ifCond .le 7, 3) := by decide +kernel
theorem d3_110 : decode prog_136_method_7_code 110 = .ok (.iconst 1, 1) := by decide +kernel
theorem d3_111 : decode prog_136_method_7_code 111 = .ok (.goto 4, 3) := by decide +kernel
theorem d3_114 : decode prog_136_method_7_code 114 = .ok (.iconst 0, 1) := by decide +kernel
theorem d3_115 : decode prog_136_method_7_code 115 = .ok (.istore 5, 2) := by decide +kernel
theorem d3_117 : decode prog_136_method_7_code 117 = .ok (.goto 16, 3) := by decide +kernel
theorem d3_120 : decode prog_136_method_7_code 120 = .ok (.dload_n 1, 1) := by decide +kernel
theorem d3_121 : decode prog_136_method_7_code 121 = .ok (.dload_n 3, 1) := by decide +kernel
theorem d3_122 : decode prog_136_method_7_code 122 = .ok (.dcmp .l, 1) := by decide +kernel
theorem d3_123 : decode prog_136_method_7_code 123 = .ok (.ifCond .lt 7, 3) := by decide +kernel
theorem d3_126 : decode prog_136_method_7_code 126 = .ok (.iconst 1, 1) := by decide +kernel
theorem d3_127 : decode prog_136_method_7_code 127 = .ok (.goto 4, 3) := by decide +kernel
theorem d3_130 : decode prog_136_method_7_code 130 = .ok (.iconst 0, 1) := by decide +kernel
theorem d3_131 : decode prog_136_method_7_code 131 = .ok (.istore 5, 2) := by decide +kernel
theorem d3_133 : decode prog_136_method_7_code 133 = .ok (.iload 5, 2) := by decide +kernel
theorem d3_135 : decode prog_136_method_7_code 135 = .ok (.ireturn, 1) := by decide +kernel
theorem pn_h0a : plainName "com/example/gatemark/gatemark/eval/XPathValues$Comparison" = true := by first | (simp [plainName, overriddenIn]; done) | decide +kernel
theorem ef_h0a (m : MethodId) (x0 : Addr) (x1 : UInt64) (x2 : UInt64)  : entryFrame m #[(.ref x0), (.double x1), (.double x2)] 6 = mkF m 0 #[.val (.ref x0), .val (.double x1), .second, .val (.double x2), .second, .unset] [] := by first | (simp [entryFrame, mkF, argsToLocals, Value.category]; done) | rfl
def Qh0a (Z : State) (c0 : Addr) (h0 : Heap) (n0 : Nat) (v : Option Value) (h : Heap) (L : List Loc) : Prop := v = some (.int (0 : Int32)) ∧ Fr n0 L ∧ h = h0
set_option maxRecDepth 65536 in
set_option maxHeartbeats 40000000 in
theorem rmh0a (l : Launch) (Z : State) (a0 : Array Value) (hw : ∀ d ∈ tables_1, d.before a0 Z = true) (ws : List Jvm.Cond) (c0 : Addr) (h0 : Heap) (n0 : Nat) (Z0 : n0 ≤ h0.size) (E_c0 : Exa Z h0 c0 "com/example/gatemark/gatemark/eval/XPathValues$Comparison") (Fordinal_c0 : Fld Z h0 c0 "java/lang/Enum" "ordinal" "I" (.int (0 : Int32))) :
    MetFree l (⟨"com/example/gatemark/gatemark/eval/XPathValues$Comparison", "holds", "(DD)Z"⟩ : MethodName) (head1 (Jvm.Cond.code (⟨"com/example/gatemark/gatemark/eval/XPathValues$Comparison", "holds", "(DD)Z"⟩ : MethodName) prog_136_method_7_code 6 (some .boolean) :: ws) ({ frames := 1, cells := 0, slots := 0, locals := 12 } : Room)) (fun a U => a = #[(.ref c0), (.double (0 : UInt64)), (.double (4607182418800017408 : UInt64))] ∧ Z.Warmed39 U.vm ∧ U.heap = h0) (fun _ _ _ _ _ => True) (fun _ U o U' => ∃ v L, o = .returned v ∧ Qh0a Z c0 h0 n0 v U'.heap L ∧ FrameEnd U o U' L ({ frames := 1, cells := 0, slots := 0, locals := 12 } : Room).cells ({ frames := 1, cells := 0, slots := 0, locals := 12 } : Room).slots) := by
  refine MetFree.of_bodySF (plainFor_of_name pn_h0a) hisR ?_
  intro p e s m args below meth c s₁ Bd hml0 hP hK
  obtain ⟨rfl, hZ, hh⟩ := hP
  have hx := Bd.exec
  have hby := Bd.bytes
  have hml : c.maxLocals = 6 := hml0
  have hown : s.vm.findClass "com/example/gatemark/gatemark/eval/XPathValues$Comparison" = some m.cls := findClass_of_methodNamed Bd.named
  have hnm := (name_of_methodNamed Bd.named Bd.method).1
  have hlk : meth.locks = false := BodyLoose.notSynchronized Bd
  have X0 : Stand p l e ({ frames := 1, cells := 0, slots := 0, locals := 12 } : Room) s m #[(.ref c0), (.double (0 : UInt64)), (.double (4607182418800017408 : UInt64))] below meth c s₁ [] 0 0 := Stand.of_body Bd
  have e0 : s₁.heap = h0 := by rw [← hh, Bd.state]; rfl
  have N0 := Fr.nil n0
  obtain ⟨G, hG⟩ : ∃ G : Outcome → State → Prop, G = fun o u => ∃ v L, o = .returned v ∧ Qh0a Z c0 h0 n0 v u.heap L ∧ FrameEnd s o u L ({ frames := 1, cells := 0, slots := 0, locals := 12 } : Room).cells ({ frames := 1, cells := 0, slots := 0, locals := 12 } : Room).slots := ⟨_, rfl⟩
  suffices hgo : Owe p.tables e below G s₁ (mkF m 0 #[.val (.ref c0), .val (.double (0 : UInt64)), .second, .val (.double (4607182418800017408 : UInt64)), .second, .unset] []) by
    obtain ⟨u, o, h1, h2, h3, h4⟩ := hgo
    exact ⟨u, o, castTop (ef_h0a m c0 (0 : UInt64) (4607182418800017408 : UInt64)) h1, h2, h3, by rw [hG] at h4; exact h4⟩
  refine Owe.aloadN X0.here hx (hb hby d3_0) rfl rfl ?_
  refine Owe.virtUp X0 hx hZ (y := (⟨"com/example/gatemark/gatemark/eval/XPathValues$Comparison", "ordinal", "()I"⟩ : MethodName)) (z := (⟨"java/lang/Enum", "ordinal", "()I"⟩ : MethodName)) (owner := "java/lang/Enum") hown (mvT hZ (hw _ (List.mem_of_getElem? (i := 19) rfl))) (mvT hZ (hw _ (List.mem_of_getElem? (i := 20) rfl))) (mvT hZ (hw _ (List.mem_of_getElem? (i := 21) rfl))) (by decide) (mvT hZ (hw _ (List.mem_of_getElem? (i := 23) rfl))) (mvT hZ (hw _ (List.mem_of_getElem? (i := 22) rfl))) (backOf (W := 0) (rmo l Z a0 hw [] c0 (0 : Int32) h0 n0 Z0 Fordinal_c0) hZ (hw _ (List.mem_of_getElem? (i := 25) rfl)) (hw _ (List.mem_of_getElem? (i := 24) rfl)) (by decide) (by decide)) (by rw [hml]; rfl) (a := c0) (argsL := []) (rest := []) E_c0 (lenOf pd_0 rfl) rfl (Nat.le_of_ble_eq_true rfl) (hb hby d3_1) rfl e0 (by decide) (by decide) fun T4 v4 L4 X4 hQ4 => ?_
  obtain ⟨rfl, Nq4, e4⟩ := hQ4
  have N4 := Fr.app N0 Nq4
  refine Owe.tswIn X4.here hx (hb hby d3_4) rfl (by decide) rfl (pc' := 40) (by decide) (by decide) ?_
  refine Owe.dloadN X4.here hx (hb hby d3_40) rfl ?_
  refine Owe.dloadN X4.here hx (hb hby d3_41) rfl ?_
  refine Owe.dcmpS X4.here hx (hb hby d3_42) rfl (v := (-1 : Int32)) (by decide +kernel) ?_
  refine Owe.ifYes X4.here hx (hb hby d3_43) rfl ((if0 _ _).trans (feq (by decide)).2) (pc' := 50) (by decide) (by decide) ?_
  refine Owe.iconst X4.here hx (hb hby d3_50) (w := (0 : Int32)) rfl ?_
  refine Owe.istore X4.here hx (hb hby d3_51) rfl (l' := #[.val (.ref c0), .val (.double (0 : UInt64)), .second, .val (.double (4607182418800017408 : UInt64)), .second, .val (.int (0 : Int32))]) rfl ?_
  refine Owe.goto X4.here hx (hb hby d3_53) (pc' := 133) (by decide) (by decide) ?_
  refine Owe.iload X4.here hx (hb hby d3_133) rfl ?_
  refine Owe.retN X4 hx hlk (t := .boolean) Bd.returns (by simp) (hb hby d3_135) rfl fun fs hE => ?_
  rw [hG]
  refine ⟨_, _, rfl, ?_, frameMono hE (by decide) (by decide)⟩
  show Qh0a Z c0 h0 n0 _ T4.heap _
  rw [e4]
  exact ⟨rfl, N4, rfl⟩
theorem pn_h0b : plainName "com/example/gatemark/gatemark/eval/XPathValues$Comparison" = true := by first | (simp [plainName, overriddenIn]; done) | decide +kernel
theorem ef_h0b (m : MethodId) (x0 : Addr) (x1 : UInt64) (x2 : UInt64)  : entryFrame m #[(.ref x0), (.double x1), (.double x2)] 6 = mkF m 0 #[.val (.ref x0), .val (.double x1), .second, .val (.double x2), .second, .unset] [] := by first | (simp [entryFrame, mkF, argsToLocals, Value.category]; done) | rfl
def Qh0b (Z : State) (c0 : Addr) (h0 : Heap) (n0 : Nat) (v : Option Value) (h : Heap) (L : List Loc) : Prop := v = some (.int (0 : Int32)) ∧ Fr n0 L ∧ h = h0
set_option maxRecDepth 65536 in
set_option maxHeartbeats 40000000 in
theorem rmh0b (l : Launch) (Z : State) (a0 : Array Value) (hw : ∀ d ∈ tables_1, d.before a0 Z = true) (ws : List Jvm.Cond) (c0 : Addr) (h0 : Heap) (n0 : Nat) (Z0 : n0 ≤ h0.size) (E_c0 : Exa Z h0 c0 "com/example/gatemark/gatemark/eval/XPathValues$Comparison") (Fordinal_c0 : Fld Z h0 c0 "java/lang/Enum" "ordinal" "I" (.int (0 : Int32))) :
    MetFree l (⟨"com/example/gatemark/gatemark/eval/XPathValues$Comparison", "holds", "(DD)Z"⟩ : MethodName) (head1 (Jvm.Cond.code (⟨"com/example/gatemark/gatemark/eval/XPathValues$Comparison", "holds", "(DD)Z"⟩ : MethodName) prog_136_method_7_code 6 (some .boolean) :: ws) ({ frames := 1, cells := 0, slots := 0, locals := 12 } : Room)) (fun a U => a = #[(.ref c0), (.double (4607182418800017408 : UInt64)), (.double (0 : UInt64))] ∧ Z.Warmed39 U.vm ∧ U.heap = h0) (fun _ _ _ _ _ => True) (fun _ U o U' => ∃ v L, o = .returned v ∧ Qh0b Z c0 h0 n0 v U'.heap L ∧ FrameEnd U o U' L ({ frames := 1, cells := 0, slots := 0, locals := 12 } : Room).cells ({ frames := 1, cells := 0, slots := 0, locals := 12 } : Room).slots) := by
  refine MetFree.of_bodySF (plainFor_of_name pn_h0b) hisR ?_
  intro p e s m args below meth c s₁ Bd hml0 hP hK
  obtain ⟨rfl, hZ, hh⟩ := hP
  have hx := Bd.exec
  have hby := Bd.bytes
  have hml : c.maxLocals = 6 := hml0
  have hown : s.vm.findClass "com/example/gatemark/gatemark/eval/XPathValues$Comparison" = some m.cls := findClass_of_methodNamed Bd.named
  have hnm := (name_of_methodNamed Bd.named Bd.method).1
  have hlk : meth.locks = false := BodyLoose.notSynchronized Bd
  have X0 : Stand p l e ({ frames := 1, cells := 0, slots := 0, locals := 12 } : Room) s m #[(.ref c0), (.double (4607182418800017408 : UInt64)), (.double (0 : UInt64))] below meth c s₁ [] 0 0 := Stand.of_body Bd
  have e0 : s₁.heap = h0 := by rw [← hh, Bd.state]; rfl
  have N0 := Fr.nil n0
  obtain ⟨G, hG⟩ : ∃ G : Outcome → State → Prop, G = fun o u => ∃ v L, o = .returned v ∧ Qh0b Z c0 h0 n0 v u.heap L ∧ FrameEnd s o u L ({ frames := 1, cells := 0, slots := 0, locals := 12 } : Room).cells ({ frames := 1, cells := 0, slots := 0, locals := 12 } : Room).slots := ⟨_, rfl⟩
  suffices hgo : Owe p.tables e below G s₁ (mkF m 0 #[.val (.ref c0), .val (.double (4607182418800017408 : UInt64)), .second, .val (.double (0 : UInt64)), .second, .unset] []) by
    obtain ⟨u, o, h1, h2, h3, h4⟩ := hgo
    exact ⟨u, o, castTop (ef_h0b m c0 (4607182418800017408 : UInt64) (0 : UInt64)) h1, h2, h3, by rw [hG] at h4; exact h4⟩
  refine Owe.aloadN X0.here hx (hb hby d3_0) rfl rfl ?_
  refine Owe.virtUp X0 hx hZ (y := (⟨"com/example/gatemark/gatemark/eval/XPathValues$Comparison", "ordinal", "()I"⟩ : MethodName)) (z := (⟨"java/lang/Enum", "ordinal", "()I"⟩ : MethodName)) (owner := "java/lang/Enum") hown (mvT hZ (hw _ (List.mem_of_getElem? (i := 19) rfl))) (mvT hZ (hw _ (List.mem_of_getElem? (i := 20) rfl))) (mvT hZ (hw _ (List.mem_of_getElem? (i := 21) rfl))) (by decide) (mvT hZ (hw _ (List.mem_of_getElem? (i := 23) rfl))) (mvT hZ (hw _ (List.mem_of_getElem? (i := 22) rfl))) (backOf (W := 0) (rmo l Z a0 hw [] c0 (0 : Int32) h0 n0 Z0 Fordinal_c0) hZ (hw _ (List.mem_of_getElem? (i := 25) rfl)) (hw _ (List.mem_of_getElem? (i := 24) rfl)) (by decide) (by decide)) (by rw [hml]; rfl) (a := c0) (argsL := []) (rest := []) E_c0 (lenOf pd_0 rfl) rfl (Nat.le_of_ble_eq_true rfl) (hb hby d3_1) rfl e0 (by decide) (by decide) fun T5 v5 L5 X5 hQ5 => ?_
  obtain ⟨rfl, Nq5, e5⟩ := hQ5
  have N5 := Fr.app N0 Nq5
  refine Owe.tswIn X5.here hx (hb hby d3_4) rfl (by decide) rfl (pc' := 40) (by decide) (by decide) ?_
  refine Owe.dloadN X5.here hx (hb hby d3_40) rfl ?_
  refine Owe.dloadN X5.here hx (hb hby d3_41) rfl ?_
  refine Owe.dcmpS X5.here hx (hb hby d3_42) rfl (v := (1 : Int32)) (by decide +kernel) ?_
  refine Owe.ifYes X5.here hx (hb hby d3_43) rfl ((if0 _ _).trans (feq (by decide)).2) (pc' := 50) (by decide) (by decide) ?_
  refine Owe.iconst X5.here hx (hb hby d3_50) (w := (0 : Int32)) rfl ?_
  refine Owe.istore X5.here hx (hb hby d3_51) rfl (l' := #[.val (.ref c0), .val (.double (4607182418800017408 : UInt64)), .second, .val (.double (0 : UInt64)), .second, .val (.int (0 : Int32))]) rfl ?_
  refine Owe.goto X5.here hx (hb hby d3_53) (pc' := 133) (by decide) (by decide) ?_
  refine Owe.iload X5.here hx (hb hby d3_133) rfl ?_
  refine Owe.retN X5 hx hlk (t := .boolean) Bd.returns (by simp) (hb hby d3_135) rfl fun fs hE => ?_
  rw [hG]
  refine ⟨_, _, rfl, ?_, frameMono hE (by decide) (by decide)⟩
  show Qh0b Z c0 h0 n0 _ T5.heap _
  rw [e5]
  exact ⟨rfl, N5, rfl⟩
theorem pn_p1 : plainName "com/example/gatemark/gatemark/eval/ComparisonIsEqualityPinLaw" = true := by first | (simp [plainName, overriddenIn]; done) | decide +kernel
theorem ef_p1 (m : MethodId) (x0 : Int32)  : entryFrame m #[(.int x0)] 2 = mkF m 0 #[.val (.int x0), .unset] [] := by first | (simp [entryFrame, mkF, argsToLocals, Value.category]; done) | rfl
def Qp1 (Z : State) (c1 : Addr) (h0 : Heap) (n0 : Nat) (v : Option Value) (h : Heap) (L : List Loc) : Prop := v = some (.ref c1) ∧ Fr n0 L ∧ h = h0
set_option maxRecDepth 65536 in
set_option maxHeartbeats 40000000 in
theorem rmp1 (l : Launch) (Z : State) (a0 : Array Value) (hw : ∀ d ∈ tables_1, d.before a0 Z = true) (ws : List Jvm.Cond) (c1 : Addr) (h0 : Heap) (n0 : Nat) (Z0 : n0 ≤ h0.size) (S_NOT_EQUAL : Sta Z Z.heap "com/example/gatemark/gatemark/eval/XPathValues$Comparison" "NOT_EQUAL" "Lcom/example/gatemark/gatemark/eval/XPathValues$Comparison;" (.ref c1)) (Ol : Old Z n0 h0) :
    MetFree l (⟨"com/example/gatemark/gatemark/eval/ComparisonIsEqualityPinLaw", "pick", "(I)Lcom/example/gatemark/gatemark/eval/XPathValues$Comparison;"⟩ : MethodName) (head1 (Jvm.Cond.code (⟨"com/example/gatemark/gatemark/eval/ComparisonIsEqualityPinLaw", "pick", "(I)Lcom/example/gatemark/gatemark/eval/XPathValues$Comparison;"⟩ : MethodName) method_2_code 2 (some (.object "com/example/gatemark/gatemark/eval/XPathValues$Comparison")) :: ws) ({ frames := 0, cells := 0, slots := 0, locals := 0 } : Room)) (fun a U => a = #[(.int (1 : Int32))] ∧ Z.Warmed39 U.vm ∧ U.heap = h0) (fun _ _ _ _ _ => True) (fun _ U o U' => ∃ v L, o = .returned v ∧ Qp1 Z c1 h0 n0 v U'.heap L ∧ FrameEnd U o U' L ({ frames := 0, cells := 0, slots := 0, locals := 0 } : Room).cells ({ frames := 0, cells := 0, slots := 0, locals := 0 } : Room).slots) := by
  refine MetFree.of_bodySF (plainFor_of_name pn_p1) hisR ?_
  intro p e s m args below meth c s₁ Bd hml0 hP hK
  obtain ⟨rfl, hZ, hh⟩ := hP
  have hx := Bd.exec
  have hby := Bd.bytes
  have hml : c.maxLocals = 2 := hml0
  have hown : s.vm.findClass "com/example/gatemark/gatemark/eval/ComparisonIsEqualityPinLaw" = some m.cls := findClass_of_methodNamed Bd.named
  have hnm := (name_of_methodNamed Bd.named Bd.method).1
  have hlk : meth.locks = false := BodyLoose.notSynchronized Bd
  have X0 : Stand p l e ({ frames := 0, cells := 0, slots := 0, locals := 0 } : Room) s m #[(.int (1 : Int32))] below meth c s₁ [] 0 0 := Stand.of_body Bd
  have e0 : s₁.heap = h0 := by rw [← hh, Bd.state]; rfl
  have N0 := Fr.nil n0
  obtain ⟨G, hG⟩ : ∃ G : Outcome → State → Prop, G = fun o u => ∃ v L, o = .returned v ∧ Qp1 Z c1 h0 n0 v u.heap L ∧ FrameEnd s o u L ({ frames := 0, cells := 0, slots := 0, locals := 0 } : Room).cells ({ frames := 0, cells := 0, slots := 0, locals := 0 } : Room).slots := ⟨_, rfl⟩
  suffices hgo : Owe p.tables e below G s₁ (mkF m 0 #[.val (.int (1 : Int32)), .unset] []) by
    obtain ⟨u, o, h1, h2, h3, h4⟩ := hgo
    exact ⟨u, o, castTop (ef_p1 m (1 : Int32)) h1, h2, h3, by rw [hG] at h4; exact h4⟩
  refine Owe.iloadN X0.here hx (hb hby d1_0) rfl ?_
  refine Owe.ifYes X0.here hx (hb hby d1_1) rfl ((if0 _ _).trans (feq (by decide)).2) (pc' := 11) (by decide) (by decide) ?_
  refine Owe.iloadN X0.here hx (hb hby d1_11) rfl ?_
  refine Owe.iconst X0.here hx (hb hby d1_12) (w := (1 : Int32)) rfl ?_
  refine Owe.icmpNo X0.here hx (hb hby d1_13) rfl (teq (by decide)).2 ?_
  refine Owe.gets X0 hx hZ hown (hw _ (List.mem_of_getElem? (i := 34) rfl)) Via.refl e0 (S_NOT_EQUAL.ext Ol.2) (hb hby d1_16) fun T6 X6 e6 => ?_
  refine Owe.astoreN X6.here hx (hb hby d1_19) rfl rfl (l' := #[.val (.int (1 : Int32)), .val (.ref c1)]) rfl ?_
  refine Owe.goto X6.here hx (hb hby d1_20) (pc' := 63) (by decide) (by decide) ?_
  refine Owe.aloadN X6.here hx (hb hby d1_63) rfl rfl ?_
  refine Owe.retR X6 hx hlk (t := (.object "com/example/gatemark/gatemark/eval/XPathValues$Comparison")) Bd.returns rfl rfl rfl (hb hby d1_64) rfl fun fs hE => ?_
  rw [hG]
  refine ⟨_, _, rfl, ?_, frameMono hE (by decide) (by decide)⟩
  show Qp1 Z c1 h0 n0 _ T6.heap _
  rw [e6]
  exact ⟨rfl, N0, rfl⟩
theorem pn_q1 : plainName "com/example/gatemark/gatemark/eval/XPathValues$Comparison" = true := by first | (simp [plainName, overriddenIn]; done) | decide +kernel
theorem ef_q1 (m : MethodId) (x0 : Addr)  : entryFrame m #[(.ref x0)] 1 = mkF m 0 #[.val (.ref x0)] [] := by first | (simp [entryFrame, mkF, argsToLocals, Value.category]; done) | rfl
def Qq1 (Z : State) (c0 : Addr) (c1 : Addr) (h0 : Heap) (n0 : Nat) (v : Option Value) (h : Heap) (L : List Loc) : Prop := v = some (.int (1 : Int32)) ∧ Fr n0 L ∧ h = h0
set_option maxRecDepth 65536 in
set_option maxHeartbeats 40000000 in
theorem rmq1 (l : Launch) (Z : State) (a0 : Array Value) (hw : ∀ d ∈ tables_1, d.before a0 Z = true) (ws : List Jvm.Cond) (c0 : Addr) (c1 : Addr) (h0 : Heap) (n0 : Nat) (Z0 : n0 ≤ h0.size) (S_EQUAL : Sta Z Z.heap "com/example/gatemark/gatemark/eval/XPathValues$Comparison" "EQUAL" "Lcom/example/gatemark/gatemark/eval/XPathValues$Comparison;" (.ref c0)) (S_NOT_EQUAL : Sta Z Z.heap "com/example/gatemark/gatemark/eval/XPathValues$Comparison" "NOT_EQUAL" "Lcom/example/gatemark/gatemark/eval/XPathValues$Comparison;" (.ref c1)) (Ol : Old Z n0 h0) (ne_c0_c1 : c0 ≠ c1) :
    MetFree l (⟨"com/example/gatemark/gatemark/eval/XPathValues$Comparison", "isEquality", "()Z"⟩ : MethodName) (head1 (Jvm.Cond.code (⟨"com/example/gatemark/gatemark/eval/XPathValues$Comparison", "isEquality", "()Z"⟩ : MethodName) prog_136_method_5_code 1 (some .boolean) :: ws) ({ frames := 0, cells := 0, slots := 0, locals := 0 } : Room)) (fun a U => a = #[(.ref c1)] ∧ Z.Warmed39 U.vm ∧ U.heap = h0) (fun _ _ _ _ _ => True) (fun _ U o U' => ∃ v L, o = .returned v ∧ Qq1 Z c0 c1 h0 n0 v U'.heap L ∧ FrameEnd U o U' L ({ frames := 0, cells := 0, slots := 0, locals := 0 } : Room).cells ({ frames := 0, cells := 0, slots := 0, locals := 0 } : Room).slots) := by
  refine MetFree.of_bodySF (plainFor_of_name pn_q1) hisR ?_
  intro p e s m args below meth c s₁ Bd hml0 hP hK
  obtain ⟨rfl, hZ, hh⟩ := hP
  have hx := Bd.exec
  have hby := Bd.bytes
  have hml : c.maxLocals = 1 := hml0
  have hown : s.vm.findClass "com/example/gatemark/gatemark/eval/XPathValues$Comparison" = some m.cls := findClass_of_methodNamed Bd.named
  have hnm := (name_of_methodNamed Bd.named Bd.method).1
  have hlk : meth.locks = false := BodyLoose.notSynchronized Bd
  have X0 : Stand p l e ({ frames := 0, cells := 0, slots := 0, locals := 0 } : Room) s m #[(.ref c1)] below meth c s₁ [] 0 0 := Stand.of_body Bd
  have e0 : s₁.heap = h0 := by rw [← hh, Bd.state]; rfl
  have N0 := Fr.nil n0
  obtain ⟨G, hG⟩ : ∃ G : Outcome → State → Prop, G = fun o u => ∃ v L, o = .returned v ∧ Qq1 Z c0 c1 h0 n0 v u.heap L ∧ FrameEnd s o u L ({ frames := 0, cells := 0, slots := 0, locals := 0 } : Room).cells ({ frames := 0, cells := 0, slots := 0, locals := 0 } : Room).slots := ⟨_, rfl⟩
  suffices hgo : Owe p.tables e below G s₁ (mkF m 0 #[.val (.ref c1)] []) by
    obtain ⟨u, o, h1, h2, h3, h4⟩ := hgo
    exact ⟨u, o, castTop (ef_q1 m c1) h1, h2, h3, by rw [hG] at h4; exact h4⟩
  refine Owe.aloadN X0.here hx (hb hby d2_0) rfl rfl ?_
  refine Owe.gets X0 hx hZ hown (hw _ (List.mem_of_getElem? (i := 13) rfl)) Via.refl e0 (S_EQUAL.ext Ol.2) (hb hby d2_1) fun T7 X7 e7 => ?_
  refine Owe.acmpNo X7.here hx (hb hby d2_4) rfl rfl rfl (by simp [Jvm.Free.XT.acmp, (Ne.symm ne_c0_c1)]) ?_
  refine Owe.aloadN X7.here hx (hb hby d2_7) rfl rfl ?_
  refine Owe.gets X7 hx hZ hown (hw _ (List.mem_of_getElem? (i := 30) rfl)) Via.refl e7 (S_NOT_EQUAL.ext Ol.2) (hb hby d2_8) fun T8 X8 e8 => ?_
  refine Owe.acmpNo X8.here hx (hb hby d2_11) rfl rfl rfl (by simp [Jvm.Free.XT.acmp]) ?_
  refine Owe.iconst X8.here hx (hb hby d2_14) (w := (1 : Int32)) rfl ?_
  refine Owe.goto X8.here hx (hb hby d2_15) (pc' := 19) (by decide) (by decide) ?_
  refine Owe.retN X8 hx hlk (t := .boolean) Bd.returns (by simp) (hb hby d2_19) rfl fun fs hE => ?_
  rw [hG]
  refine ⟨_, _, rfl, ?_, frameMono hE (by decide) (by decide)⟩
  show Qq1 Z c0 c1 h0 n0 _ T8.heap _
  rw [e8]
  exact ⟨rfl, N0, rfl⟩
theorem pn_h1a : plainName "com/example/gatemark/gatemark/eval/XPathValues$Comparison" = true := by first | (simp [plainName, overriddenIn]; done) | decide +kernel
theorem ef_h1a (m : MethodId) (x0 : Addr) (x1 : UInt64) (x2 : UInt64)  : entryFrame m #[(.ref x0), (.double x1), (.double x2)] 6 = mkF m 0 #[.val (.ref x0), .val (.double x1), .second, .val (.double x2), .second, .unset] [] := by first | (simp [entryFrame, mkF, argsToLocals, Value.category]; done) | rfl
def Qh1a (Z : State) (c1 : Addr) (h0 : Heap) (n0 : Nat) (v : Option Value) (h : Heap) (L : List Loc) : Prop := v = some (.int (1 : Int32)) ∧ Fr n0 L ∧ h = h0
set_option maxRecDepth 65536 in
set_option maxHeartbeats 40000000 in
theorem rmh1a (l : Launch) (Z : State) (a0 : Array Value) (hw : ∀ d ∈ tables_1, d.before a0 Z = true) (ws : List Jvm.Cond) (c1 : Addr) (h0 : Heap) (n0 : Nat) (Z0 : n0 ≤ h0.size) (E_c1 : Exa Z h0 c1 "com/example/gatemark/gatemark/eval/XPathValues$Comparison") (Fordinal_c1 : Fld Z h0 c1 "java/lang/Enum" "ordinal" "I" (.int (1 : Int32))) :
    MetFree l (⟨"com/example/gatemark/gatemark/eval/XPathValues$Comparison", "holds", "(DD)Z"⟩ : MethodName) (head1 (Jvm.Cond.code (⟨"com/example/gatemark/gatemark/eval/XPathValues$Comparison", "holds", "(DD)Z"⟩ : MethodName) prog_136_method_7_code 6 (some .boolean) :: ws) ({ frames := 1, cells := 0, slots := 0, locals := 12 } : Room)) (fun a U => a = #[(.ref c1), (.double (0 : UInt64)), (.double (4607182418800017408 : UInt64))] ∧ Z.Warmed39 U.vm ∧ U.heap = h0) (fun _ _ _ _ _ => True) (fun _ U o U' => ∃ v L, o = .returned v ∧ Qh1a Z c1 h0 n0 v U'.heap L ∧ FrameEnd U o U' L ({ frames := 1, cells := 0, slots := 0, locals := 12 } : Room).cells ({ frames := 1, cells := 0, slots := 0, locals := 12 } : Room).slots) := by
  refine MetFree.of_bodySF (plainFor_of_name pn_h1a) hisR ?_
  intro p e s m args below meth c s₁ Bd hml0 hP hK
  obtain ⟨rfl, hZ, hh⟩ := hP
  have hx := Bd.exec
  have hby := Bd.bytes
  have hml : c.maxLocals = 6 := hml0
  have hown : s.vm.findClass "com/example/gatemark/gatemark/eval/XPathValues$Comparison" = some m.cls := findClass_of_methodNamed Bd.named
  have hnm := (name_of_methodNamed Bd.named Bd.method).1
  have hlk : meth.locks = false := BodyLoose.notSynchronized Bd
  have X0 : Stand p l e ({ frames := 1, cells := 0, slots := 0, locals := 12 } : Room) s m #[(.ref c1), (.double (0 : UInt64)), (.double (4607182418800017408 : UInt64))] below meth c s₁ [] 0 0 := Stand.of_body Bd
  have e0 : s₁.heap = h0 := by rw [← hh, Bd.state]; rfl
  have N0 := Fr.nil n0
  obtain ⟨G, hG⟩ : ∃ G : Outcome → State → Prop, G = fun o u => ∃ v L, o = .returned v ∧ Qh1a Z c1 h0 n0 v u.heap L ∧ FrameEnd s o u L ({ frames := 1, cells := 0, slots := 0, locals := 12 } : Room).cells ({ frames := 1, cells := 0, slots := 0, locals := 12 } : Room).slots := ⟨_, rfl⟩
  suffices hgo : Owe p.tables e below G s₁ (mkF m 0 #[.val (.ref c1), .val (.double (0 : UInt64)), .second, .val (.double (4607182418800017408 : UInt64)), .second, .unset] []) by
    obtain ⟨u, o, h1, h2, h3, h4⟩ := hgo
    exact ⟨u, o, castTop (ef_h1a m c1 (0 : UInt64) (4607182418800017408 : UInt64)) h1, h2, h3, by rw [hG] at h4; exact h4⟩
  refine Owe.aloadN X0.here hx (hb hby d3_0) rfl rfl ?_
  refine Owe.virtUp X0 hx hZ (y := (⟨"com/example/gatemark/gatemark/eval/XPathValues$Comparison", "ordinal", "()I"⟩ : MethodName)) (z := (⟨"java/lang/Enum", "ordinal", "()I"⟩ : MethodName)) (owner := "java/lang/Enum") hown (mvT hZ (hw _ (List.mem_of_getElem? (i := 19) rfl))) (mvT hZ (hw _ (List.mem_of_getElem? (i := 20) rfl))) (mvT hZ (hw _ (List.mem_of_getElem? (i := 21) rfl))) (by decide) (mvT hZ (hw _ (List.mem_of_getElem? (i := 23) rfl))) (mvT hZ (hw _ (List.mem_of_getElem? (i := 22) rfl))) (backOf (W := 0) (rmo l Z a0 hw [] c1 (1 : Int32) h0 n0 Z0 Fordinal_c1) hZ (hw _ (List.mem_of_getElem? (i := 25) rfl)) (hw _ (List.mem_of_getElem? (i := 24) rfl)) (by decide) (by decide)) (by rw [hml]; rfl) (a := c1) (argsL := []) (rest := []) E_c1 (lenOf pd_0 rfl) rfl (Nat.le_of_ble_eq_true rfl) (hb hby d3_1) rfl e0 (by decide) (by decide) fun T9 v9 L9 X9 hQ9 => ?_
  obtain ⟨rfl, Nq9, e9⟩ := hQ9
  have N9 := Fr.app N0 Nq9
  refine Owe.tswIn X9.here hx (hb hby d3_4) rfl (by decide) rfl (pc' := 56) (by decide) (by decide) ?_
  refine Owe.dloadN X9.here hx (hb hby d3_56) rfl ?_
  refine Owe.dloadN X9.here hx (hb hby d3_57) rfl ?_
  refine Owe.dcmpS X9.here hx (hb hby d3_58) rfl (v := (-1 : Int32)) (by decide +kernel) ?_
  refine Owe.ifNo X9.here hx (hb hby d3_59) rfl ((if0 _ _).trans (feq (by decide)).1) ?_
  refine Owe.iconst X9.here hx (hb hby d3_62) (w := (1 : Int32)) rfl ?_
  refine Owe.goto X9.here hx (hb hby d3_63) (pc' := 67) (by decide) (by decide) ?_
  refine Owe.istore X9.here hx (hb hby d3_67) rfl (l' := #[.val (.ref c1), .val (.double (0 : UInt64)), .second, .val (.double (4607182418800017408 : UInt64)), .second, .val (.int (1 : Int32))]) rfl ?_
  refine Owe.goto X9.here hx (hb hby d3_69) (pc' := 133) (by decide) (by decide) ?_
  refine Owe.iload X9.here hx (hb hby d3_133) rfl ?_
  refine Owe.retN X9 hx hlk (t := .boolean) Bd.returns (by simp) (hb hby d3_135) rfl fun fs hE => ?_
  rw [hG]
  refine ⟨_, _, rfl, ?_, frameMono hE (by decide) (by decide)⟩
  show Qh1a Z c1 h0 n0 _ T9.heap _
  rw [e9]
  exact ⟨rfl, N9, rfl⟩
theorem pn_h1b : plainName "com/example/gatemark/gatemark/eval/XPathValues$Comparison" = true := by first | (simp [plainName, overriddenIn]; done) | decide +kernel
theorem ef_h1b (m : MethodId) (x0 : Addr) (x1 : UInt64) (x2 : UInt64)  : entryFrame m #[(.ref x0), (.double x1), (.double x2)] 6 = mkF m 0 #[.val (.ref x0), .val (.double x1), .second, .val (.double x2), .second, .unset] [] := by first | (simp [entryFrame, mkF, argsToLocals, Value.category]; done) | rfl
def Qh1b (Z : State) (c1 : Addr) (h0 : Heap) (n0 : Nat) (v : Option Value) (h : Heap) (L : List Loc) : Prop := v = some (.int (1 : Int32)) ∧ Fr n0 L ∧ h = h0
set_option maxRecDepth 65536 in
set_option maxHeartbeats 40000000 in
theorem rmh1b (l : Launch) (Z : State) (a0 : Array Value) (hw : ∀ d ∈ tables_1, d.before a0 Z = true) (ws : List Jvm.Cond) (c1 : Addr) (h0 : Heap) (n0 : Nat) (Z0 : n0 ≤ h0.size) (E_c1 : Exa Z h0 c1 "com/example/gatemark/gatemark/eval/XPathValues$Comparison") (Fordinal_c1 : Fld Z h0 c1 "java/lang/Enum" "ordinal" "I" (.int (1 : Int32))) :
    MetFree l (⟨"com/example/gatemark/gatemark/eval/XPathValues$Comparison", "holds", "(DD)Z"⟩ : MethodName) (head1 (Jvm.Cond.code (⟨"com/example/gatemark/gatemark/eval/XPathValues$Comparison", "holds", "(DD)Z"⟩ : MethodName) prog_136_method_7_code 6 (some .boolean) :: ws) ({ frames := 1, cells := 0, slots := 0, locals := 12 } : Room)) (fun a U => a = #[(.ref c1), (.double (4607182418800017408 : UInt64)), (.double (0 : UInt64))] ∧ Z.Warmed39 U.vm ∧ U.heap = h0) (fun _ _ _ _ _ => True) (fun _ U o U' => ∃ v L, o = .returned v ∧ Qh1b Z c1 h0 n0 v U'.heap L ∧ FrameEnd U o U' L ({ frames := 1, cells := 0, slots := 0, locals := 12 } : Room).cells ({ frames := 1, cells := 0, slots := 0, locals := 12 } : Room).slots) := by
  refine MetFree.of_bodySF (plainFor_of_name pn_h1b) hisR ?_
  intro p e s m args below meth c s₁ Bd hml0 hP hK
  obtain ⟨rfl, hZ, hh⟩ := hP
  have hx := Bd.exec
  have hby := Bd.bytes
  have hml : c.maxLocals = 6 := hml0
  have hown : s.vm.findClass "com/example/gatemark/gatemark/eval/XPathValues$Comparison" = some m.cls := findClass_of_methodNamed Bd.named
  have hnm := (name_of_methodNamed Bd.named Bd.method).1
  have hlk : meth.locks = false := BodyLoose.notSynchronized Bd
  have X0 : Stand p l e ({ frames := 1, cells := 0, slots := 0, locals := 12 } : Room) s m #[(.ref c1), (.double (4607182418800017408 : UInt64)), (.double (0 : UInt64))] below meth c s₁ [] 0 0 := Stand.of_body Bd
  have e0 : s₁.heap = h0 := by rw [← hh, Bd.state]; rfl
  have N0 := Fr.nil n0
  obtain ⟨G, hG⟩ : ∃ G : Outcome → State → Prop, G = fun o u => ∃ v L, o = .returned v ∧ Qh1b Z c1 h0 n0 v u.heap L ∧ FrameEnd s o u L ({ frames := 1, cells := 0, slots := 0, locals := 12 } : Room).cells ({ frames := 1, cells := 0, slots := 0, locals := 12 } : Room).slots := ⟨_, rfl⟩
  suffices hgo : Owe p.tables e below G s₁ (mkF m 0 #[.val (.ref c1), .val (.double (4607182418800017408 : UInt64)), .second, .val (.double (0 : UInt64)), .second, .unset] []) by
    obtain ⟨u, o, h1, h2, h3, h4⟩ := hgo
    exact ⟨u, o, castTop (ef_h1b m c1 (4607182418800017408 : UInt64) (0 : UInt64)) h1, h2, h3, by rw [hG] at h4; exact h4⟩
  refine Owe.aloadN X0.here hx (hb hby d3_0) rfl rfl ?_
  refine Owe.virtUp X0 hx hZ (y := (⟨"com/example/gatemark/gatemark/eval/XPathValues$Comparison", "ordinal", "()I"⟩ : MethodName)) (z := (⟨"java/lang/Enum", "ordinal", "()I"⟩ : MethodName)) (owner := "java/lang/Enum") hown (mvT hZ (hw _ (List.mem_of_getElem? (i := 19) rfl))) (mvT hZ (hw _ (List.mem_of_getElem? (i := 20) rfl))) (mvT hZ (hw _ (List.mem_of_getElem? (i := 21) rfl))) (by decide) (mvT hZ (hw _ (List.mem_of_getElem? (i := 23) rfl))) (mvT hZ (hw _ (List.mem_of_getElem? (i := 22) rfl))) (backOf (W := 0) (rmo l Z a0 hw [] c1 (1 : Int32) h0 n0 Z0 Fordinal_c1) hZ (hw _ (List.mem_of_getElem? (i := 25) rfl)) (hw _ (List.mem_of_getElem? (i := 24) rfl)) (by decide) (by decide)) (by rw [hml]; rfl) (a := c1) (argsL := []) (rest := []) E_c1 (lenOf pd_0 rfl) rfl (Nat.le_of_ble_eq_true rfl) (hb hby d3_1) rfl e0 (by decide) (by decide) fun T10 v10 L10 X10 hQ10 => ?_
  obtain ⟨rfl, Nq10, e10⟩ := hQ10
  have N10 := Fr.app N0 Nq10
  refine Owe.tswIn X10.here hx (hb hby d3_4) rfl (by decide) rfl (pc' := 56) (by decide) (by decide) ?_
  refine Owe.dloadN X10.here hx (hb hby d3_56) rfl ?_
  refine Owe.dloadN X10.here hx (hb hby d3_57) rfl ?_
  refine Owe.dcmpS X10.here hx (hb hby d3_58) rfl (v := (1 : Int32)) (by decide +kernel) ?_
  refine Owe.ifNo X10.here hx (hb hby d3_59) rfl ((if0 _ _).trans (feq (by decide)).1) ?_
  refine Owe.iconst X10.here hx (hb hby d3_62) (w := (1 : Int32)) rfl ?_
  refine Owe.goto X10.here hx (hb hby d3_63) (pc' := 67) (by decide) (by decide) ?_
  refine Owe.istore X10.here hx (hb hby d3_67) rfl (l' := #[.val (.ref c1), .val (.double (4607182418800017408 : UInt64)), .second, .val (.double (0 : UInt64)), .second, .val (.int (1 : Int32))]) rfl ?_
  refine Owe.goto X10.here hx (hb hby d3_69) (pc' := 133) (by decide) (by decide) ?_
  refine Owe.iload X10.here hx (hb hby d3_133) rfl ?_
  refine Owe.retN X10 hx hlk (t := .boolean) Bd.returns (by simp) (hb hby d3_135) rfl fun fs hE => ?_
  rw [hG]
  refine ⟨_, _, rfl, ?_, frameMono hE (by decide) (by decide)⟩
  show Qh1b Z c1 h0 n0 _ T10.heap _
  rw [e10]
  exact ⟨rfl, N10, rfl⟩
theorem pn_p2 : plainName "com/example/gatemark/gatemark/eval/ComparisonIsEqualityPinLaw" = true := by first | (simp [plainName, overriddenIn]; done) | decide +kernel
theorem ef_p2 (m : MethodId) (x0 : Int32)  : entryFrame m #[(.int x0)] 2 = mkF m 0 #[.val (.int x0), .unset] [] := by first | (simp [entryFrame, mkF, argsToLocals, Value.category]; done) | rfl
def Qp2 (Z : State) (c2 : Addr) (h0 : Heap) (n0 : Nat) (v : Option Value) (h : Heap) (L : List Loc) : Prop := v = some (.ref c2) ∧ Fr n0 L ∧ h = h0
set_option maxRecDepth 65536 in
set_option maxHeartbeats 40000000 in
theorem rmp2 (l : Launch) (Z : State) (a0 : Array Value) (hw : ∀ d ∈ tables_1, d.before a0 Z = true) (ws : List Jvm.Cond) (c2 : Addr) (h0 : Heap) (n0 : Nat) (Z0 : n0 ≤ h0.size) (S_LESS : Sta Z Z.heap "com/example/gatemark/gatemark/eval/XPathValues$Comparison" "LESS" "Lcom/example/gatemark/gatemark/eval/XPathValues$Comparison;" (.ref c2)) (Ol : Old Z n0 h0) :
    MetFree l (⟨"com/example/gatemark/gatemark/eval/ComparisonIsEqualityPinLaw", "pick", "(I)Lcom/example/gatemark/gatemark/eval/XPathValues$Comparison;"⟩ : MethodName) (head1 (Jvm.Cond.code (⟨"com/example/gatemark/gatemark/eval/ComparisonIsEqualityPinLaw", "pick", "(I)Lcom/example/gatemark/gatemark/eval/XPathValues$Comparison;"⟩ : MethodName) method_2_code 2 (some (.object "com/example/gatemark/gatemark/eval/XPathValues$Comparison")) :: ws) ({ frames := 0, cells := 0, slots := 0, locals := 0 } : Room)) (fun a U => a = #[(.int (2 : Int32))] ∧ Z.Warmed39 U.vm ∧ U.heap = h0) (fun _ _ _ _ _ => True) (fun _ U o U' => ∃ v L, o = .returned v ∧ Qp2 Z c2 h0 n0 v U'.heap L ∧ FrameEnd U o U' L ({ frames := 0, cells := 0, slots := 0, locals := 0 } : Room).cells ({ frames := 0, cells := 0, slots := 0, locals := 0 } : Room).slots) := by
  refine MetFree.of_bodySF (plainFor_of_name pn_p2) hisR ?_
  intro p e s m args below meth c s₁ Bd hml0 hP hK
  obtain ⟨rfl, hZ, hh⟩ := hP
  have hx := Bd.exec
  have hby := Bd.bytes
  have hml : c.maxLocals = 2 := hml0
  have hown : s.vm.findClass "com/example/gatemark/gatemark/eval/ComparisonIsEqualityPinLaw" = some m.cls := findClass_of_methodNamed Bd.named
  have hnm := (name_of_methodNamed Bd.named Bd.method).1
  have hlk : meth.locks = false := BodyLoose.notSynchronized Bd
  have X0 : Stand p l e ({ frames := 0, cells := 0, slots := 0, locals := 0 } : Room) s m #[(.int (2 : Int32))] below meth c s₁ [] 0 0 := Stand.of_body Bd
  have e0 : s₁.heap = h0 := by rw [← hh, Bd.state]; rfl
  have N0 := Fr.nil n0
  obtain ⟨G, hG⟩ : ∃ G : Outcome → State → Prop, G = fun o u => ∃ v L, o = .returned v ∧ Qp2 Z c2 h0 n0 v u.heap L ∧ FrameEnd s o u L ({ frames := 0, cells := 0, slots := 0, locals := 0 } : Room).cells ({ frames := 0, cells := 0, slots := 0, locals := 0 } : Room).slots := ⟨_, rfl⟩
  suffices hgo : Owe p.tables e below G s₁ (mkF m 0 #[.val (.int (2 : Int32)), .unset] []) by
    obtain ⟨u, o, h1, h2, h3, h4⟩ := hgo
    exact ⟨u, o, castTop (ef_p2 m (2 : Int32)) h1, h2, h3, by rw [hG] at h4; exact h4⟩
  refine Owe.iloadN X0.here hx (hb hby d1_0) rfl ?_
  refine Owe.ifYes X0.here hx (hb hby d1_1) rfl ((if0 _ _).trans (feq (by decide)).2) (pc' := 11) (by decide) (by decide) ?_
  refine Owe.iloadN X0.here hx (hb hby d1_11) rfl ?_
  refine Owe.iconst X0.here hx (hb hby d1_12) (w := (1 : Int32)) rfl ?_
  refine Owe.icmpYes X0.here hx (hb hby d1_13) rfl (feq (by decide)).2 (pc' := 23) (by decide) (by decide) ?_
  refine Owe.iloadN X0.here hx (hb hby d1_23) rfl ?_
  refine Owe.iconst X0.here hx (hb hby d1_24) (w := (2 : Int32)) rfl ?_
  refine Owe.icmpNo X0.here hx (hb hby d1_25) rfl (teq (by decide)).2 ?_
  refine Owe.gets X0 hx hZ hown (hw _ (List.mem_of_getElem? (i := 32) rfl)) Via.refl e0 (S_LESS.ext Ol.2) (hb hby d1_28) fun T11 X11 e11 => ?_
  refine Owe.astoreN X11.here hx (hb hby d1_31) rfl rfl (l' := #[.val (.int (2 : Int32)), .val (.ref c2)]) rfl ?_
  refine Owe.goto X11.here hx (hb hby d1_32) (pc' := 63) (by decide) (by decide) ?_
  refine Owe.aloadN X11.here hx (hb hby d1_63) rfl rfl ?_
  refine Owe.retR X11 hx hlk (t := (.object "com/example/gatemark/gatemark/eval/XPathValues$Comparison")) Bd.returns rfl rfl rfl (hb hby d1_64) rfl fun fs hE => ?_
  rw [hG]
  refine ⟨_, _, rfl, ?_, frameMono hE (by decide) (by decide)⟩
  show Qp2 Z c2 h0 n0 _ T11.heap _
  rw [e11]
  exact ⟨rfl, N0, rfl⟩
theorem pn_q2 : plainName "com/example/gatemark/gatemark/eval/XPathValues$Comparison" = true := by first | (simp [plainName, overriddenIn]; done) | decide +kernel
theorem ef_q2 (m : MethodId) (x0 : Addr)  : entryFrame m #[(.ref x0)] 1 = mkF m 0 #[.val (.ref x0)] [] := by first | (simp [entryFrame, mkF, argsToLocals, Value.category]; done) | rfl
def Qq2 (Z : State) (c0 : Addr) (c1 : Addr) (c2 : Addr) (h0 : Heap) (n0 : Nat) (v : Option Value) (h : Heap) (L : List Loc) : Prop := v = some (.int (0 : Int32)) ∧ Fr n0 L ∧ h = h0
set_option maxRecDepth 65536 in
set_option maxHeartbeats 40000000 in
theorem rmq2 (l : Launch) (Z : State) (a0 : Array Value) (hw : ∀ d ∈ tables_1, d.before a0 Z = true) (ws : List Jvm.Cond) (c0 : Addr) (c1 : Addr) (c2 : Addr) (h0 : Heap) (n0 : Nat) (Z0 : n0 ≤ h0.size) (S_EQUAL : Sta Z Z.heap "com/example/gatemark/gatemark/eval/XPathValues$Comparison" "EQUAL" "Lcom/example/gatemark/gatemark/eval/XPathValues$Comparison;" (.ref c0)) (S_NOT_EQUAL : Sta Z Z.heap "com/example/gatemark/gatemark/eval/XPathValues$Comparison" "NOT_EQUAL" "Lcom/example/gatemark/gatemark/eval/XPathValues$Comparison;" (.ref c1)) (Ol : Old Z n0 h0) (ne_c0_c2 : c0 ≠ c2) (ne_c1_c2 : c1 ≠ c2) :
    MetFree l (⟨"com/example/gatemark/gatemark/eval/XPathValues$Comparison", "isEquality", "()Z"⟩ : MethodName) (head1 (Jvm.Cond.code (⟨"com/example/gatemark/gatemark/eval/XPathValues$Comparison", "isEquality", "()Z"⟩ : MethodName) prog_136_method_5_code 1 (some .boolean) :: ws) ({ frames := 0, cells := 0, slots := 0, locals := 0 } : Room)) (fun a U => a = #[(.ref c2)] ∧ Z.Warmed39 U.vm ∧ U.heap = h0) (fun _ _ _ _ _ => True) (fun _ U o U' => ∃ v L, o = .returned v ∧ Qq2 Z c0 c1 c2 h0 n0 v U'.heap L ∧ FrameEnd U o U' L ({ frames := 0, cells := 0, slots := 0, locals := 0 } : Room).cells ({ frames := 0, cells := 0, slots := 0, locals := 0 } : Room).slots) := by
  refine MetFree.of_bodySF (plainFor_of_name pn_q2) hisR ?_
  intro p e s m args below meth c s₁ Bd hml0 hP hK
  obtain ⟨rfl, hZ, hh⟩ := hP
  have hx := Bd.exec
  have hby := Bd.bytes
  have hml : c.maxLocals = 1 := hml0
  have hown : s.vm.findClass "com/example/gatemark/gatemark/eval/XPathValues$Comparison" = some m.cls := findClass_of_methodNamed Bd.named
  have hnm := (name_of_methodNamed Bd.named Bd.method).1
  have hlk : meth.locks = false := BodyLoose.notSynchronized Bd
  have X0 : Stand p l e ({ frames := 0, cells := 0, slots := 0, locals := 0 } : Room) s m #[(.ref c2)] below meth c s₁ [] 0 0 := Stand.of_body Bd
  have e0 : s₁.heap = h0 := by rw [← hh, Bd.state]; rfl
  have N0 := Fr.nil n0
  obtain ⟨G, hG⟩ : ∃ G : Outcome → State → Prop, G = fun o u => ∃ v L, o = .returned v ∧ Qq2 Z c0 c1 c2 h0 n0 v u.heap L ∧ FrameEnd s o u L ({ frames := 0, cells := 0, slots := 0, locals := 0 } : Room).cells ({ frames := 0, cells := 0, slots := 0, locals := 0 } : Room).slots := ⟨_, rfl⟩
  suffices hgo : Owe p.tables e below G s₁ (mkF m 0 #[.val (.ref c2)] []) by
    obtain ⟨u, o, h1, h2, h3, h4⟩ := hgo
    exact ⟨u, o, castTop (ef_q2 m c2) h1, h2, h3, by rw [hG] at h4; exact h4⟩
  refine Owe.aloadN X0.here hx (hb hby d2_0) rfl rfl ?_
  refine Owe.gets X0 hx hZ hown (hw _ (List.mem_of_getElem? (i := 13) rfl)) Via.refl e0 (S_EQUAL.ext Ol.2) (hb hby d2_1) fun T12 X12 e12 => ?_
  refine Owe.acmpNo X12.here hx (hb hby d2_4) rfl rfl rfl (by simp [Jvm.Free.XT.acmp, (Ne.symm ne_c0_c2)]) ?_
  refine Owe.aloadN X12.here hx (hb hby d2_7) rfl rfl ?_
  refine Owe.gets X12 hx hZ hown (hw _ (List.mem_of_getElem? (i := 30) rfl)) Via.refl e12 (S_NOT_EQUAL.ext Ol.2) (hb hby d2_8) fun T13 X13 e13 => ?_
  refine Owe.acmpYes X13.here hx (hb hby d2_11) rfl rfl rfl (by simp [Jvm.Free.XT.acmp, (Ne.symm ne_c1_c2)]) (pc' := 18) (by decide) (by decide) ?_
  refine Owe.iconst X13.here hx (hb hby d2_18) (w := (0 : Int32)) rfl ?_
  refine Owe.retN X13 hx hlk (t := .boolean) Bd.returns (by simp) (hb hby d2_19) rfl fun fs hE => ?_
  rw [hG]
  refine ⟨_, _, rfl, ?_, frameMono hE (by decide) (by decide)⟩
  show Qq2 Z c0 c1 c2 h0 n0 _ T13.heap _
  rw [e13]
  exact ⟨rfl, N0, rfl⟩
theorem pn_h2a : plainName "com/example/gatemark/gatemark/eval/XPathValues$Comparison" = true := by first | (simp [plainName, overriddenIn]; done) | decide +kernel
theorem ef_h2a (m : MethodId) (x0 : Addr) (x1 : UInt64) (x2 : UInt64)  : entryFrame m #[(.ref x0), (.double x1), (.double x2)] 6 = mkF m 0 #[.val (.ref x0), .val (.double x1), .second, .val (.double x2), .second, .unset] [] := by first | (simp [entryFrame, mkF, argsToLocals, Value.category]; done) | rfl
def Qh2a (Z : State) (c2 : Addr) (h0 : Heap) (n0 : Nat) (v : Option Value) (h : Heap) (L : List Loc) : Prop := v = some (.int (1 : Int32)) ∧ Fr n0 L ∧ h = h0
set_option maxRecDepth 65536 in
set_option maxHeartbeats 40000000 in
theorem rmh2a (l : Launch) (Z : State) (a0 : Array Value) (hw : ∀ d ∈ tables_1, d.before a0 Z = true) (ws : List Jvm.Cond) (c2 : Addr) (h0 : Heap) (n0 : Nat) (Z0 : n0 ≤ h0.size) (E_c2 : Exa Z h0 c2 "com/example/gatemark/gatemark/eval/XPathValues$Comparison") (Fordinal_c2 : Fld Z h0 c2 "java/lang/Enum" "ordinal" "I" (.int (2 : Int32))) :
    MetFree l (⟨"com/example/gatemark/gatemark/eval/XPathValues$Comparison", "holds", "(DD)Z"⟩ : MethodName) (head1 (Jvm.Cond.code (⟨"com/example/gatemark/gatemark/eval/XPathValues$Comparison", "holds", "(DD)Z"⟩ : MethodName) prog_136_method_7_code 6 (some .boolean) :: ws) ({ frames := 1, cells := 0, slots := 0, locals := 12 } : Room)) (fun a U => a = #[(.ref c2), (.double (0 : UInt64)), (.double (4607182418800017408 : UInt64))] ∧ Z.Warmed39 U.vm ∧ U.heap = h0) (fun _ _ _ _ _ => True) (fun _ U o U' => ∃ v L, o = .returned v ∧ Qh2a Z c2 h0 n0 v U'.heap L ∧ FrameEnd U o U' L ({ frames := 1, cells := 0, slots := 0, locals := 12 } : Room).cells ({ frames := 1, cells := 0, slots := 0, locals := 12 } : Room).slots) := by
  refine MetFree.of_bodySF (plainFor_of_name pn_h2a) hisR ?_
  intro p e s m args below meth c s₁ Bd hml0 hP hK
  obtain ⟨rfl, hZ, hh⟩ := hP
  have hx := Bd.exec
  have hby := Bd.bytes
  have hml : c.maxLocals = 6 := hml0
  have hown : s.vm.findClass "com/example/gatemark/gatemark/eval/XPathValues$Comparison" = some m.cls := findClass_of_methodNamed Bd.named
  have hnm := (name_of_methodNamed Bd.named Bd.method).1
  have hlk : meth.locks = false := BodyLoose.notSynchronized Bd
  have X0 : Stand p l e ({ frames := 1, cells := 0, slots := 0, locals := 12 } : Room) s m #[(.ref c2), (.double (0 : UInt64)), (.double (4607182418800017408 : UInt64))] below meth c s₁ [] 0 0 := Stand.of_body Bd
  have e0 : s₁.heap = h0 := by rw [← hh, Bd.state]; rfl
  have N0 := Fr.nil n0
  obtain ⟨G, hG⟩ : ∃ G : Outcome → State → Prop, G = fun o u => ∃ v L, o = .returned v ∧ Qh2a Z c2 h0 n0 v u.heap L ∧ FrameEnd s o u L ({ frames := 1, cells := 0, slots := 0, locals := 12 } : Room).cells ({ frames := 1, cells := 0, slots := 0, locals := 12 } : Room).slots := ⟨_, rfl⟩
  suffices hgo : Owe p.tables e below G s₁ (mkF m 0 #[.val (.ref c2), .val (.double (0 : UInt64)), .second, .val (.double (4607182418800017408 : UInt64)), .second, .unset] []) by
    obtain ⟨u, o, h1, h2, h3, h4⟩ := hgo
    exact ⟨u, o, castTop (ef_h2a m c2 (0 : UInt64) (4607182418800017408 : UInt64)) h1, h2, h3, by rw [hG] at h4; exact h4⟩
  refine Owe.aloadN X0.here hx (hb hby d3_0) rfl rfl ?_
  refine Owe.virtUp X0 hx hZ (y := (⟨"com/example/gatemark/gatemark/eval/XPathValues$Comparison", "ordinal", "()I"⟩ : MethodName)) (z := (⟨"java/lang/Enum", "ordinal", "()I"⟩ : MethodName)) (owner := "java/lang/Enum") hown (mvT hZ (hw _ (List.mem_of_getElem? (i := 19) rfl))) (mvT hZ (hw _ (List.mem_of_getElem? (i := 20) rfl))) (mvT hZ (hw _ (List.mem_of_getElem? (i := 21) rfl))) (by decide) (mvT hZ (hw _ (List.mem_of_getElem? (i := 23) rfl))) (mvT hZ (hw _ (List.mem_of_getElem? (i := 22) rfl))) (backOf (W := 0) (rmo l Z a0 hw [] c2 (2 : Int32) h0 n0 Z0 Fordinal_c2) hZ (hw _ (List.mem_of_getElem? (i := 25) rfl)) (hw _ (List.mem_of_getElem? (i := 24) rfl)) (by decide) (by decide)) (by rw [hml]; rfl) (a := c2) (argsL := []) (rest := []) E_c2 (lenOf pd_0 rfl) rfl (Nat.le_of_ble_eq_true rfl) (hb hby d3_1) rfl e0 (by decide) (by decide) fun T14 v14 L14 X14 hQ14 => ?_
  obtain ⟨rfl, Nq14, e14⟩ := hQ14
  have N14 := Fr.app N0 Nq14
  refine Owe.tswIn X14.here hx (hb hby d3_4) rfl (by decide) rfl (pc' := 72) (by decide) (by decide) ?_
  refine Owe.dloadN X14.here hx (hb hby d3_72) rfl ?_
  refine Owe.dloadN X14.here hx (hb hby d3_73) rfl ?_
  refine Owe.dcmpS X14.here hx (hb hby d3_74) rfl (v := (-1 : Int32)) (by decide +kernel) ?_
  refine Owe.ifNo X14.here hx (hb hby d3_75) rfl ((if0 _ _).trans (tlt (by decide)).2.1) ?_
  refine Owe.iconst X14.here hx (hb hby d3_78) (w := (1 : Int32)) rfl ?_
  refine Owe.goto X14.here hx (hb hby d3_79) (pc' := 83) (by decide) (by decide) ?_
  refine Owe.istore X14.here hx (hb hby d3_83) rfl (l' := #[.val (.ref c2), .val (.double (0 : UInt64)), .second, .val (.double (4607182418800017408 : UInt64)), .second, .val (.int (1 : Int32))]) rfl ?_
  refine Owe.goto X14.here hx (hb hby d3_85) (pc' := 133) (by decide) (by decide) ?_
  refine Owe.iload X14.here hx (hb hby d3_133) rfl ?_
  refine Owe.retN X14 hx hlk (t := .boolean) Bd.returns (by simp) (hb hby d3_135) rfl fun fs hE => ?_
  rw [hG]
  refine ⟨_, _, rfl, ?_, frameMono hE (by decide) (by decide)⟩
  show Qh2a Z c2 h0 n0 _ T14.heap _
  rw [e14]
  exact ⟨rfl, N14, rfl⟩
theorem pn_h2b : plainName "com/example/gatemark/gatemark/eval/XPathValues$Comparison" = true := by first | (simp [plainName, overriddenIn]; done) | decide +kernel
theorem ef_h2b (m : MethodId) (x0 : Addr) (x1 : UInt64) (x2 : UInt64)  : entryFrame m #[(.ref x0), (.double x1), (.double x2)] 6 = mkF m 0 #[.val (.ref x0), .val (.double x1), .second, .val (.double x2), .second, .unset] [] := by first | (simp [entryFrame, mkF, argsToLocals, Value.category]; done) | rfl
def Qh2b (Z : State) (c2 : Addr) (h0 : Heap) (n0 : Nat) (v : Option Value) (h : Heap) (L : List Loc) : Prop := v = some (.int (0 : Int32)) ∧ Fr n0 L ∧ h = h0
set_option maxRecDepth 65536 in
set_option maxHeartbeats 40000000 in
theorem rmh2b (l : Launch) (Z : State) (a0 : Array Value) (hw : ∀ d ∈ tables_1, d.before a0 Z = true) (ws : List Jvm.Cond) (c2 : Addr) (h0 : Heap) (n0 : Nat) (Z0 : n0 ≤ h0.size) (E_c2 : Exa Z h0 c2 "com/example/gatemark/gatemark/eval/XPathValues$Comparison") (Fordinal_c2 : Fld Z h0 c2 "java/lang/Enum" "ordinal" "I" (.int (2 : Int32))) :
    MetFree l (⟨"com/example/gatemark/gatemark/eval/XPathValues$Comparison", "holds", "(DD)Z"⟩ : MethodName) (head1 (Jvm.Cond.code (⟨"com/example/gatemark/gatemark/eval/XPathValues$Comparison", "holds", "(DD)Z"⟩ : MethodName) prog_136_method_7_code 6 (some .boolean) :: ws) ({ frames := 1, cells := 0, slots := 0, locals := 12 } : Room)) (fun a U => a = #[(.ref c2), (.double (4607182418800017408 : UInt64)), (.double (0 : UInt64))] ∧ Z.Warmed39 U.vm ∧ U.heap = h0) (fun _ _ _ _ _ => True) (fun _ U o U' => ∃ v L, o = .returned v ∧ Qh2b Z c2 h0 n0 v U'.heap L ∧ FrameEnd U o U' L ({ frames := 1, cells := 0, slots := 0, locals := 12 } : Room).cells ({ frames := 1, cells := 0, slots := 0, locals := 12 } : Room).slots) := by
  refine MetFree.of_bodySF (plainFor_of_name pn_h2b) hisR ?_
  intro p e s m args below meth c s₁ Bd hml0 hP hK
  obtain ⟨rfl, hZ, hh⟩ := hP
  have hx := Bd.exec
  have hby := Bd.bytes
  have hml : c.maxLocals = 6 := hml0
  have hown : s.vm.findClass "com/example/gatemark/gatemark/eval/XPathValues$Comparison" = some m.cls := findClass_of_methodNamed Bd.named
  have hnm := (name_of_methodNamed Bd.named Bd.method).1
  have hlk : meth.locks = false := BodyLoose.notSynchronized Bd
  have X0 : Stand p l e ({ frames := 1, cells := 0, slots := 0, locals := 12 } : Room) s m #[(.ref c2), (.double (4607182418800017408 : UInt64)), (.double (0 : UInt64))] below meth c s₁ [] 0 0 := Stand.of_body Bd
  have e0 : s₁.heap = h0 := by rw [← hh, Bd.state]; rfl
  have N0 := Fr.nil n0
  obtain ⟨G, hG⟩ : ∃ G : Outcome → State → Prop, G = fun o u => ∃ v L, o = .returned v ∧ Qh2b Z c2 h0 n0 v u.heap L ∧ FrameEnd s o u L ({ frames := 1, cells := 0, slots := 0, locals := 12 } : Room).cells ({ frames := 1, cells := 0, slots := 0, locals := 12 } : Room).slots := ⟨_, rfl⟩
  suffices hgo : Owe p.tables e below G s₁ (mkF m 0 #[.val (.ref c2), .val (.double (4607182418800017408 : UInt64)), .second, .val (.double (0 : UInt64)), .second, .unset] []) by
    obtain ⟨u, o, h1, h2, h3, h4⟩ := hgo
    exact ⟨u, o, castTop (ef_h2b m c2 (4607182418800017408 : UInt64) (0 : UInt64)) h1, h2, h3, by rw [hG] at h4; exact h4⟩
  refine Owe.aloadN X0.here hx (hb hby d3_0) rfl rfl ?_
  refine Owe.virtUp X0 hx hZ (y := (⟨"com/example/gatemark/gatemark/eval/XPathValues$Comparison", "ordinal", "()I"⟩ : MethodName)) (z := (⟨"java/lang/Enum", "ordinal", "()I"⟩ : MethodName)) (owner := "java/lang/Enum") hown (mvT hZ (hw _ (List.mem_of_getElem? (i := 19) rfl))) (mvT hZ (hw _ (List.mem_of_getElem? (i := 20) rfl))) (mvT hZ (hw _ (List.mem_of_getElem? (i := 21) rfl))) (by decide) (mvT hZ (hw _ (List.mem_of_getElem? (i := 23) rfl))) (mvT hZ (hw _ (List.mem_of_getElem? (i := 22) rfl))) (backOf (W := 0) (rmo l Z a0 hw [] c2 (2 : Int32) h0 n0 Z0 Fordinal_c2) hZ (hw _ (List.mem_of_getElem? (i := 25) rfl)) (hw _ (List.mem_of_getElem? (i := 24) rfl)) (by decide) (by decide)) (by rw [hml]; rfl) (a := c2) (argsL := []) (rest := []) E_c2 (lenOf pd_0 rfl) rfl (Nat.le_of_ble_eq_true rfl) (hb hby d3_1) rfl e0 (by decide) (by decide) fun T15 v15 L15 X15 hQ15 => ?_
  obtain ⟨rfl, Nq15, e15⟩ := hQ15
  have N15 := Fr.app N0 Nq15
  refine Owe.tswIn X15.here hx (hb hby d3_4) rfl (by decide) rfl (pc' := 72) (by decide) (by decide) ?_
  refine Owe.dloadN X15.here hx (hb hby d3_72) rfl ?_
  refine Owe.dloadN X15.here hx (hb hby d3_73) rfl ?_
  refine Owe.dcmpS X15.here hx (hb hby d3_74) rfl (v := (1 : Int32)) (by decide +kernel) ?_
  refine Owe.ifYes X15.here hx (hb hby d3_75) rfl ((if0 _ _).trans (flt (by decide)).2.1) (pc' := 82) (by decide) (by decide) ?_
  refine Owe.iconst X15.here hx (hb hby d3_82) (w := (0 : Int32)) rfl ?_
  refine Owe.istore X15.here hx (hb hby d3_83) rfl (l' := #[.val (.ref c2), .val (.double (4607182418800017408 : UInt64)), .second, .val (.double (0 : UInt64)), .second, .val (.int (0 : Int32))]) rfl ?_
  refine Owe.goto X15.here hx (hb hby d3_85) (pc' := 133) (by decide) (by decide) ?_
  refine Owe.iload X15.here hx (hb hby d3_133) rfl ?_
  refine Owe.retN X15 hx hlk (t := .boolean) Bd.returns (by simp) (hb hby d3_135) rfl fun fs hE => ?_
  rw [hG]
  refine ⟨_, _, rfl, ?_, frameMono hE (by decide) (by decide)⟩
  show Qh2b Z c2 h0 n0 _ T15.heap _
  rw [e15]
  exact ⟨rfl, N15, rfl⟩
theorem pn_p3 : plainName "com/example/gatemark/gatemark/eval/ComparisonIsEqualityPinLaw" = true := by first | (simp [plainName, overriddenIn]; done) | decide +kernel
theorem ef_p3 (m : MethodId) (x0 : Int32)  : entryFrame m #[(.int x0)] 2 = mkF m 0 #[.val (.int x0), .unset] [] := by first | (simp [entryFrame, mkF, argsToLocals, Value.category]; done) | rfl
def Qp3 (Z : State) (c3 : Addr) (h0 : Heap) (n0 : Nat) (v : Option Value) (h : Heap) (L : List Loc) : Prop := v = some (.ref c3) ∧ Fr n0 L ∧ h = h0
set_option maxRecDepth 65536 in
set_option maxHeartbeats 40000000 in
theorem rmp3 (l : Launch) (Z : State) (a0 : Array Value) (hw : ∀ d ∈ tables_1, d.before a0 Z = true) (ws : List Jvm.Cond) (c3 : Addr) (h0 : Heap) (n0 : Nat) (Z0 : n0 ≤ h0.size) (S_LESS_OR_EQUAL : Sta Z Z.heap "com/example/gatemark/gatemark/eval/XPathValues$Comparison" "LESS_OR_EQUAL" "Lcom/example/gatemark/gatemark/eval/XPathValues$Comparison;" (.ref c3)) (Ol : Old Z n0 h0) :
    MetFree l (⟨"com/example/gatemark/gatemark/eval/ComparisonIsEqualityPinLaw", "pick", "(I)Lcom/example/gatemark/gatemark/eval/XPathValues$Comparison;"⟩ : MethodName) (head1 (Jvm.Cond.code (⟨"com/example/gatemark/gatemark/eval/ComparisonIsEqualityPinLaw", "pick", "(I)Lcom/example/gatemark/gatemark/eval/XPathValues$Comparison;"⟩ : MethodName) method_2_code 2 (some (.object "com/example/gatemark/gatemark/eval/XPathValues$Comparison")) :: ws) ({ frames := 0, cells := 0, slots := 0, locals := 0 } : Room)) (fun a U => a = #[(.int (3 : Int32))] ∧ Z.Warmed39 U.vm ∧ U.heap = h0) (fun _ _ _ _ _ => True) (fun _ U o U' => ∃ v L, o = .returned v ∧ Qp3 Z c3 h0 n0 v U'.heap L ∧ FrameEnd U o U' L ({ frames := 0, cells := 0, slots := 0, locals := 0 } : Room).cells ({ frames := 0, cells := 0, slots := 0, locals := 0 } : Room).slots) := by
  refine MetFree.of_bodySF (plainFor_of_name pn_p3) hisR ?_
  intro p e s m args below meth c s₁ Bd hml0 hP hK
  obtain ⟨rfl, hZ, hh⟩ := hP
  have hx := Bd.exec
  have hby := Bd.bytes
  have hml : c.maxLocals = 2 := hml0
  have hown : s.vm.findClass "com/example/gatemark/gatemark/eval/ComparisonIsEqualityPinLaw" = some m.cls := findClass_of_methodNamed Bd.named
  have hnm := (name_of_methodNamed Bd.named Bd.method).1
  have hlk : meth.locks = false := BodyLoose.notSynchronized Bd
  have X0 : Stand p l e ({ frames := 0, cells := 0, slots := 0, locals := 0 } : Room) s m #[(.int (3 : Int32))] below meth c s₁ [] 0 0 := Stand.of_body Bd
  have e0 : s₁.heap = h0 := by rw [← hh, Bd.state]; rfl
  have N0 := Fr.nil n0
  obtain ⟨G, hG⟩ : ∃ G : Outcome → State → Prop, G = fun o u => ∃ v L, o = .returned v ∧ Qp3 Z c3 h0 n0 v u.heap L ∧ FrameEnd s o u L ({ frames := 0, cells := 0, slots := 0, locals := 0 } : Room).cells ({ frames := 0, cells := 0, slots := 0, locals := 0 } : Room).slots := ⟨_, rfl⟩
  suffices hgo : Owe p.tables e below G s₁ (mkF m 0 #[.val (.int (3 : Int32)), .unset] []) by
    obtain ⟨u, o, h1, h2, h3, h4⟩ := hgo
    exact ⟨u, o, castTop (ef_p3 m (3 : Int32)) h1, h2, h3, by rw [hG] at h4; exact h4⟩
  refine Owe.iloadN X0.here hx (hb hby d1_0) rfl ?_
  refine Owe.ifYes X0.here hx (hb hby d1_1) rfl ((if0 _ _).trans (feq (by decide)).2) (pc' := 11) (by decide) (by decide) ?_
  refine Owe.iloadN X0.here hx (hb hby d1_11) rfl ?_
  refine Owe.iconst X0.here hx (hb hby d1_12) (w := (1 : Int32)) rfl ?_
  refine Owe.icmpYes X0.here hx (hb hby d1_13) rfl (feq (by decide)).2 (pc' := 23) (by decide) (by decide) ?_
  refine Owe.iloadN X0.here hx (hb hby d1_23) rfl ?_
  refine Owe.iconst X0.here hx (hb hby d1_24) (w := (2 : Int32)) rfl ?_
  refine Owe.icmpYes X0.here hx (hb hby d1_25) rfl (feq (by decide)).2 (pc' := 35) (by decide) (by decide) ?_
  refine Owe.iloadN X0.here hx (hb hby d1_35) rfl ?_
  refine Owe.iconst X0.here hx (hb hby d1_36) (w := (3 : Int32)) rfl ?_
  refine Owe.icmpNo X0.here hx (hb hby d1_37) rfl (teq (by decide)).2 ?_
  refine Owe.gets X0 hx hZ hown (hw _ (List.mem_of_getElem? (i := 28) rfl)) Via.refl e0 (S_LESS_OR_EQUAL.ext Ol.2) (hb hby d1_40) fun T16 X16 e16 => ?_
  refine Owe.astoreN X16.here hx (hb hby d1_43) rfl rfl (l' := #[.val (.int (3 : Int32)), .val (.ref c3)]) rfl ?_
  refine Owe.goto X16.here hx (hb hby d1_44) (pc' := 63) (by decide) (by decide) ?_
  refine Owe.aloadN X16.here hx (hb hby d1_63) rfl rfl ?_
  refine Owe.retR X16 hx hlk (t := (.object "com/example/gatemark/gatemark/eval/XPathValues$Comparison")) Bd.returns rfl rfl rfl (hb hby d1_64) rfl fun fs hE => ?_
  rw [hG]
  refine ⟨_, _, rfl, ?_, frameMono hE (by decide) (by decide)⟩
  show Qp3 Z c3 h0 n0 _ T16.heap _
  rw [e16]
  exact ⟨rfl, N0, rfl⟩
theorem pn_q3 : plainName "com/example/gatemark/gatemark/eval/XPathValues$Comparison" = true := by first | (simp [plainName, overriddenIn]; done) | decide +kernel
theorem ef_q3 (m : MethodId) (x0 : Addr)  : entryFrame m #[(.ref x0)] 1 = mkF m 0 #[.val (.ref x0)] [] := by first | (simp [entryFrame, mkF, argsToLocals, Value.category]; done) | rfl
def Qq3 (Z : State) (c0 : Addr) (c1 : Addr) (c3 : Addr) (h0 : Heap) (n0 : Nat) (v : Option Value) (h : Heap) (L : List Loc) : Prop := v = some (.int (0 : Int32)) ∧ Fr n0 L ∧ h = h0
set_option maxRecDepth 65536 in
set_option maxHeartbeats 40000000 in
theorem rmq3 (l : Launch) (Z : State) (a0 : Array Value) (hw : ∀ d ∈ tables_1, d.before a0 Z = true) (ws : List Jvm.Cond) (c0 : Addr) (c1 : Addr) (c3 : Addr) (h0 : Heap) (n0 : Nat) (Z0 : n0 ≤ h0.size) (S_EQUAL : Sta Z Z.heap "com/example/gatemark/gatemark/eval/XPathValues$Comparison" "EQUAL" "Lcom/example/gatemark/gatemark/eval/XPathValues$Comparison;" (.ref c0)) (S_NOT_EQUAL : Sta Z Z.heap "com/example/gatemark/gatemark/eval/XPathValues$Comparison" "NOT_EQUAL" "Lcom/example/gatemark/gatemark/eval/XPathValues$Comparison;" (.ref c1)) (Ol : Old Z n0 h0) (ne_c0_c3 : c0 ≠ c3) (ne_c1_c3 : c1 ≠ c3) :
    MetFree l (⟨"com/example/gatemark/gatemark/eval/XPathValues$Comparison", "isEquality", "()Z"⟩ : MethodName) (head1 (Jvm.Cond.code (⟨"com/example/gatemark/gatemark/eval/XPathValues$Comparison", "isEquality", "()Z"⟩ : MethodName) prog_136_method_5_code 1 (some .boolean) :: ws) ({ frames := 0, cells := 0, slots := 0, locals := 0 } : Room)) (fun a U => a = #[(.ref c3)] ∧ Z.Warmed39 U.vm ∧ U.heap = h0) (fun _ _ _ _ _ => True) (fun _ U o U' => ∃ v L, o = .returned v ∧ Qq3 Z c0 c1 c3 h0 n0 v U'.heap L ∧ FrameEnd U o U' L ({ frames := 0, cells := 0, slots := 0, locals := 0 } : Room).cells ({ frames := 0, cells := 0, slots := 0, locals := 0 } : Room).slots) := by
  refine MetFree.of_bodySF (plainFor_of_name pn_q3) hisR ?_
  intro p e s m args below meth c s₁ Bd hml0 hP hK
  obtain ⟨rfl, hZ, hh⟩ := hP
  have hx := Bd.exec
  have hby := Bd.bytes
  have hml : c.maxLocals = 1 := hml0
  have hown : s.vm.findClass "com/example/gatemark/gatemark/eval/XPathValues$Comparison" = some m.cls := findClass_of_methodNamed Bd.named
  have hnm := (name_of_methodNamed Bd.named Bd.method).1
  have hlk : meth.locks = false := BodyLoose.notSynchronized Bd
  have X0 : Stand p l e ({ frames := 0, cells := 0, slots := 0, locals := 0 } : Room) s m #[(.ref c3)] below meth c s₁ [] 0 0 := Stand.of_body Bd
  have e0 : s₁.heap = h0 := by rw [← hh, Bd.state]; rfl
  have N0 := Fr.nil n0
  obtain ⟨G, hG⟩ : ∃ G : Outcome → State → Prop, G = fun o u => ∃ v L, o = .returned v ∧ Qq3 Z c0 c1 c3 h0 n0 v u.heap L ∧ FrameEnd s o u L ({ frames := 0, cells := 0, slots := 0, locals := 0 } : Room).cells ({ frames := 0, cells := 0, slots := 0, locals := 0 } : Room).slots := ⟨_, rfl⟩
  suffices hgo : Owe p.tables e below G s₁ (mkF m 0 #[.val (.ref c3)] []) by
    obtain ⟨u, o, h1, h2, h3, h4⟩ := hgo
    exact ⟨u, o, castTop (ef_q3 m c3) h1, h2, h3, by rw [hG] at h4; exact h4⟩
  refine Owe.aloadN X0.here hx (hb hby d2_0) rfl rfl ?_
  refine Owe.gets X0 hx hZ hown (hw _ (List.mem_of_getElem? (i := 13) rfl)) Via.refl e0 (S_EQUAL.ext Ol.2) (hb hby d2_1) fun T17 X17 e17 => ?_
  refine Owe.acmpNo X17.here hx (hb hby d2_4) rfl rfl rfl (by simp [Jvm.Free.XT.acmp, (Ne.symm ne_c0_c3)]) ?_
  refine Owe.aloadN X17.here hx (hb hby d2_7) rfl rfl ?_
  refine Owe.gets X17 hx hZ hown (hw _ (List.mem_of_getElem? (i := 30) rfl)) Via.refl e17 (S_NOT_EQUAL.ext Ol.2) (hb hby d2_8) fun T18 X18 e18 => ?_
  refine Owe.acmpYes X18.here hx (hb hby d2_11) rfl rfl rfl (by simp [Jvm.Free.XT.acmp, (Ne.symm ne_c1_c3)]) (pc' := 18) (by decide) (by decide) ?_
  refine Owe.iconst X18.here hx (hb hby d2_18) (w := (0 : Int32)) rfl ?_
  refine Owe.retN X18 hx hlk (t := .boolean) Bd.returns (by simp) (hb hby d2_19) rfl fun fs hE => ?_
  rw [hG]
  refine ⟨_, _, rfl, ?_, frameMono hE (by decide) (by decide)⟩
  show Qq3 Z c0 c1 c3 h0 n0 _ T18.heap _
  rw [e18]
  exact ⟨rfl, N0, rfl⟩
theorem pn_h3a : plainName "com/example/gatemark/gatemark/eval/XPathValues$Comparison" = true := by first | (simp [plainName, overriddenIn]; done) | decide +kernel
theorem ef_h3a (m : MethodId) (x0 : Addr) (x1 : UInt64) (x2 : UInt64)  : entryFrame m #[(.ref x0), (.double x1), (.double x2)] 6 = mkF m 0 #[.val (.ref x0), .val (.double x1), .second, .val (.double x2), .second, .unset] [] := by first | (simp [entryFrame, mkF, argsToLocals, Value.category]; done) | rfl
def Qh3a (Z : State) (c3 : Addr) (h0 : Heap) (n0 : Nat) (v : Option Value) (h : Heap) (L : List Loc) : Prop := v = some (.int (1 : Int32)) ∧ Fr n0 L ∧ h = h0
set_option maxRecDepth 65536 in
set_option maxHeartbeats 40000000 in
theorem rmh3a (l : Launch) (Z : State) (a0 : Array Value) (hw : ∀ d ∈ tables_1, d.before a0 Z = true) (ws : List Jvm.Cond) (c3 : Addr) (h0 : Heap) (n0 : Nat) (Z0 : n0 ≤ h0.size) (E_c3 : Exa Z h0 c3 "com/example/gatemark/gatemark/eval/XPathValues$Comparison") (Fordinal_c3 : Fld Z h0 c3 "java/lang/Enum" "ordinal" "I" (.int (3 : Int32))) :
    MetFree l (⟨"com/example/gatemark/gatemark/eval/XPathValues$Comparison", "holds", "(DD)Z"⟩ : MethodName) (head1 (Jvm.Cond.code (⟨"com/example/gatemark/gatemark/eval/XPathValues$Comparison", "holds", "(DD)Z"⟩ : MethodName) prog_136_method_7_code 6 (some .boolean) :: ws) ({ frames := 1, cells := 0, slots := 0, locals := 12 } : Room)) (fun a U => a = #[(.ref c3), (.double (0 : UInt64)), (.double (4607182418800017408 : UInt64))] ∧ Z.Warmed39 U.vm ∧ U.heap = h0) (fun _ _ _ _ _ => True) (fun _ U o U' => ∃ v L, o = .returned v ∧ Qh3a Z c3 h0 n0 v U'.heap L ∧ FrameEnd U o U' L ({ frames := 1, cells := 0, slots := 0, locals := 12 } : Room).cells ({ frames := 1, cells := 0, slots := 0, locals := 12 } : Room).slots) := by
  refine MetFree.of_bodySF (plainFor_of_name pn_h3a) hisR ?_
  intro p e s m args below meth c s₁ Bd hml0 hP hK
  obtain ⟨rfl, hZ, hh⟩ := hP
  have hx := Bd.exec
  have hby := Bd.bytes
  have hml : c.maxLocals = 6 := hml0
  have hown : s.vm.findClass "com/example/gatemark/gatemark/eval/XPathValues$Comparison" = some m.cls := findClass_of_methodNamed Bd.named
  have hnm := (name_of_methodNamed Bd.named Bd.method).1
  have hlk : meth.locks = false := BodyLoose.notSynchronized Bd
  have X0 : Stand p l e ({ frames := 1, cells := 0, slots := 0, locals := 12 } : Room) s m #[(.ref c3), (.double (0 : UInt64)), (.double (4607182418800017408 : UInt64))] below meth c s₁ [] 0 0 := Stand.of_body Bd
  have e0 : s₁.heap = h0 := by rw [← hh, Bd.state]; rfl
  have N0 := Fr.nil n0
  obtain ⟨G, hG⟩ : ∃ G : Outcome → State → Prop, G = fun o u => ∃ v L, o = .returned v ∧ Qh3a Z c3 h0 n0 v u.heap L ∧ FrameEnd s o u L ({ frames := 1, cells := 0, slots := 0, locals := 12 } : Room).cells ({ frames := 1, cells := 0, slots := 0, locals := 12 } : Room).slots := ⟨_, rfl⟩
  suffices hgo : Owe p.tables e below G s₁ (mkF m 0 #[.val (.ref c3), .val (.double (0 : UInt64)), .second, .val (.double (4607182418800017408 : UInt64)), .second, .unset] []) by
    obtain ⟨u, o, h1, h2, h3, h4⟩ := hgo
    exact ⟨u, o, castTop (ef_h3a m c3 (0 : UInt64) (4607182418800017408 : UInt64)) h1, h2, h3, by rw [hG] at h4; exact h4⟩
  refine Owe.aloadN X0.here hx (hb hby d3_0) rfl rfl ?_
  refine Owe.virtUp X0 hx hZ (y := (⟨"com/example/gatemark/gatemark/eval/XPathValues$Comparison", "ordinal", "()I"⟩ : MethodName)) (z := (⟨"java/lang/Enum", "ordinal", "()I"⟩ : MethodName)) (owner := "java/lang/Enum") hown (mvT hZ (hw _ (List.mem_of_getElem? (i := 19) rfl))) (mvT hZ (hw _ (List.mem_of_getElem? (i := 20) rfl))) (mvT hZ (hw _ (List.mem_of_getElem? (i := 21) rfl))) (by decide) (mvT hZ (hw _ (List.mem_of_getElem? (i := 23) rfl))) (mvT hZ (hw _ (List.mem_of_getElem? (i := 22) rfl))) (backOf (W := 0) (rmo l Z a0 hw [] c3 (3 : Int32) h0 n0 Z0 Fordinal_c3) hZ (hw _ (List.mem_of_getElem? (i := 25) rfl)) (hw _ (List.mem_of_getElem? (i := 24) rfl)) (by decide) (by decide)) (by rw [hml]; rfl) (a := c3) (argsL := []) (rest := []) E_c3 (lenOf pd_0 rfl) rfl (Nat.le_of_ble_eq_true rfl) (hb hby d3_1) rfl e0 (by decide) (by decide) fun T19 v19 L19 X19 hQ19 => ?_
  obtain ⟨rfl, Nq19, e19⟩ := hQ19
  have N19 := Fr.app N0 Nq19
  refine Owe.tswIn X19.here hx (hb hby d3_4) rfl (by decide) rfl (pc' := 88) (by decide) (by decide) ?_
  refine Owe.dloadN X19.here hx (hb hby d3_88) rfl ?_
  refine Owe.dloadN X19.here hx (hb hby d3_89) rfl ?_
  refine Owe.dcmpS X19.here hx (hb hby d3_90) rfl (v := (-1 : Int32)) (by decide +kernel) ?_
  refine Owe.ifNo X19.here hx (hb hby d3_91) rfl ((if0 _ _).trans (flt (by decide)).2.2.1) ?_
  refine Owe.iconst X19.here hx (hb hby d3_94) (w := (1 : Int32)) rfl ?_
  refine Owe.goto X19.here hx (hb hby d3_95) (pc' := 99) (by decide) (by decide) ?_
  refine Owe.istore X19.here hx (hb hby d3_99) rfl (l' := #[.val (.ref c3), .val (.double (0 : UInt64)), .second, .val (.double (4607182418800017408 : UInt64)), .second, .val (.int (1 : Int32))]) rfl ?_
  refine Owe.goto X19.here hx (hb hby d3_101) (pc' := 133) (by decide) (by decide) ?_
  refine Owe.iload X19.here hx (hb hby d3_133) rfl ?_
  refine Owe.retN X19 hx hlk (t := .boolean) Bd.returns (by simp) (hb hby d3_135) rfl fun fs hE => ?_
  rw [hG]
  refine ⟨_, _, rfl, ?_, frameMono hE (by decide) (by decide)⟩
  show Qh3a Z c3 h0 n0 _ T19.heap _
  rw [e19]
  exact ⟨rfl, N19, rfl⟩
theorem pn_h3b : plainName "com/example/gatemark/gatemark/eval/XPathValues$Comparison" = true := by first | (simp [plainName, overriddenIn]; done) | decide +kernel
theorem ef_h3b (m : MethodId) (x0 : Addr) (x1 : UInt64) (x2 : UInt64)  : entryFrame m #[(.ref x0), (.double x1), (.double x2)] 6 = mkF m 0 #[.val (.ref x0), .val (.double x1), .second, .val (.double x2), .second, .unset] [] := by first | (simp [entryFrame, mkF, argsToLocals, Value.category]; done) | rfl
def Qh3b (Z : State) (c3 : Addr) (h0 : Heap) (n0 : Nat) (v : Option Value) (h : Heap) (L : List Loc) : Prop := v = some (.int (0 : Int32)) ∧ Fr n0 L ∧ h = h0
set_option maxRecDepth 65536 in
set_option maxHeartbeats 40000000 in
theorem rmh3b (l : Launch) (Z : State) (a0 : Array Value) (hw : ∀ d ∈ tables_1, d.before a0 Z = true) (ws : List Jvm.Cond) (c3 : Addr) (h0 : Heap) (n0 : Nat) (Z0 : n0 ≤ h0.size) (E_c3 : Exa Z h0 c3 "com/example/gatemark/gatemark/eval/XPathValues$Comparison") (Fordinal_c3 : Fld Z h0 c3 "java/lang/Enum" "ordinal" "I" (.int (3 : Int32))) :
    MetFree l (⟨"com/example/gatemark/gatemark/eval/XPathValues$Comparison", "holds", "(DD)Z"⟩ : MethodName) (head1 (Jvm.Cond.code (⟨"com/example/gatemark/gatemark/eval/XPathValues$Comparison", "holds", "(DD)Z"⟩ : MethodName) prog_136_method_7_code 6 (some .boolean) :: ws) ({ frames := 1, cells := 0, slots := 0, locals := 12 } : Room)) (fun a U => a = #[(.ref c3), (.double (4607182418800017408 : UInt64)), (.double (0 : UInt64))] ∧ Z.Warmed39 U.vm ∧ U.heap = h0) (fun _ _ _ _ _ => True) (fun _ U o U' => ∃ v L, o = .returned v ∧ Qh3b Z c3 h0 n0 v U'.heap L ∧ FrameEnd U o U' L ({ frames := 1, cells := 0, slots := 0, locals := 12 } : Room).cells ({ frames := 1, cells := 0, slots := 0, locals := 12 } : Room).slots) := by
  refine MetFree.of_bodySF (plainFor_of_name pn_h3b) hisR ?_
  intro p e s m args below meth c s₁ Bd hml0 hP hK
  obtain ⟨rfl, hZ, hh⟩ := hP
  have hx := Bd.exec
  have hby := Bd.bytes
  have hml : c.maxLocals = 6 := hml0
  have hown : s.vm.findClass "com/example/gatemark/gatemark/eval/XPathValues$Comparison" = some m.cls := findClass_of_methodNamed Bd.named
  have hnm := (name_of_methodNamed Bd.named Bd.method).1
  have hlk : meth.locks = false := BodyLoose.notSynchronized Bd
  have X0 : Stand p l e ({ frames := 1, cells := 0, slots := 0, locals := 12 } : Room) s m #[(.ref c3), (.double (4607182418800017408 : UInt64)), (.double (0 : UInt64))] below meth c s₁ [] 0 0 := Stand.of_body Bd
  have e0 : s₁.heap = h0 := by rw [← hh, Bd.state]; rfl
  have N0 := Fr.nil n0
  obtain ⟨G, hG⟩ : ∃ G : Outcome → State → Prop, G = fun o u => ∃ v L, o = .returned v ∧ Qh3b Z c3 h0 n0 v u.heap L ∧ FrameEnd s o u L ({ frames := 1, cells := 0, slots := 0, locals := 12 } : Room).cells ({ frames := 1, cells := 0, slots := 0, locals := 12 } : Room).slots := ⟨_, rfl⟩
  suffices hgo : Owe p.tables e below G s₁ (mkF m 0 #[.val (.ref c3), .val (.double (4607182418800017408 : UInt64)), .second, .val (.double (0 : UInt64)), .second, .unset] []) by
    obtain ⟨u, o, h1, h2, h3, h4⟩ := hgo
    exact ⟨u, o, castTop (ef_h3b m c3 (4607182418800017408 : UInt64) (0 : UInt64)) h1, h2, h3, by rw [hG] at h4; exact h4⟩
  refine Owe.aloadN X0.here hx (hb hby d3_0) rfl rfl ?_
  refine Owe.virtUp X0 hx hZ (y := (⟨"com/example/gatemark/gatemark/eval/XPathValues$Comparison", "ordinal", "()I"⟩ : MethodName)) (z := (⟨"java/lang/Enum", "ordinal", "()I"⟩ : MethodName)) (owner := "java/lang/Enum") hown (mvT hZ (hw _ (List.mem_of_getElem? (i := 19) rfl))) (mvT hZ (hw _ (List.mem_of_getElem? (i := 20) rfl))) (mvT hZ (hw _ (List.mem_of_getElem? (i := 21) rfl))) (by decide) (mvT hZ (hw _ (List.mem_of_getElem? (i := 23) rfl))) (mvT hZ (hw _ (List.mem_of_getElem? (i := 22) rfl))) (backOf (W := 0) (rmo l Z a0 hw [] c3 (3 : Int32) h0 n0 Z0 Fordinal_c3) hZ (hw _ (List.mem_of_getElem? (i := 25) rfl)) (hw _ (List.mem_of_getElem? (i := 24) rfl)) (by decide) (by decide)) (by rw [hml]; rfl) (a := c3) (argsL := []) (rest := []) E_c3 (lenOf pd_0 rfl) rfl (Nat.le_of_ble_eq_true rfl) (hb hby d3_1) rfl e0 (by decide) (by decide) fun T20 v20 L20 X20 hQ20 => ?_
  obtain ⟨rfl, Nq20, e20⟩ := hQ20
  have N20 := Fr.app N0 Nq20
  refine Owe.tswIn X20.here hx (hb hby d3_4) rfl (by decide) rfl (pc' := 88) (by decide) (by decide) ?_
  refine Owe.dloadN X20.here hx (hb hby d3_88) rfl ?_
  refine Owe.dloadN X20.here hx (hb hby d3_89) rfl ?_
  refine Owe.dcmpS X20.here hx (hb hby d3_90) rfl (v := (1 : Int32)) (by decide +kernel) ?_
  refine Owe.ifYes X20.here hx (hb hby d3_91) rfl ((if0 _ _).trans (tlt (by decide)).2.2.1) (pc' := 98) (by decide) (by decide) ?_
  refine Owe.iconst X20.here hx (hb hby d3_98) (w := (0 : Int32)) rfl ?_
  refine Owe.istore X20.here hx (hb hby d3_99) rfl (l' := #[.val (.ref c3), .val (.double (4607182418800017408 : UInt64)), .second, .val (.double (0 : UInt64)), .second, .val (.int (0 : Int32))]) rfl ?_
  refine Owe.goto X20.here hx (hb hby d3_101) (pc' := 133) (by decide) (by decide) ?_
  refine Owe.iload X20.here hx (hb hby d3_133) rfl ?_
  refine Owe.retN X20 hx hlk (t := .boolean) Bd.returns (by simp) (hb hby d3_135) rfl fun fs hE => ?_
  rw [hG]
  refine ⟨_, _, rfl, ?_, frameMono hE (by decide) (by decide)⟩
  show Qh3b Z c3 h0 n0 _ T20.heap _
  rw [e20]
  exact ⟨rfl, N20, rfl⟩
theorem pn_p4 : plainName "com/example/gatemark/gatemark/eval/ComparisonIsEqualityPinLaw" = true := by first | (simp [plainName, overriddenIn]; done) | decide +kernel
theorem ef_p4 (m : MethodId) (x0 : Int32)  : entryFrame m #[(.int x0)] 2 = mkF m 0 #[.val (.int x0), .unset] [] := by first | (simp [entryFrame, mkF, argsToLocals, Value.category]; done) | rfl
def Qp4 (Z : State) (c4 : Addr) (h0 : Heap) (n0 : Nat) (v : Option Value) (h : Heap) (L : List Loc) : Prop := v = some (.ref c4) ∧ Fr n0 L ∧ h = h0
set_option maxRecDepth 65536 in
set_option maxHeartbeats 40000000 in
theorem rmp4 (l : Launch) (Z : State) (a0 : Array Value) (hw : ∀ d ∈ tables_1, d.before a0 Z = true) (ws : List Jvm.Cond) (c4 : Addr) (h0 : Heap) (n0 : Nat) (Z0 : n0 ≤ h0.size) (S_GREATER : Sta Z Z.heap "com/example/gatemark/gatemark/eval/XPathValues$Comparison" "GREATER" "Lcom/example/gatemark/gatemark/eval/XPathValues$Comparison;" (.ref c4)) (Ol : Old Z n0 h0) :
    MetFree l (⟨"com/example/gatemark/gatemark/eval/ComparisonIsEqualityPinLaw", "pick", "(I)Lcom/example/gatemark/gatemark/eval/XPathValues$Comparison;"⟩ : MethodName) (head1 (Jvm.Cond.code (⟨"com/example/gatemark/gatemark/eval/ComparisonIsEqualityPinLaw", "pick", "(I)Lcom/example/gatemark/gatemark/eval/XPathValues$Comparison;"⟩ : MethodName) method_2_code 2 (some (.object "com/example/gatemark/gatemark/eval/XPathValues$Comparison")) :: ws) ({ frames := 0, cells := 0, slots := 0, locals := 0 } : Room)) (fun a U => a = #[(.int (4 : Int32))] ∧ Z.Warmed39 U.vm ∧ U.heap = h0) (fun _ _ _ _ _ => True) (fun _ U o U' => ∃ v L, o = .returned v ∧ Qp4 Z c4 h0 n0 v U'.heap L ∧ FrameEnd U o U' L ({ frames := 0, cells := 0, slots := 0, locals := 0 } : Room).cells ({ frames := 0, cells := 0, slots := 0, locals := 0 } : Room).slots) := by
  refine MetFree.of_bodySF (plainFor_of_name pn_p4) hisR ?_
  intro p e s m args below meth c s₁ Bd hml0 hP hK
  obtain ⟨rfl, hZ, hh⟩ := hP
  have hx := Bd.exec
  have hby := Bd.bytes
  have hml : c.maxLocals = 2 := hml0
  have hown : s.vm.findClass "com/example/gatemark/gatemark/eval/ComparisonIsEqualityPinLaw" = some m.cls := findClass_of_methodNamed Bd.named
  have hnm := (name_of_methodNamed Bd.named Bd.method).1
  have hlk : meth.locks = false := BodyLoose.notSynchronized Bd
  have X0 : Stand p l e ({ frames := 0, cells := 0, slots := 0, locals := 0 } : Room) s m #[(.int (4 : Int32))] below meth c s₁ [] 0 0 := Stand.of_body Bd
  have e0 : s₁.heap = h0 := by rw [← hh, Bd.state]; rfl
  have N0 := Fr.nil n0
  obtain ⟨G, hG⟩ : ∃ G : Outcome → State → Prop, G = fun o u => ∃ v L, o = .returned v ∧ Qp4 Z c4 h0 n0 v u.heap L ∧ FrameEnd s o u L ({ frames := 0, cells := 0, slots := 0, locals := 0 } : Room).cells ({ frames := 0, cells := 0, slots := 0, locals := 0 } : Room).slots := ⟨_, rfl⟩
  suffices hgo : Owe p.tables e below G s₁ (mkF m 0 #[.val (.int (4 : Int32)), .unset] []) by
    obtain ⟨u, o, h1, h2, h3, h4⟩ := hgo
    exact ⟨u, o, castTop (ef_p4 m (4 : Int32)) h1, h2, h3, by rw [hG] at h4; exact h4⟩
  refine Owe.iloadN X0.here hx (hb hby d1_0) rfl ?_
  refine Owe.ifYes X0.here hx (hb hby d1_1) rfl ((if0 _ _).trans (feq (by decide)).2) (pc' := 11) (by decide) (by decide) ?_
  refine Owe.iloadN X0.here hx (hb hby d1_11) rfl ?_
  refine Owe.iconst X0.here hx (hb hby d1_12) (w := (1 : Int32)) rfl ?_
  refine Owe.icmpYes X0.here hx (hb hby d1_13) rfl (feq (by decide)).2 (pc' := 23) (by decide) (by decide) ?_
  refine Owe.iloadN X0.here hx (hb hby d1_23) rfl ?_
  refine Owe.iconst X0.here hx (hb hby d1_24) (w := (2 : Int32)) rfl ?_
  refine Owe.icmpYes X0.here hx (hb hby d1_25) rfl (feq (by decide)).2 (pc' := 35) (by decide) (by decide) ?_
  refine Owe.iloadN X0.here hx (hb hby d1_35) rfl ?_
  refine Owe.iconst X0.here hx (hb hby d1_36) (w := (3 : Int32)) rfl ?_
  refine Owe.icmpYes X0.here hx (hb hby d1_37) rfl (feq (by decide)).2 (pc' := 47) (by decide) (by decide) ?_
  refine Owe.iloadN X0.here hx (hb hby d1_47) rfl ?_
  refine Owe.iconst X0.here hx (hb hby d1_48) (w := (4 : Int32)) rfl ?_
  refine Owe.icmpNo X0.here hx (hb hby d1_49) rfl (teq (by decide)).2 ?_
  refine Owe.gets X0 hx hZ hown (hw _ (List.mem_of_getElem? (i := 37) rfl)) Via.refl e0 (S_GREATER.ext Ol.2) (hb hby d1_52) fun T21 X21 e21 => ?_
  refine Owe.astoreN X21.here hx (hb hby d1_55) rfl rfl (l' := #[.val (.int (4 : Int32)), .val (.ref c4)]) rfl ?_
  refine Owe.goto X21.here hx (hb hby d1_56) (pc' := 63) (by decide) (by decide) ?_
  refine Owe.aloadN X21.here hx (hb hby d1_63) rfl rfl ?_
  refine Owe.retR X21 hx hlk (t := (.object "com/example/gatemark/gatemark/eval/XPathValues$Comparison")) Bd.returns rfl rfl rfl (hb hby d1_64) rfl fun fs hE => ?_
  rw [hG]
  refine ⟨_, _, rfl, ?_, frameMono hE (by decide) (by decide)⟩
  show Qp4 Z c4 h0 n0 _ T21.heap _
  rw [e21]
  exact ⟨rfl, N0, rfl⟩
theorem pn_q4 : plainName "com/example/gatemark/gatemark/eval/XPathValues$Comparison" = true := by first | (simp [plainName, overriddenIn]; done) | decide +kernel
theorem ef_q4 (m : MethodId) (x0 : Addr)  : entryFrame m #[(.ref x0)] 1 = mkF m 0 #[.val (.ref x0)] [] := by first | (simp [entryFrame, mkF, argsToLocals, Value.category]; done) | rfl
def Qq4 (Z : State) (c0 : Addr) (c1 : Addr) (c4 : Addr) (h0 : Heap) (n0 : Nat) (v : Option Value) (h : Heap) (L : List Loc) : Prop := v = some (.int (0 : Int32)) ∧ Fr n0 L ∧ h = h0
set_option maxRecDepth 65536 in
set_option maxHeartbeats 40000000 in
theorem rmq4 (l : Launch) (Z : State) (a0 : Array Value) (hw : ∀ d ∈ tables_1, d.before a0 Z = true) (ws : List Jvm.Cond) (c0 : Addr) (c1 : Addr) (c4 : Addr) (h0 : Heap) (n0 : Nat) (Z0 : n0 ≤ h0.size) (S_EQUAL : Sta Z Z.heap "com/example/gatemark/gatemark/eval/XPathValues$Comparison" "EQUAL" "Lcom/example/gatemark/gatemark/eval/XPathValues$Comparison;" (.ref c0)) (S_NOT_EQUAL : Sta Z Z.heap "com/example/gatemark/gatemark/eval/XPathValues$Comparison" "NOT_EQUAL" "Lcom/example/gatemark/gatemark/eval/XPathValues$Comparison;" (.ref c1)) (Ol : Old Z n0 h0) (ne_c0_c4 : c0 ≠ c4) (ne_c1_c4 : c1 ≠ c4) :
    MetFree l (⟨"com/example/gatemark/gatemark/eval/XPathValues$Comparison", "isEquality", "()Z"⟩ : MethodName) (head1 (Jvm.Cond.code (⟨"com/example/gatemark/gatemark/eval/XPathValues$Comparison", "isEquality", "()Z"⟩ : MethodName) prog_136_method_5_code 1 (some .boolean) :: ws) ({ frames := 0, cells := 0, slots := 0, locals := 0 } : Room)) (fun a U => a = #[(.ref c4)] ∧ Z.Warmed39 U.vm ∧ U.heap = h0) (fun _ _ _ _ _ => True) (fun _ U o U' => ∃ v L, o = .returned v ∧ Qq4 Z c0 c1 c4 h0 n0 v U'.heap L ∧ FrameEnd U o U' L ({ frames := 0, cells := 0, slots := 0, locals := 0 } : Room).cells ({ frames := 0, cells := 0, slots := 0, locals := 0 } : Room).slots) := by
  refine MetFree.of_bodySF (plainFor_of_name pn_q4) hisR ?_
  intro p e s m args below meth c s₁ Bd hml0 hP hK
  obtain ⟨rfl, hZ, hh⟩ := hP
  have hx := Bd.exec
  have hby := Bd.bytes
  have hml : c.maxLocals = 1 := hml0
  have hown : s.vm.findClass "com/example/gatemark/gatemark/eval/XPathValues$Comparison" = some m.cls := findClass_of_methodNamed Bd.named
  have hnm := (name_of_methodNamed Bd.named Bd.method).1
  have hlk : meth.locks = false := BodyLoose.notSynchronized Bd
  have X0 : Stand p l e ({ frames := 0, cells := 0, slots := 0, locals := 0 } : Room) s m #[(.ref c4)] below meth c s₁ [] 0 0 := Stand.of_body Bd
  have e0 : s₁.heap = h0 := by rw [← hh, Bd.state]; rfl
  have N0 := Fr.nil n0
  obtain ⟨G, hG⟩ : ∃ G : Outcome → State → Prop, G = fun o u => ∃ v L, o = .returned v ∧ Qq4 Z c0 c1 c4 h0 n0 v u.heap L ∧ FrameEnd s o u L ({ frames := 0, cells := 0, slots := 0, locals := 0 } : Room).cells ({ frames := 0, cells := 0, slots := 0, locals := 0 } : Room).slots := ⟨_, rfl⟩
  suffices hgo : Owe p.tables e below G s₁ (mkF m 0 #[.val (.ref c4)] []) by
    obtain ⟨u, o, h1, h2, h3, h4⟩ := hgo
    exact ⟨u, o, castTop (ef_q4 m c4) h1, h2, h3, by rw [hG] at h4; exact h4⟩
  refine Owe.aloadN X0.here hx (hb hby d2_0) rfl rfl ?_
  refine Owe.gets X0 hx hZ hown (hw _ (List.mem_of_getElem? (i := 13) rfl)) Via.refl e0 (S_EQUAL.ext Ol.2) (hb hby d2_1) fun T22 X22 e22 => ?_
  refine Owe.acmpNo X22.here hx (hb hby d2_4) rfl rfl rfl (by simp [Jvm.Free.XT.acmp, (Ne.symm ne_c0_c4)]) ?_
  refine Owe.aloadN X22.here hx (hb hby d2_7) rfl rfl ?_
  refine Owe.gets X22 hx hZ hown (hw _ (List.mem_of_getElem? (i := 30) rfl)) Via.refl e22 (S_NOT_EQUAL.ext Ol.2) (hb hby d2_8) fun T23 X23 e23 => ?_
  refine Owe.acmpYes X23.here hx (hb hby d2_11) rfl rfl rfl (by simp [Jvm.Free.XT.acmp, (Ne.symm ne_c1_c4)]) (pc' := 18) (by decide) (by decide) ?_
  refine Owe.iconst X23.here hx (hb hby d2_18) (w := (0 : Int32)) rfl ?_
  refine Owe.retN X23 hx hlk (t := .boolean) Bd.returns (by simp) (hb hby d2_19) rfl fun fs hE => ?_
  rw [hG]
  refine ⟨_, _, rfl, ?_, frameMono hE (by decide) (by decide)⟩
  show Qq4 Z c0 c1 c4 h0 n0 _ T23.heap _
  rw [e23]
  exact ⟨rfl, N0, rfl⟩
theorem pn_h4a : plainName "com/example/gatemark/gatemark/eval/XPathValues$Comparison" = true := by first | (simp [plainName, overriddenIn]; done) | decide +kernel
theorem ef_h4a (m : MethodId) (x0 : Addr) (x1 : UInt64) (x2 : UInt64)  : entryFrame m #[(.ref x0), (.double x1), (.double x2)] 6 = mkF m 0 #[.val (.ref x0), .val (.double x1), .second, .val (.double x2), .second, .unset] [] := by first | (simp [entryFrame, mkF, argsToLocals, Value.category]; done) | rfl
def Qh4a (Z : State) (c4 : Addr) (h0 : Heap) (n0 : Nat) (v : Option Value) (h : Heap) (L : List Loc) : Prop := v = some (.int (0 : Int32)) ∧ Fr n0 L ∧ h = h0
set_option maxRecDepth 65536 in
set_option maxHeartbeats 40000000 in
theorem rmh4a (l : Launch) (Z : State) (a0 : Array Value) (hw : ∀ d ∈ tables_1, d.before a0 Z = true) (ws : List Jvm.Cond) (c4 : Addr) (h0 : Heap) (n0 : Nat) (Z0 : n0 ≤ h0.size) (E_c4 : Exa Z h0 c4 "com/example/gatemark/gatemark/eval/XPathValues$Comparison") (Fordinal_c4 : Fld Z h0 c4 "java/lang/Enum" "ordinal" "I" (.int (4 : Int32))) :
    MetFree l (⟨"com/example/gatemark/gatemark/eval/XPathValues$Comparison", "holds", "(DD)Z"⟩ : MethodName) (head1 (Jvm.Cond.code (⟨"com/example/gatemark/gatemark/eval/XPathValues$Comparison", "holds", "(DD)Z"⟩ : MethodName) prog_136_method_7_code 6 (some .boolean) :: ws) ({ frames := 1, cells := 0, slots := 0, locals := 12 } : Room)) (fun a U => a = #[(.ref c4), (.double (0 : UInt64)), (.double (4607182418800017408 : UInt64))] ∧ Z.Warmed39 U.vm ∧ U.heap = h0) (fun _ _ _ _ _ => True) (fun _ U o U' => ∃ v L, o = .returned v ∧ Qh4a Z c4 h0 n0 v U'.heap L ∧ FrameEnd U o U' L ({ frames := 1, cells := 0, slots := 0, locals := 12 } : Room).cells ({ frames := 1, cells := 0, slots := 0, locals := 12 } : Room).slots) := by
  refine MetFree.of_bodySF (plainFor_of_name pn_h4a) hisR ?_
  intro p e s m args below meth c s₁ Bd hml0 hP hK
  obtain ⟨rfl, hZ, hh⟩ := hP
  have hx := Bd.exec
  have hby := Bd.bytes
  have hml : c.maxLocals = 6 := hml0
  have hown : s.vm.findClass "com/example/gatemark/gatemark/eval/XPathValues$Comparison" = some m.cls := findClass_of_methodNamed Bd.named
  have hnm := (name_of_methodNamed Bd.named Bd.method).1
  have hlk : meth.locks = false := BodyLoose.notSynchronized Bd
  have X0 : Stand p l e ({ frames := 1, cells := 0, slots := 0, locals := 12 } : Room) s m #[(.ref c4), (.double (0 : UInt64)), (.double (4607182418800017408 : UInt64))] below meth c s₁ [] 0 0 := Stand.of_body Bd
  have e0 : s₁.heap = h0 := by rw [← hh, Bd.state]; rfl
  have N0 := Fr.nil n0
  obtain ⟨G, hG⟩ : ∃ G : Outcome → State → Prop, G = fun o u => ∃ v L, o = .returned v ∧ Qh4a Z c4 h0 n0 v u.heap L ∧ FrameEnd s o u L ({ frames := 1, cells := 0, slots := 0, locals := 12 } : Room).cells ({ frames := 1, cells := 0, slots := 0, locals := 12 } : Room).slots := ⟨_, rfl⟩
  suffices hgo : Owe p.tables e below G s₁ (mkF m 0 #[.val (.ref c4), .val (.double (0 : UInt64)), .second, .val (.double (4607182418800017408 : UInt64)), .second, .unset] []) by
    obtain ⟨u, o, h1, h2, h3, h4⟩ := hgo
    exact ⟨u, o, castTop (ef_h4a m c4 (0 : UInt64) (4607182418800017408 : UInt64)) h1, h2, h3, by rw [hG] at h4; exact h4⟩
  refine Owe.aloadN X0.here hx (hb hby d3_0) rfl rfl ?_
  refine Owe.virtUp X0 hx hZ (y := (⟨"com/example/gatemark/gatemark/eval/XPathValues$Comparison", "ordinal", "()I"⟩ : MethodName)) (z := (⟨"java/lang/Enum", "ordinal", "()I"⟩ : MethodName)) (owner := "java/lang/Enum") hown (mvT hZ (hw _ (List.mem_of_getElem? (i := 19) rfl))) (mvT hZ (hw _ (List.mem_of_getElem? (i := 20) rfl))) (mvT hZ (hw _ (List.mem_of_getElem? (i := 21) rfl))) (by decide) (mvT hZ (hw _ (List.mem_of_getElem? (i := 23) rfl))) (mvT hZ (hw _ (List.mem_of_getElem? (i := 22) rfl))) (backOf (W := 0) (rmo l Z a0 hw [] c4 (4 : Int32) h0 n0 Z0 Fordinal_c4) hZ (hw _ (List.mem_of_getElem? (i := 25) rfl)) (hw _ (List.mem_of_getElem? (i := 24) rfl)) (by decide) (by decide)) (by rw [hml]; rfl) (a := c4) (argsL := []) (rest := []) E_c4 (lenOf pd_0 rfl) rfl (Nat.le_of_ble_eq_true rfl) (hb hby d3_1) rfl e0 (by decide) (by decide) fun T24 v24 L24 X24 hQ24 => ?_
  obtain ⟨rfl, Nq24, e24⟩ := hQ24
  have N24 := Fr.app N0 Nq24
  refine Owe.tswIn X24.here hx (hb hby d3_4) rfl (by decide) rfl (pc' := 104) (by decide) (by decide) ?_
  refine Owe.dloadN X24.here hx (hb hby d3_104) rfl ?_
  refine Owe.dloadN X24.here hx (hb hby d3_105) rfl ?_
  refine Owe.dcmpS X24.here hx (hb hby d3_106) rfl (v := (-1 : Int32)) (by decide +kernel) ?_
  refine Owe.ifYes X24.here hx (hb hby d3_107) rfl ((if0 _ _).trans (flt (by decide)).2.2.2) (pc' := 114) (by decide) (by decide) ?_
  refine Owe.iconst X24.here hx (hb hby d3_114) (w := (0 : Int32)) rfl ?_
  refine Owe.istore X24.here hx (hb hby d3_115) rfl (l' := #[.val (.ref c4), .val (.double (0 : UInt64)), .second, .val (.double (4607182418800017408 : UInt64)), .second, .val (.int (0 : Int32))]) rfl ?_
  refine Owe.goto X24.here hx (hb hby d3_117) (pc' := 133) (by decide) (by decide) ?_
  refine Owe.iload X24.here hx (hb hby d3_133) rfl ?_
  refine Owe.retN X24 hx hlk (t := .boolean) Bd.returns (by simp) (hb hby d3_135) rfl fun fs hE => ?_
  rw [hG]
  refine ⟨_, _, rfl, ?_, frameMono hE (by decide) (by decide)⟩
  show Qh4a Z c4 h0 n0 _ T24.heap _
  rw [e24]
  exact ⟨rfl, N24, rfl⟩
theorem pn_h4b : plainName "com/example/gatemark/gatemark/eval/XPathValues$Comparison" = true := by first | (simp [plainName, overriddenIn]; done) | decide +kernel
theorem ef_h4b (m : MethodId) (x0 : Addr) (x1 : UInt64) (x2 : UInt64)  : entryFrame m #[(.ref x0), (.double x1), (.double x2)] 6 = mkF m 0 #[.val (.ref x0), .val (.double x1), .second, .val (.double x2), .second, .unset] [] := by first | (simp [entryFrame, mkF, argsToLocals, Value.category]; done) | rfl
def Qh4b (Z : State) (c4 : Addr) (h0 : Heap) (n0 : Nat) (v : Option Value) (h : Heap) (L : List Loc) : Prop := v = some (.int (1 : Int32)) ∧ Fr n0 L ∧ h = h0
set_option maxRecDepth 65536 in
set_option maxHeartbeats 40000000 in
theorem rmh4b (l : Launch) (Z : State) (a0 : Array Value) (hw : ∀ d ∈ tables_1, d.before a0 Z = true) (ws : List Jvm.Cond) (c4 : Addr) (h0 : Heap) (n0 : Nat) (Z0 : n0 ≤ h0.size) (E_c4 : Exa Z h0 c4 "com/example/gatemark/gatemark/eval/XPathValues$Comparison") (Fordinal_c4 : Fld Z h0 c4 "java/lang/Enum" "ordinal" "I" (.int (4 : Int32))) :
    MetFree l (⟨"com/example/gatemark/gatemark/eval/XPathValues$Comparison", "holds", "(DD)Z"⟩ : MethodName) (head1 (Jvm.Cond.code (⟨"com/example/gatemark/gatemark/eval/XPathValues$Comparison", "holds", "(DD)Z"⟩ : MethodName) prog_136_method_7_code 6 (some .boolean) :: ws) ({ frames := 1, cells := 0, slots := 0, locals := 12 } : Room)) (fun a U => a = #[(.ref c4), (.double (4607182418800017408 : UInt64)), (.double (0 : UInt64))] ∧ Z.Warmed39 U.vm ∧ U.heap = h0) (fun _ _ _ _ _ => True) (fun _ U o U' => ∃ v L, o = .returned v ∧ Qh4b Z c4 h0 n0 v U'.heap L ∧ FrameEnd U o U' L ({ frames := 1, cells := 0, slots := 0, locals := 12 } : Room).cells ({ frames := 1, cells := 0, slots := 0, locals := 12 } : Room).slots) := by
  refine MetFree.of_bodySF (plainFor_of_name pn_h4b) hisR ?_
  intro p e s m args below meth c s₁ Bd hml0 hP hK
  obtain ⟨rfl, hZ, hh⟩ := hP
  have hx := Bd.exec
  have hby := Bd.bytes
  have hml : c.maxLocals = 6 := hml0
  have hown : s.vm.findClass "com/example/gatemark/gatemark/eval/XPathValues$Comparison" = some m.cls := findClass_of_methodNamed Bd.named
  have hnm := (name_of_methodNamed Bd.named Bd.method).1
  have hlk : meth.locks = false := BodyLoose.notSynchronized Bd
  have X0 : Stand p l e ({ frames := 1, cells := 0, slots := 0, locals := 12 } : Room) s m #[(.ref c4), (.double (4607182418800017408 : UInt64)), (.double (0 : UInt64))] below meth c s₁ [] 0 0 := Stand.of_body Bd
  have e0 : s₁.heap = h0 := by rw [← hh, Bd.state]; rfl
  have N0 := Fr.nil n0
  obtain ⟨G, hG⟩ : ∃ G : Outcome → State → Prop, G = fun o u => ∃ v L, o = .returned v ∧ Qh4b Z c4 h0 n0 v u.heap L ∧ FrameEnd s o u L ({ frames := 1, cells := 0, slots := 0, locals := 12 } : Room).cells ({ frames := 1, cells := 0, slots := 0, locals := 12 } : Room).slots := ⟨_, rfl⟩
  suffices hgo : Owe p.tables e below G s₁ (mkF m 0 #[.val (.ref c4), .val (.double (4607182418800017408 : UInt64)), .second, .val (.double (0 : UInt64)), .second, .unset] []) by
    obtain ⟨u, o, h1, h2, h3, h4⟩ := hgo
    exact ⟨u, o, castTop (ef_h4b m c4 (4607182418800017408 : UInt64) (0 : UInt64)) h1, h2, h3, by rw [hG] at h4; exact h4⟩
  refine Owe.aloadN X0.here hx (hb hby d3_0) rfl rfl ?_
  refine Owe.virtUp X0 hx hZ (y := (⟨"com/example/gatemark/gatemark/eval/XPathValues$Comparison", "ordinal", "()I"⟩ : MethodName)) (z := (⟨"java/lang/Enum", "ordinal", "()I"⟩ : MethodName)) (owner := "java/lang/Enum") hown (mvT hZ (hw _ (List.mem_of_getElem? (i := 19) rfl))) (mvT hZ (hw _ (List.mem_of_getElem? (i := 20) rfl))) (mvT hZ (hw _ (List.mem_of_getElem? (i := 21) rfl))) (by decide) (mvT hZ (hw _ (List.mem_of_getElem? (i := 23) rfl))) (mvT hZ (hw _ (List.mem_of_getElem? (i := 22) rfl))) (backOf (W := 0) (rmo l Z a0 hw [] c4 (4 : Int32) h0 n0 Z0 Fordinal_c4) hZ (hw _ (List.mem_of_getElem? (i := 25) rfl)) (hw _ (List.mem_of_getElem? (i := 24) rfl)) (by decide) (by decide)) (by rw [hml]; rfl) (a := c4) (argsL := []) (rest := []) E_c4 (lenOf pd_0 rfl) rfl (Nat.le_of_ble_eq_true rfl) (hb hby d3_1) rfl e0 (by decide) (by decide) fun T25 v25 L25 X25 hQ25 => ?_
  obtain ⟨rfl, Nq25, e25⟩ := hQ25
  have N25 := Fr.app N0 Nq25
  refine Owe.tswIn X25.here hx (hb hby d3_4) rfl (by decide) rfl (pc' := 104) (by decide) (by decide) ?_
  refine Owe.dloadN X25.here hx (hb hby d3_104) rfl ?_
  refine Owe.dloadN X25.here hx (hb hby d3_105) rfl ?_
  refine Owe.dcmpS X25.here hx (hb hby d3_106) rfl (v := (1 : Int32)) (by decide +kernel) ?_
  refine Owe.ifNo X25.here hx (hb hby d3_107) rfl ((if0 _ _).trans (tlt (by decide)).2.2.2) ?_
  refine Owe.iconst X25.here hx (hb hby d3_110) (w := (1 : Int32)) rfl ?_
  refine Owe.goto X25.here hx (hb hby d3_111) (pc' := 115) (by decide) (by decide) ?_
  refine Owe.istore X25.here hx (hb hby d3_115) rfl (l' := #[.val (.ref c4), .val (.double (4607182418800017408 : UInt64)), .second, .val (.double (0 : UInt64)), .second, .val (.int (1 : Int32))]) rfl ?_
  refine Owe.goto X25.here hx (hb hby d3_117) (pc' := 133) (by decide) (by decide) ?_
  refine Owe.iload X25.here hx (hb hby d3_133) rfl ?_
  refine Owe.retN X25 hx hlk (t := .boolean) Bd.returns (by simp) (hb hby d3_135) rfl fun fs hE => ?_
  rw [hG]
  refine ⟨_, _, rfl, ?_, frameMono hE (by decide) (by decide)⟩
  show Qh4b Z c4 h0 n0 _ T25.heap _
  rw [e25]
  exact ⟨rfl, N25, rfl⟩
theorem pn_p5 : plainName "com/example/gatemark/gatemark/eval/ComparisonIsEqualityPinLaw" = true := by first | (simp [plainName, overriddenIn]; done) | decide +kernel
theorem ef_p5 (m : MethodId) (x0 : Int32)  : entryFrame m #[(.int x0)] 2 = mkF m 0 #[.val (.int x0), .unset] [] := by first | (simp [entryFrame, mkF, argsToLocals, Value.category]; done) | rfl
def Qp5 (Z : State) (c5 : Addr) (h0 : Heap) (n0 : Nat) (v : Option Value) (h : Heap) (L : List Loc) : Prop := v = some (.ref c5) ∧ Fr n0 L ∧ h = h0
set_option maxRecDepth 65536 in
set_option maxHeartbeats 40000000 in
theorem rmp5 (l : Launch) (Z : State) (a0 : Array Value) (hw : ∀ d ∈ tables_1, d.before a0 Z = true) (ws : List Jvm.Cond) (c5 : Addr) (h0 : Heap) (n0 : Nat) (Z0 : n0 ≤ h0.size) (S_GREATER_OR_EQUAL : Sta Z Z.heap "com/example/gatemark/gatemark/eval/XPathValues$Comparison" "GREATER_OR_EQUAL" "Lcom/example/gatemark/gatemark/eval/XPathValues$Comparison;" (.ref c5)) (Ol : Old Z n0 h0) :
    MetFree l (⟨"com/example/gatemark/gatemark/eval/ComparisonIsEqualityPinLaw", "pick", "(I)Lcom/example/gatemark/gatemark/eval/XPathValues$Comparison;"⟩ : MethodName) (head1 (Jvm.Cond.code (⟨"com/example/gatemark/gatemark/eval/ComparisonIsEqualityPinLaw", "pick", "(I)Lcom/example/gatemark/gatemark/eval/XPathValues$Comparison;"⟩ : MethodName) method_2_code 2 (some (.object "com/example/gatemark/gatemark/eval/XPathValues$Comparison")) :: ws) ({ frames := 0, cells := 0, slots := 0, locals := 0 } : Room)) (fun a U => a = #[(.int (5 : Int32))] ∧ Z.Warmed39 U.vm ∧ U.heap = h0) (fun _ _ _ _ _ => True) (fun _ U o U' => ∃ v L, o = .returned v ∧ Qp5 Z c5 h0 n0 v U'.heap L ∧ FrameEnd U o U' L ({ frames := 0, cells := 0, slots := 0, locals := 0 } : Room).cells ({ frames := 0, cells := 0, slots := 0, locals := 0 } : Room).slots) := by
  refine MetFree.of_bodySF (plainFor_of_name pn_p5) hisR ?_
  intro p e s m args below meth c s₁ Bd hml0 hP hK
  obtain ⟨rfl, hZ, hh⟩ := hP
  have hx := Bd.exec
  have hby := Bd.bytes
  have hml : c.maxLocals = 2 := hml0
  have hown : s.vm.findClass "com/example/gatemark/gatemark/eval/ComparisonIsEqualityPinLaw" = some m.cls := findClass_of_methodNamed Bd.named
  have hnm := (name_of_methodNamed Bd.named Bd.method).1
  have hlk : meth.locks = false := BodyLoose.notSynchronized Bd
  have X0 : Stand p l e ({ frames := 0, cells := 0, slots := 0, locals := 0 } : Room) s m #[(.int (5 : Int32))] below meth c s₁ [] 0 0 := Stand.of_body Bd
  have e0 : s₁.heap = h0 := by rw [← hh, Bd.state]; rfl
  have N0 := Fr.nil n0
  obtain ⟨G, hG⟩ : ∃ G : Outcome → State → Prop, G = fun o u => ∃ v L, o = .returned v ∧ Qp5 Z c5 h0 n0 v u.heap L ∧ FrameEnd s o u L ({ frames := 0, cells := 0, slots := 0, locals := 0 } : Room).cells ({ frames := 0, cells := 0, slots := 0, locals := 0 } : Room).slots := ⟨_, rfl⟩
  suffices hgo : Owe p.tables e below G s₁ (mkF m 0 #[.val (.int (5 : Int32)), .unset] []) by
    obtain ⟨u, o, h1, h2, h3, h4⟩ := hgo
    exact ⟨u, o, castTop (ef_p5 m (5 : Int32)) h1, h2, h3, by rw [hG] at h4; exact h4⟩
  refine Owe.iloadN X0.here hx (hb hby d1_0) rfl ?_
  refine Owe.ifYes X0.here hx (hb hby d1_1) rfl ((if0 _ _).trans (feq (by decide)).2) (pc' := 11) (by decide) (by decide) ?_
  refine Owe.iloadN X0.here hx (hb hby d1_11) rfl ?_
  refine Owe.iconst X0.here hx (hb hby d1_12) (w := (1 : Int32)) rfl ?_
  refine Owe.icmpYes X0.here hx (hb hby d1_13) rfl (feq (by decide)).2 (pc' := 23) (by decide) (by decide) ?_
  refine Owe.iloadN X0.here hx (hb hby d1_23) rfl ?_
  refine Owe.iconst X0.here hx (hb hby d1_24) (w := (2 : Int32)) rfl ?_
  refine Owe.icmpYes X0.here hx (hb hby d1_25) rfl (feq (by decide)).2 (pc' := 35) (by decide) (by decide) ?_
  refine Owe.iloadN X0.here hx (hb hby d1_35) rfl ?_
  refine Owe.iconst X0.here hx (hb hby d1_36) (w := (3 : Int32)) rfl ?_
  refine Owe.icmpYes X0.here hx (hb hby d1_37) rfl (feq (by decide)).2 (pc' := 47) (by decide) (by decide) ?_
  refine Owe.iloadN X0.here hx (hb hby d1_47) rfl ?_
  refine Owe.iconst X0.here hx (hb hby d1_48) (w := (4 : Int32)) rfl ?_
  refine Owe.icmpYes X0.here hx (hb hby d1_49) rfl (feq (by decide)).2 (pc' := 59) (by decide) (by decide) ?_
  refine Owe.gets X0 hx hZ hown (hw _ (List.mem_of_getElem? (i := 35) rfl)) Via.refl e0 (S_GREATER_OR_EQUAL.ext Ol.2) (hb hby d1_59) fun T26 X26 e26 => ?_
  refine Owe.astoreN X26.here hx (hb hby d1_62) rfl rfl (l' := #[.val (.int (5 : Int32)), .val (.ref c5)]) rfl ?_
  refine Owe.aloadN X26.here hx (hb hby d1_63) rfl rfl ?_
  refine Owe.retR X26 hx hlk (t := (.object "com/example/gatemark/gatemark/eval/XPathValues$Comparison")) Bd.returns rfl rfl rfl (hb hby d1_64) rfl fun fs hE => ?_
  rw [hG]
  refine ⟨_, _, rfl, ?_, frameMono hE (by decide) (by decide)⟩
  show Qp5 Z c5 h0 n0 _ T26.heap _
  rw [e26]
  exact ⟨rfl, N0, rfl⟩
theorem pn_q5 : plainName "com/example/gatemark/gatemark/eval/XPathValues$Comparison" = true := by first | (simp [plainName, overriddenIn]; done) | decide +kernel
theorem ef_q5 (m : MethodId) (x0 : Addr)  : entryFrame m #[(.ref x0)] 1 = mkF m 0 #[.val (.ref x0)] [] := by first | (simp [entryFrame, mkF, argsToLocals, Value.category]; done) | rfl
def Qq5 (Z : State) (c0 : Addr) (c1 : Addr) (c5 : Addr) (h0 : Heap) (n0 : Nat) (v : Option Value) (h : Heap) (L : List Loc) : Prop := v = some (.int (0 : Int32)) ∧ Fr n0 L ∧ h = h0
set_option maxRecDepth 65536 in
set_option maxHeartbeats 40000000 in
theorem rmq5 (l : Launch) (Z : State) (a0 : Array Value) (hw : ∀ d ∈ tables_1, d.before a0 Z = true) (ws : List Jvm.Cond) (c0 : Addr) (c1 : Addr) (c5 : Addr) (h0 : Heap) (n0 : Nat) (Z0 : n0 ≤ h0.size) (S_EQUAL : Sta Z Z.heap "com/example/gatemark/gatemark/eval/XPathValues$Comparison" "EQUAL" "Lcom/example/gatemark/gatemark/eval/XPathValues$Comparison;" (.ref c0)) (S_NOT_EQUAL : Sta Z Z.heap "com/example/gatemark/gatemark/eval/XPathValues$Comparison" "NOT_EQUAL" "Lcom/example/gatemark/gatemark/eval/XPathValues$Comparison;" (.ref c1)) (Ol : Old Z n0 h0) (ne_c0_c5 : c0 ≠ c5) (ne_c1_c5 : c1 ≠ c5) :
    MetFree l (⟨"com/example/gatemark/gatemark/eval/XPathValues$Comparison", "isEquality", "()Z"⟩ : MethodName) (head1 (Jvm.Cond.code (⟨"com/example/gatemark/gatemark/eval/XPathValues$Comparison", "isEquality", "()Z"⟩ : MethodName) prog_136_method_5_code 1 (some .boolean) :: ws) ({ frames := 0, cells := 0, slots := 0, locals := 0 } : Room)) (fun a U => a = #[(.ref c5)] ∧ Z.Warmed39 U.vm ∧ U.heap = h0) (fun _ _ _ _ _ => True) (fun _ U o U' => ∃ v L, o = .returned v ∧ Qq5 Z c0 c1 c5 h0 n0 v U'.heap L ∧ FrameEnd U o U' L ({ frames := 0, cells := 0, slots := 0, locals := 0 } : Room).cells ({ frames := 0, cells := 0, slots := 0, locals := 0 } : Room).slots) := by
  refine MetFree.of_bodySF (plainFor_of_name pn_q5) hisR ?_
  intro p e s m args below meth c s₁ Bd hml0 hP hK
  obtain ⟨rfl, hZ, hh⟩ := hP
  have hx := Bd.exec
  have hby := Bd.bytes
  have hml : c.maxLocals = 1 := hml0
  have hown : s.vm.findClass "com/example/gatemark/gatemark/eval/XPathValues$Comparison" = some m.cls := findClass_of_methodNamed Bd.named
  have hnm := (name_of_methodNamed Bd.named Bd.method).1
  have hlk : meth.locks = false := BodyLoose.notSynchronized Bd
  have X0 : Stand p l e ({ frames := 0, cells := 0, slots := 0, locals := 0 } : Room) s m #[(.ref c5)] below meth c s₁ [] 0 0 := Stand.of_body Bd
  have e0 : s₁.heap = h0 := by rw [← hh, Bd.state]; rfl
  have N0 := Fr.nil n0
  obtain ⟨G, hG⟩ : ∃ G : Outcome → State → Prop, G = fun o u => ∃ v L, o = .returned v ∧ Qq5 Z c0 c1 c5 h0 n0 v u.heap L ∧ FrameEnd s o u L ({ frames := 0, cells := 0, slots := 0, locals := 0 } : Room).cells ({ frames := 0, cells := 0, slots := 0, locals := 0 } : Room).slots := ⟨_, rfl⟩
  suffices hgo : Owe p.tables e below G s₁ (mkF m 0 #[.val (.ref c5)] []) by
    obtain ⟨u, o, h1, h2, h3, h4⟩ := hgo
    exact ⟨u, o, castTop (ef_q5 m c5) h1, h2, h3, by rw [hG] at h4; exact h4⟩
  refine Owe.aloadN X0.here hx (hb hby d2_0) rfl rfl ?_
  refine Owe.gets X0 hx hZ hown (hw _ (List.mem_of_getElem? (i := 13) rfl)) Via.refl e0 (S_EQUAL.ext Ol.2) (hb hby d2_1) fun T27 X27 e27 => ?_
  refine Owe.acmpNo X27.here hx (hb hby d2_4) rfl rfl rfl (by simp [Jvm.Free.XT.acmp, (Ne.symm ne_c0_c5)]) ?_
  refine Owe.aloadN X27.here hx (hb hby d2_7) rfl rfl ?_
  refine Owe.gets X27 hx hZ hown (hw _ (List.mem_of_getElem? (i := 30) rfl)) Via.refl e27 (S_NOT_EQUAL.ext Ol.2) (hb hby d2_8) fun T28 X28 e28 => ?_
  refine Owe.acmpYes X28.here hx (hb hby d2_11) rfl rfl rfl (by simp [Jvm.Free.XT.acmp, (Ne.symm ne_c1_c5)]) (pc' := 18) (by decide) (by decide) ?_
  refine Owe.iconst X28.here hx (hb hby d2_18) (w := (0 : Int32)) rfl ?_
  refine Owe.retN X28 hx hlk (t := .boolean) Bd.returns (by simp) (hb hby d2_19) rfl fun fs hE => ?_
  rw [hG]
  refine ⟨_, _, rfl, ?_, frameMono hE (by decide) (by decide)⟩
  show Qq5 Z c0 c1 c5 h0 n0 _ T28.heap _
  rw [e28]
  exact ⟨rfl, N0, rfl⟩
theorem pn_h5a : plainName "com/example/gatemark/gatemark/eval/XPathValues$Comparison" = true := by first | (simp [plainName, overriddenIn]; done) | decide +kernel
theorem ef_h5a (m : MethodId) (x0 : Addr) (x1 : UInt64) (x2 : UInt64)  : entryFrame m #[(.ref x0), (.double x1), (.double x2)] 6 = mkF m 0 #[.val (.ref x0), .val (.double x1), .second, .val (.double x2), .second, .unset] [] := by first | (simp [entryFrame, mkF, argsToLocals, Value.category]; done) | rfl
def Qh5a (Z : State) (c5 : Addr) (h0 : Heap) (n0 : Nat) (v : Option Value) (h : Heap) (L : List Loc) : Prop := v = some (.int (0 : Int32)) ∧ Fr n0 L ∧ h = h0
set_option maxRecDepth 65536 in
set_option maxHeartbeats 40000000 in
theorem rmh5a (l : Launch) (Z : State) (a0 : Array Value) (hw : ∀ d ∈ tables_1, d.before a0 Z = true) (ws : List Jvm.Cond) (c5 : Addr) (h0 : Heap) (n0 : Nat) (Z0 : n0 ≤ h0.size) (E_c5 : Exa Z h0 c5 "com/example/gatemark/gatemark/eval/XPathValues$Comparison") (Fordinal_c5 : Fld Z h0 c5 "java/lang/Enum" "ordinal" "I" (.int (5 : Int32))) :
    MetFree l (⟨"com/example/gatemark/gatemark/eval/XPathValues$Comparison", "holds", "(DD)Z"⟩ : MethodName) (head1 (Jvm.Cond.code (⟨"com/example/gatemark/gatemark/eval/XPathValues$Comparison", "holds", "(DD)Z"⟩ : MethodName) prog_136_method_7_code 6 (some .boolean) :: ws) ({ frames := 1, cells := 0, slots := 0, locals := 12 } : Room)) (fun a U => a = #[(.ref c5), (.double (0 : UInt64)), (.double (4607182418800017408 : UInt64))] ∧ Z.Warmed39 U.vm ∧ U.heap = h0) (fun _ _ _ _ _ => True) (fun _ U o U' => ∃ v L, o = .returned v ∧ Qh5a Z c5 h0 n0 v U'.heap L ∧ FrameEnd U o U' L ({ frames := 1, cells := 0, slots := 0, locals := 12 } : Room).cells ({ frames := 1, cells := 0, slots := 0, locals := 12 } : Room).slots) := by
  refine MetFree.of_bodySF (plainFor_of_name pn_h5a) hisR ?_
  intro p e s m args below meth c s₁ Bd hml0 hP hK
  obtain ⟨rfl, hZ, hh⟩ := hP
  have hx := Bd.exec
  have hby := Bd.bytes
  have hml : c.maxLocals = 6 := hml0
  have hown : s.vm.findClass "com/example/gatemark/gatemark/eval/XPathValues$Comparison" = some m.cls := findClass_of_methodNamed Bd.named
  have hnm := (name_of_methodNamed Bd.named Bd.method).1
  have hlk : meth.locks = false := BodyLoose.notSynchronized Bd
  have X0 : Stand p l e ({ frames := 1, cells := 0, slots := 0, locals := 12 } : Room) s m #[(.ref c5), (.double (0 : UInt64)), (.double (4607182418800017408 : UInt64))] below meth c s₁ [] 0 0 := Stand.of_body Bd
  have e0 : s₁.heap = h0 := by rw [← hh, Bd.state]; rfl
  have N0 := Fr.nil n0
  obtain ⟨G, hG⟩ : ∃ G : Outcome → State → Prop, G = fun o u => ∃ v L, o = .returned v ∧ Qh5a Z c5 h0 n0 v u.heap L ∧ FrameEnd s o u L ({ frames := 1, cells := 0, slots := 0, locals := 12 } : Room).cells ({ frames := 1, cells := 0, slots := 0, locals := 12 } : Room).slots := ⟨_, rfl⟩
  suffices hgo : Owe p.tables e below G s₁ (mkF m 0 #[.val (.ref c5), .val (.double (0 : UInt64)), .second, .val (.double (4607182418800017408 : UInt64)), .second, .unset] []) by
    obtain ⟨u, o, h1, h2, h3, h4⟩ := hgo
    exact ⟨u, o, castTop (ef_h5a m c5 (0 : UInt64) (4607182418800017408 : UInt64)) h1, h2, h3, by rw [hG] at h4; exact h4⟩
  refine Owe.aloadN X0.here hx (hb hby d3_0) rfl rfl ?_
  refine Owe.virtUp X0 hx hZ (y := (⟨"com/example/gatemark/gatemark/eval/XPathValues$Comparison", "ordinal", "()I"⟩ : MethodName)) (z := (⟨"java/lang/Enum", "ordinal", "()I"⟩ : MethodName)) (owner := "java/lang/Enum") hown (mvT hZ (hw _ (List.mem_of_getElem? (i := 19) rfl))) (mvT hZ (hw _ (List.mem_of_getElem? (i := 20) rfl))) (mvT hZ (hw _ (List.mem_of_getElem? (i := 21) rfl))) (by decide) (mvT hZ (hw _ (List.mem_of_getElem? (i := 23) rfl))) (mvT hZ (hw _ (List.mem_of_getElem? (i := 22) rfl))) (backOf (W := 0) (rmo l Z a0 hw [] c5 (5 : Int32) h0 n0 Z0 Fordinal_c5) hZ (hw _ (List.mem_of_getElem? (i := 25) rfl)) (hw _ (List.mem_of_getElem? (i := 24) rfl)) (by decide) (by decide)) (by rw [hml]; rfl) (a := c5) (argsL := []) (rest := []) E_c5 (lenOf pd_0 rfl) rfl (Nat.le_of_ble_eq_true rfl) (hb hby d3_1) rfl e0 (by decide) (by decide) fun T29 v29 L29 X29 hQ29 => ?_
  obtain ⟨rfl, Nq29, e29⟩ := hQ29
  have N29 := Fr.app N0 Nq29
  refine Owe.tswOut X29.here hx (hb hby d3_4) rfl (by decide) (pc' := 120) (by decide) (by decide) ?_
  refine Owe.dloadN X29.here hx (hb hby d3_120) rfl ?_
  refine Owe.dloadN X29.here hx (hb hby d3_121) rfl ?_
  refine Owe.dcmpS X29.here hx (hb hby d3_122) rfl (v := (-1 : Int32)) (by decide +kernel) ?_
  refine Owe.ifYes X29.here hx (hb hby d3_123) rfl ((if0 _ _).trans (tlt (by decide)).1) (pc' := 130) (by decide) (by decide) ?_
  refine Owe.iconst X29.here hx (hb hby d3_130) (w := (0 : Int32)) rfl ?_
  refine Owe.istore X29.here hx (hb hby d3_131) rfl (l' := #[.val (.ref c5), .val (.double (0 : UInt64)), .second, .val (.double (4607182418800017408 : UInt64)), .second, .val (.int (0 : Int32))]) rfl ?_
  refine Owe.iload X29.here hx (hb hby d3_133) rfl ?_
  refine Owe.retN X29 hx hlk (t := .boolean) Bd.returns (by simp) (hb hby d3_135) rfl fun fs hE => ?_
  rw [hG]
  refine ⟨_, _, rfl, ?_, frameMono hE (by decide) (by decide)⟩
  show Qh5a Z c5 h0 n0 _ T29.heap _
  rw [e29]
  exact ⟨rfl, N29, rfl⟩
theorem pn_h5b : plainName "com/example/gatemark/gatemark/eval/XPathValues$Comparison" = true := by first | (simp [plainName, overriddenIn]; done) | decide +kernel
theorem ef_h5b (m : MethodId) (x0 : Addr) (x1 : UInt64) (x2 : UInt64)  : entryFrame m #[(.ref x0), (.double x1), (.double x2)] 6 = mkF m 0 #[.val (.ref x0), .val (.double x1), .second, .val (.double x2), .second, .unset] [] := by first | (simp [entryFrame, mkF, argsToLocals, Value.category]; done) | rfl
def Qh5b (Z : State) (c5 : Addr) (h0 : Heap) (n0 : Nat) (v : Option Value) (h : Heap) (L : List Loc) : Prop := v = some (.int (1 : Int32)) ∧ Fr n0 L ∧ h = h0
set_option maxRecDepth 65536 in
set_option maxHeartbeats 40000000 in
theorem rmh5b (l : Launch) (Z : State) (a0 : Array Value) (hw : ∀ d ∈ tables_1, d.before a0 Z = true) (ws : List Jvm.Cond) (c5 : Addr) (h0 : Heap) (n0 : Nat) (Z0 : n0 ≤ h0.size) (E_c5 : Exa Z h0 c5 "com/example/gatemark/gatemark/eval/XPathValues$Comparison") (Fordinal_c5 : Fld Z h0 c5 "java/lang/Enum" "ordinal" "I" (.int (5 : Int32))) :
    MetFree l (⟨"com/example/gatemark/gatemark/eval/XPathValues$Comparison", "holds", "(DD)Z"⟩ : MethodName) (head1 (Jvm.Cond.code (⟨"com/example/gatemark/gatemark/eval/XPathValues$Comparison", "holds", "(DD)Z"⟩ : MethodName) prog_136_method_7_code 6 (some .boolean) :: ws) ({ frames := 1, cells := 0, slots := 0, locals := 12 } : Room)) (fun a U => a = #[(.ref c5), (.double (4607182418800017408 : UInt64)), (.double (0 : UInt64))] ∧ Z.Warmed39 U.vm ∧ U.heap = h0) (fun _ _ _ _ _ => True) (fun _ U o U' => ∃ v L, o = .returned v ∧ Qh5b Z c5 h0 n0 v U'.heap L ∧ FrameEnd U o U' L ({ frames := 1, cells := 0, slots := 0, locals := 12 } : Room).cells ({ frames := 1, cells := 0, slots := 0, locals := 12 } : Room).slots) := by
  refine MetFree.of_bodySF (plainFor_of_name pn_h5b) hisR ?_
  intro p e s m args below meth c s₁ Bd hml0 hP hK
  obtain ⟨rfl, hZ, hh⟩ := hP
  have hx := Bd.exec
  have hby := Bd.bytes
  have hml : c.maxLocals = 6 := hml0
  have hown : s.vm.findClass "com/example/gatemark/gatemark/eval/XPathValues$Comparison" = some m.cls := findClass_of_methodNamed Bd.named
  have hnm := (name_of_methodNamed Bd.named Bd.method).1
  have hlk : meth.locks = false := BodyLoose.notSynchronized Bd
  have X0 : Stand p l e ({ frames := 1, cells := 0, slots := 0, locals := 12 } : Room) s m #[(.ref c5), (.double (4607182418800017408 : UInt64)), (.double (0 : UInt64))] below meth c s₁ [] 0 0 := Stand.of_body Bd
  have e0 : s₁.heap = h0 := by rw [← hh, Bd.state]; rfl
  have N0 := Fr.nil n0
  obtain ⟨G, hG⟩ : ∃ G : Outcome → State → Prop, G = fun o u => ∃ v L, o = .returned v ∧ Qh5b Z c5 h0 n0 v u.heap L ∧ FrameEnd s o u L ({ frames := 1, cells := 0, slots := 0, locals := 12 } : Room).cells ({ frames := 1, cells := 0, slots := 0, locals := 12 } : Room).slots := ⟨_, rfl⟩
  suffices hgo : Owe p.tables e below G s₁ (mkF m 0 #[.val (.ref c5), .val (.double (4607182418800017408 : UInt64)), .second, .val (.double (0 : UInt64)), .second, .unset] []) by
    obtain ⟨u, o, h1, h2, h3, h4⟩ := hgo
    exact ⟨u, o, castTop (ef_h5b m c5 (4607182418800017408 : UInt64) (0 : UInt64)) h1, h2, h3, by rw [hG] at h4; exact h4⟩
  refine Owe.aloadN X0.here hx (hb hby d3_0) rfl rfl ?_
  refine Owe.virtUp X0 hx hZ (y := (⟨"com/example/gatemark/gatemark/eval/XPathValues$Comparison", "ordinal", "()I"⟩ : MethodName)) (z := (⟨"java/lang/Enum", "ordinal", "()I"⟩ : MethodName)) (owner := "java/lang/Enum") hown (mvT hZ (hw _ (List.mem_of_getElem? (i := 19) rfl))) (mvT hZ (hw _ (List.mem_of_getElem? (i := 20) rfl))) (mvT hZ (hw _ (List.mem_of_getElem? (i := 21) rfl))) (by decide) (mvT hZ (hw _ (List.mem_of_getElem? (i := 23) rfl))) (mvT hZ (hw _ (List.mem_of_getElem? (i := 22) rfl))) (backOf (W := 0) (rmo l Z a0 hw [] c5 (5 : Int32) h0 n0 Z0 Fordinal_c5) hZ (hw _ (List.mem_of_getElem? (i := 25) rfl)) (hw _ (List.mem_of_getElem? (i := 24) rfl)) (by decide) (by decide)) (by rw [hml]; rfl) (a := c5) (argsL := []) (rest := []) E_c5 (lenOf pd_0 rfl) rfl (Nat.le_of_ble_eq_true rfl) (hb hby d3_1) rfl e0 (by decide) (by decide) fun T30 v30 L30 X30 hQ30 => ?_
  obtain ⟨rfl, Nq30, e30⟩ := hQ30
  have N30 := Fr.app N0 Nq30
  refine Owe.tswOut X30.here hx (hb hby d3_4) rfl (by decide) (pc' := 120) (by decide) (by decide) ?_
  refine Owe.dloadN X30.here hx (hb hby d3_120) rfl ?_
  refine Owe.dloadN X30.here hx (hb hby d3_121) rfl ?_
  refine Owe.dcmpS X30.here hx (hb hby d3_122) rfl (v := (1 : Int32)) (by decide +kernel) ?_
  refine Owe.ifNo X30.here hx (hb hby d3_123) rfl ((if0 _ _).trans (flt (by decide)).1) ?_
  refine Owe.iconst X30.here hx (hb hby d3_126) (w := (1 : Int32)) rfl ?_
  refine Owe.goto X30.here hx (hb hby d3_127) (pc' := 131) (by decide) (by decide) ?_
  refine Owe.istore X30.here hx (hb hby d3_131) rfl (l' := #[.val (.ref c5), .val (.double (4607182418800017408 : UInt64)), .second, .val (.double (0 : UInt64)), .second, .val (.int (1 : Int32))]) rfl ?_
  refine Owe.iload X30.here hx (hb hby d3_133) rfl ?_
  refine Owe.retN X30 hx hlk (t := .boolean) Bd.returns (by simp) (hb hby d3_135) rfl fun fs hE => ?_
  rw [hG]
  refine ⟨_, _, rfl, ?_, frameMono hE (by decide) (by decide)⟩
  show Qh5b Z c5 h0 n0 _ T30.heap _
  rw [e30]
  exact ⟨rfl, N30, rfl⟩
theorem pn_0 : plainName "com/example/gatemark/gatemark/eval/ComparisonIsEqualityPinLaw" = true := by first | (simp [plainName, overriddenIn]; done) | decide +kernel
theorem ef_0 (m : MethodId) (x0 : Int32)  : entryFrame m #[(.int x0)] maxLocals = mkF m 0 #[.val (.int x0), .unset, .unset, .unset, .unset, .unset, .unset, .unset, .unset, .unset] [] := by first | (simp [entryFrame, mkF, argsToLocals, Value.category, maxLocals]; done) | rfl
def Q0 (Z : State) (p1 : Int32) (c0 : Addr) (c1 : Addr) (c2 : Addr) (c3 : Addr) (c4 : Addr) (c5 : Addr) (h0 : Heap) (n0 : Nat) (v : Option Value) (h : Heap) (L : List Loc) : Prop := v = some (.int 1) ∧ Fr n0 L
set_option maxRecDepth 65536 in
set_option maxHeartbeats 40000000 in
theorem rm0 (l : Launch) (Z : State) (a0 : Array Value) (hw : ∀ d ∈ tables_1, d.before a0 Z = true) (ws : List Jvm.Cond) (p1 : Int32) (c0 : Addr) (c1 : Addr) (c2 : Addr) (c3 : Addr) (c4 : Addr) (c5 : Addr) (h0 : Heap) (n0 : Nat) (Z0 : n0 ≤ h0.size) (S_EQUAL : Sta Z Z.heap "com/example/gatemark/gatemark/eval/XPathValues$Comparison" "EQUAL" "Lcom/example/gatemark/gatemark/eval/XPathValues$Comparison;" (.ref c0)) (S_NOT_EQUAL : Sta Z Z.heap "com/example/gatemark/gatemark/eval/XPathValues$Comparison" "NOT_EQUAL" "Lcom/example/gatemark/gatemark/eval/XPathValues$Comparison;" (.ref c1)) (S_LESS : Sta Z Z.heap "com/example/gatemark/gatemark/eval/XPathValues$Comparison" "LESS" "Lcom/example/gatemark/gatemark/eval/XPathValues$Comparison;" (.ref c2)) (S_LESS_OR_EQUAL : Sta Z Z.heap "com/example/gatemark/gatemark/eval/XPathValues$Comparison" "LESS_OR_EQUAL" "Lcom/example/gatemark/gatemark/eval/XPathValues$Comparison;" (.ref c3)) (S_GREATER : Sta Z Z.heap "com/example/gatemark/gatemark/eval/XPathValues$Comparison" "GREATER" "Lcom/example/gatemark/gatemark/eval/XPathValues$Comparison;" (.ref c4)) (S_GREATER_OR_EQUAL : Sta Z Z.heap "com/example/gatemark/gatemark/eval/XPathValues$Comparison" "GREATER_OR_EQUAL" "Lcom/example/gatemark/gatemark/eval/XPathValues$Comparison;" (.ref c5)) (E_c0 : Exa Z h0 c0 "com/example/gatemark/gatemark/eval/XPathValues$Comparison") (E_c1 : Exa Z h0 c1 "com/example/gatemark/gatemark/eval/XPathValues$Comparison") (E_c2 : Exa Z h0 c2 "com/example/gatemark/gatemark/eval/XPathValues$Comparison") (E_c3 : Exa Z h0 c3 "com/example/gatemark/gatemark/eval/XPathValues$Comparison") (E_c4 : Exa Z h0 c4 "com/example/gatemark/gatemark/eval/XPathValues$Comparison") (E_c5 : Exa Z h0 c5 "com/example/gatemark/gatemark/eval/XPathValues$Comparison") (Fordinal_c0 : Fld Z h0 c0 "java/lang/Enum" "ordinal" "I" (.int (0 : Int32))) (Fordinal_c1 : Fld Z h0 c1 "java/lang/Enum" "ordinal" "I" (.int (1 : Int32))) (Fordinal_c2 : Fld Z h0 c2 "java/lang/Enum" "ordinal" "I" (.int (2 : Int32))) (Fordinal_c3 : Fld Z h0 c3 "java/lang/Enum" "ordinal" "I" (.int (3 : Int32))) (Fordinal_c4 : Fld Z h0 c4 "java/lang/Enum" "ordinal" "I" (.int (4 : Int32))) (Fordinal_c5 : Fld Z h0 c5 "java/lang/Enum" "ordinal" "I" (.int (5 : Int32))) (ne_c0_c1 : c0 ≠ c1) (ne_c0_c2 : c0 ≠ c2) (ne_c0_c3 : c0 ≠ c3) (ne_c0_c4 : c0 ≠ c4) (ne_c0_c5 : c0 ≠ c5) (ne_c1_c2 : c1 ≠ c2) (ne_c1_c3 : c1 ≠ c3) (ne_c1_c4 : c1 ≠ c4) (ne_c1_c5 : c1 ≠ c5) (Ol : Old Z n0 h0) :
    MetFree l x (head1 (Jvm.Cond.code x code maxLocals ret :: ws) room_1) (fun a U => a = #[(.int p1)] ∧ Z.Warmed39 U.vm ∧ U.heap = h0) (fun _ _ _ _ _ => True) (fun _ U o U' => ∃ v L, o = .returned v ∧ Q0 Z p1 c0 c1 c2 c3 c4 c5 h0 n0 v U'.heap L ∧ FrameEnd U o U' L room_1.cells room_1.slots) := by
  refine MetFree.of_bodySF (plainFor_of_name pn_0) hisR ?_
  intro p e s m args below meth c s₁ Bd hml0 hP hK
  obtain ⟨rfl, hZ, hh⟩ := hP
  have hx := Bd.exec
  have hby := Bd.bytes
  have hml : c.maxLocals = 10 := hml0
  have hown : s.vm.findClass "com/example/gatemark/gatemark/eval/ComparisonIsEqualityPinLaw" = some m.cls := findClass_of_methodNamed Bd.named
  have hnm := (name_of_methodNamed Bd.named Bd.method).1
  have hlk : meth.locks = false := BodyLoose.notSynchronized Bd
  have X0 : Stand p l e room_1 s m #[(.int p1)] below meth c s₁ [] 0 0 := Stand.of_body Bd
  have e0 : s₁.heap = h0 := by rw [← hh, Bd.state]; rfl
  have N0 := Fr.nil n0
  obtain ⟨G, hG⟩ : ∃ G : Outcome → State → Prop, G = fun o u => ∃ v L, o = .returned v ∧ Q0 Z p1 c0 c1 c2 c3 c4 c5 h0 n0 v u.heap L ∧ FrameEnd s o u L room_1.cells room_1.slots := ⟨_, rfl⟩
  suffices hgo : Owe p.tables e below G s₁ (mkF m 0 #[.val (.int p1), .unset, .unset, .unset, .unset, .unset, .unset, .unset, .unset, .unset] []) by
    obtain ⟨u, o, h1, h2, h3, h4⟩ := hgo
    exact ⟨u, o, castTop (ef_0 m p1) h1, h2, h3, by rw [hG] at h4; exact h4⟩
  refine Owe.iloadN X0.here hx (hb hby at_0) rfl ?_
  refine Owe.ldcI X0 hx (v := (2147483647 : Int32)) hown (mvT hZ (hw _ (List.mem_of_getElem? (i := 0) rfl))) (hb hby at_1) ?_
  refine Owe.iand X0.here hx (hb hby at_3) rfl ?_
  refine Owe.bipush X0.here hx (hb hby at_4) (w := (6 : Int32)) rfl ?_
  refine Owe.irem X0.here hx (hb hby at_6) rfl (by decide) ?_
  rcases own_rem6 p1 with hk | hk | hk | hk | hk | hk
  · rw [hk]
    refine Owe.istoreN X0.here hx (hb hby at_7) rfl (l' := #[.val (.int p1), .val (.int (0 : Int32)), .unset, .unset, .unset, .unset, .unset, .unset, .unset, .unset]) rfl ?_
    refine Owe.iloadN X0.here hx (hb hby at_8) rfl ?_
    refine Owe.stat X0 hx (y := (⟨"com/example/gatemark/gatemark/eval/ComparisonIsEqualityPinLaw", "pick", "(I)Lcom/example/gatemark/gatemark/eval/XPathValues$Comparison;"⟩ : MethodName)) hown (mvT hZ (hw _ (List.mem_of_getElem? (i := 1) rfl))) (mvT hZ (hw _ (List.mem_of_getElem? (i := 2) rfl))) (mvT hZ (hw _ (List.mem_of_getElem? (i := 3) rfl))) (mvT hZ (hw _ (List.mem_of_getElem? (i := 4) rfl))) (by decide) (backOf (W := 0) (rmp0 l Z a0 hw [] c0 h0 n0 Z0 S_EQUAL Ol) hZ (hw _ (List.mem_of_getElem? (i := 4) rfl)) (hw _ (List.mem_of_getElem? (i := 3) rfl)) (by decide) (by decide)) (by rw [hml]; rfl) (argsL := [(.int (0 : Int32))]) (rest := []) (lenOf pd_1 rfl) rfl (Nat.le_of_ble_eq_true rfl) (hb hby at_9) rfl e0 (by decide) (by decide) fun T31 v31 L31 X31 hQ31 => ?_
    obtain ⟨rfl, Nq31, e31⟩ := hQ31
    have N31 := Fr.app N0 Nq31
    refine Owe.astoreN X31.here hx (hb hby at_12) rfl rfl (l' := #[.val (.int p1), .val (.int (0 : Int32)), .val (.ref c0), .unset, .unset, .unset, .unset, .unset, .unset, .unset]) rfl ?_
    refine Owe.iloadN X31.here hx (hb hby at_13) rfl ?_
    refine Owe.iconst X31.here hx (hb hby at_14) (w := (2 : Int32)) rfl ?_
    refine Owe.icmpNo X31.here hx (hb hby at_15) rfl (tlt (by decide)).2.1 ?_
    refine Owe.iconst X31.here hx (hb hby at_18) (w := (1 : Int32)) rfl ?_
    refine Owe.goto X31.here hx (hb hby at_19) (pc' := 23) (by decide) (by decide) ?_
    refine Owe.istoreN X31.here hx (hb hby at_23) rfl (l' := #[.val (.int p1), .val (.int (0 : Int32)), .val (.ref c0), .val (.int (1 : Int32)), .unset, .unset, .unset, .unset, .unset, .unset]) rfl ?_
    refine Owe.aloadN X31.here hx (hb hby at_24) rfl rfl ?_
    refine Owe.virt X31 hx hZ (y := (⟨"com/example/gatemark/gatemark/eval/XPathValues$Comparison", "isEquality", "()Z"⟩ : MethodName)) (z := (⟨"com/example/gatemark/gatemark/eval/XPathValues$Comparison", "isEquality", "()Z"⟩ : MethodName)) hown (mvT hZ (hw _ (List.mem_of_getElem? (i := 8) rfl))) (mvT hZ (hw _ (List.mem_of_getElem? (i := 9) rfl))) (mvT hZ (hw _ (List.mem_of_getElem? (i := 11) rfl))) (mvT hZ (hw _ (List.mem_of_getElem? (i := 10) rfl))) (notFace_of_selects (args := #[]) (mvT hZ (hw _ (List.mem_of_getElem? (i := 11) rfl)))) (by decide) (backOf (W := 0) (rmq0 l Z a0 hw [] c0 c1 h0 n0 Z0 S_EQUAL S_NOT_EQUAL Ol) hZ (hw _ (List.mem_of_getElem? (i := 12) rfl)) (hw _ (List.mem_of_getElem? (i := 6) rfl)) (by decide) (by decide)) (by rw [hml]; rfl) (a := c0) (argsL := []) (rest := []) E_c0 (lenOf pd_2 rfl) rfl (Nat.le_of_ble_eq_true rfl) (hb hby at_25) rfl e31 (by decide) (by decide) fun T32 v32 L32 X32 hQ32 => ?_
    obtain ⟨rfl, Nq32, e32⟩ := hQ32
    have N32 := Fr.app N31 Nq32
    refine Owe.istore X32.here hx (hb hby at_28) rfl (l' := #[.val (.int p1), .val (.int (0 : Int32)), .val (.ref c0), .val (.int (1 : Int32)), .val (.int (1 : Int32)), .unset, .unset, .unset, .unset, .unset]) rfl ?_
    refine Owe.dconst0 X32.here hx (hb hby at_30) (v := (0 : UInt64)) own_dconst0 ?_
    refine Owe.dstore X32.here hx (hb hby at_31) rfl (l' := #[.val (.int p1), .val (.int (0 : Int32)), .val (.ref c0), .val (.int (1 : Int32)), .val (.int (1 : Int32)), .val (.double (0 : UInt64)), .second, .unset, .unset, .unset]) rfl ?_
    refine Owe.dconst1 X32.here hx (hb hby at_33) (v := (4607182418800017408 : UInt64)) own_dconst1 ?_
    refine Owe.dstore X32.here hx (hb hby at_34) rfl (l' := #[.val (.int p1), .val (.int (0 : Int32)), .val (.ref c0), .val (.int (1 : Int32)), .val (.int (1 : Int32)), .val (.double (0 : UInt64)), .second, .val (.double (4607182418800017408 : UInt64)), .second, .unset]) rfl ?_
    refine Owe.aloadN X32.here hx (hb hby at_36) rfl rfl ?_
    refine Owe.dload X32.here hx (hb hby at_37) rfl ?_
    refine Owe.dload X32.here hx (hb hby at_39) rfl ?_
    refine Owe.virt X32 hx hZ (y := (⟨"com/example/gatemark/gatemark/eval/XPathValues$Comparison", "holds", "(DD)Z"⟩ : MethodName)) (z := (⟨"com/example/gatemark/gatemark/eval/XPathValues$Comparison", "holds", "(DD)Z"⟩ : MethodName)) hown (mvT hZ (hw _ (List.mem_of_getElem? (i := 14) rfl))) (mvT hZ (hw _ (List.mem_of_getElem? (i := 15) rfl))) (mvT hZ (hw _ (List.mem_of_getElem? (i := 17) rfl))) (mvT hZ (hw _ (List.mem_of_getElem? (i := 16) rfl))) (notFace_of_selects (args := #[]) (mvT hZ (hw _ (List.mem_of_getElem? (i := 17) rfl)))) (by decide) (backOf (W := 0) (rmh0a l Z a0 hw [] c0 h0 n0 Z0 E_c0 Fordinal_c0) hZ (hw _ (List.mem_of_getElem? (i := 18) rfl)) (hw _ (List.mem_of_getElem? (i := 6) rfl)) (by decide) (by decide)) (by rw [hml]; rfl) (a := c0) (argsL := [(.double (0 : UInt64)), (.double (4607182418800017408 : UInt64))]) (rest := []) E_c0 (lenOf pd_3 rfl) rfl (Nat.le_of_ble_eq_true rfl) (hb hby at_41) rfl e32 (by decide) (by decide) fun T33 v33 L33 X33 hQ33 => ?_
    obtain ⟨rfl, Nq33, e33⟩ := hQ33
    have N33 := Fr.app N32 Nq33
    refine Owe.aloadN X33.here hx (hb hby at_44) rfl rfl ?_
    refine Owe.dload X33.here hx (hb hby at_45) rfl ?_
    refine Owe.dload X33.here hx (hb hby at_47) rfl ?_
    refine Owe.virt X33 hx hZ (y := (⟨"com/example/gatemark/gatemark/eval/XPathValues$Comparison", "holds", "(DD)Z"⟩ : MethodName)) (z := (⟨"com/example/gatemark/gatemark/eval/XPathValues$Comparison", "holds", "(DD)Z"⟩ : MethodName)) hown (mvT hZ (hw _ (List.mem_of_getElem? (i := 14) rfl))) (mvT hZ (hw _ (List.mem_of_getElem? (i := 15) rfl))) (mvT hZ (hw _ (List.mem_of_getElem? (i := 17) rfl))) (mvT hZ (hw _ (List.mem_of_getElem? (i := 16) rfl))) (notFace_of_selects (args := #[]) (mvT hZ (hw _ (List.mem_of_getElem? (i := 17) rfl)))) (by decide) (backOf (W := 1) (rmh0b l Z a0 hw [] c0 h0 n0 Z0 E_c0 Fordinal_c0) hZ (hw _ (List.mem_of_getElem? (i := 18) rfl)) (hw _ (List.mem_of_getElem? (i := 6) rfl)) (by decide) (by decide)) (by rw [hml]; rfl) (a := c0) (argsL := [(.double (4607182418800017408 : UInt64)), (.double (0 : UInt64))]) (rest := [(.int (0 : Int32))]) E_c0 (lenOf pd_3 rfl) rfl (Nat.le_of_ble_eq_true rfl) (hb hby at_49) rfl e33 (by decide) (by decide) fun T34 v34 L34 X34 hQ34 => ?_
    obtain ⟨rfl, Nq34, e34⟩ := hQ34
    have N34 := Fr.app N33 Nq34
    refine Owe.icmpNo X34.here hx (hb hby at_52) rfl (teq (by decide)).2 ?_
    refine Owe.iconst X34.here hx (hb hby at_55) (w := (1 : Int32)) rfl ?_
    refine Owe.goto X34.here hx (hb hby at_56) (pc' := 60) (by decide) (by decide) ?_
    refine Owe.istore X34.here hx (hb hby at_60) rfl (l' := #[.val (.int p1), .val (.int (0 : Int32)), .val (.ref c0), .val (.int (1 : Int32)), .val (.int (1 : Int32)), .val (.double (0 : UInt64)), .second, .val (.double (4607182418800017408 : UInt64)), .second, .val (.int (1 : Int32))]) rfl ?_
    refine Owe.iload X34.here hx (hb hby at_62) rfl ?_
    refine Owe.iloadN X34.here hx (hb hby at_64) rfl ?_
    refine Owe.icmpNo X34.here hx (hb hby at_65) rfl (teq (by decide)).2 ?_
    refine Owe.iload X34.here hx (hb hby at_68) rfl ?_
    refine Owe.iload X34.here hx (hb hby at_70) rfl ?_
    refine Owe.icmpNo X34.here hx (hb hby at_72) rfl (teq (by decide)).2 ?_
    refine Owe.iconst X34.here hx (hb hby at_75) (w := (1 : Int32)) rfl ?_
    refine Owe.goto X34.here hx (hb hby at_76) (pc' := 80) (by decide) (by decide) ?_
    refine Owe.retN X34 hx hlk (t := .boolean) Bd.returns (by simp) (hb hby at_80) rfl fun fs hE => ?_
    rw [hG]
    refine ⟨_, _, rfl, ?_, frameMono hE (by decide) (by decide)⟩
    show Q0 Z p1 c0 c1 c2 c3 c4 c5 h0 n0 _ T34.heap _
    rw [e34]
    exact ⟨rfl, N34⟩
  · rw [hk]
    refine Owe.istoreN X0.here hx (hb hby at_7) rfl (l' := #[.val (.int p1), .val (.int (1 : Int32)), .unset, .unset, .unset, .unset, .unset, .unset, .unset, .unset]) rfl ?_
    refine Owe.iloadN X0.here hx (hb hby at_8) rfl ?_
    refine Owe.stat X0 hx (y := (⟨"com/example/gatemark/gatemark/eval/ComparisonIsEqualityPinLaw", "pick", "(I)Lcom/example/gatemark/gatemark/eval/XPathValues$Comparison;"⟩ : MethodName)) hown (mvT hZ (hw _ (List.mem_of_getElem? (i := 1) rfl))) (mvT hZ (hw _ (List.mem_of_getElem? (i := 2) rfl))) (mvT hZ (hw _ (List.mem_of_getElem? (i := 3) rfl))) (mvT hZ (hw _ (List.mem_of_getElem? (i := 4) rfl))) (by decide) (backOf (W := 0) (rmp1 l Z a0 hw [] c1 h0 n0 Z0 S_NOT_EQUAL Ol) hZ (hw _ (List.mem_of_getElem? (i := 4) rfl)) (hw _ (List.mem_of_getElem? (i := 3) rfl)) (by decide) (by decide)) (by rw [hml]; rfl) (argsL := [(.int (1 : Int32))]) (rest := []) (lenOf pd_1 rfl) rfl (Nat.le_of_ble_eq_true rfl) (hb hby at_9) rfl e0 (by decide) (by decide) fun T35 v35 L35 X35 hQ35 => ?_
    obtain ⟨rfl, Nq35, e35⟩ := hQ35
    have N35 := Fr.app N0 Nq35
    refine Owe.astoreN X35.here hx (hb hby at_12) rfl rfl (l' := #[.val (.int p1), .val (.int (1 : Int32)), .val (.ref c1), .unset, .unset, .unset, .unset, .unset, .unset, .unset]) rfl ?_
    refine Owe.iloadN X35.here hx (hb hby at_13) rfl ?_
    refine Owe.iconst X35.here hx (hb hby at_14) (w := (2 : Int32)) rfl ?_
    refine Owe.icmpNo X35.here hx (hb hby at_15) rfl (tlt (by decide)).2.1 ?_
    refine Owe.iconst X35.here hx (hb hby at_18) (w := (1 : Int32)) rfl ?_
    refine Owe.goto X35.here hx (hb hby at_19) (pc' := 23) (by decide) (by decide) ?_
    refine Owe.istoreN X35.here hx (hb hby at_23) rfl (l' := #[.val (.int p1), .val (.int (1 : Int32)), .val (.ref c1), .val (.int (1 : Int32)), .unset, .unset, .unset, .unset, .unset, .unset]) rfl ?_
    refine Owe.aloadN X35.here hx (hb hby at_24) rfl rfl ?_
    refine Owe.virt X35 hx hZ (y := (⟨"com/example/gatemark/gatemark/eval/XPathValues$Comparison", "isEquality", "()Z"⟩ : MethodName)) (z := (⟨"com/example/gatemark/gatemark/eval/XPathValues$Comparison", "isEquality", "()Z"⟩ : MethodName)) hown (mvT hZ (hw _ (List.mem_of_getElem? (i := 8) rfl))) (mvT hZ (hw _ (List.mem_of_getElem? (i := 9) rfl))) (mvT hZ (hw _ (List.mem_of_getElem? (i := 11) rfl))) (mvT hZ (hw _ (List.mem_of_getElem? (i := 10) rfl))) (notFace_of_selects (args := #[]) (mvT hZ (hw _ (List.mem_of_getElem? (i := 11) rfl)))) (by decide) (backOf (W := 0) (rmq1 l Z a0 hw [] c0 c1 h0 n0 Z0 S_EQUAL S_NOT_EQUAL Ol ne_c0_c1) hZ (hw _ (List.mem_of_getElem? (i := 12) rfl)) (hw _ (List.mem_of_getElem? (i := 6) rfl)) (by decide) (by decide)) (by rw [hml]; rfl) (a := c1) (argsL := []) (rest := []) E_c1 (lenOf pd_2 rfl) rfl (Nat.le_of_ble_eq_true rfl) (hb hby at_25) rfl e35 (by decide) (by decide) fun T36 v36 L36 X36 hQ36 => ?_
    obtain ⟨rfl, Nq36, e36⟩ := hQ36
    have N36 := Fr.app N35 Nq36
    refine Owe.istore X36.here hx (hb hby at_28) rfl (l' := #[.val (.int p1), .val (.int (1 : Int32)), .val (.ref c1), .val (.int (1 : Int32)), .val (.int (1 : Int32)), .unset, .unset, .unset, .unset, .unset]) rfl ?_
    refine Owe.dconst0 X36.here hx (hb hby at_30) (v := (0 : UInt64)) own_dconst0 ?_
    refine Owe.dstore X36.here hx (hb hby at_31) rfl (l' := #[.val (.int p1), .val (.int (1 : Int32)), .val (.ref c1), .val (.int (1 : Int32)), .val (.int (1 : Int32)), .val (.double (0 : UInt64)), .second, .unset, .unset, .unset]) rfl ?_
    refine Owe.dconst1 X36.here hx (hb hby at_33) (v := (4607182418800017408 : UInt64)) own_dconst1 ?_
    refine Owe.dstore X36.here hx (hb hby at_34) rfl (l' := #[.val (.int p1), .val (.int (1 : Int32)), .val (.ref c1), .val (.int (1 : Int32)), .val (.int (1 : Int32)), .val (.double (0 : UInt64)), .second, .val (.double (4607182418800017408 : UInt64)), .second, .unset]) rfl ?_
    refine Owe.aloadN X36.here hx (hb hby at_36) rfl rfl ?_
    refine Owe.dload X36.here hx (hb hby at_37) rfl ?_
    refine Owe.dload X36.here hx (hb hby at_39) rfl ?_
    refine Owe.virt X36 hx hZ (y := (⟨"com/example/gatemark/gatemark/eval/XPathValues$Comparison", "holds", "(DD)Z"⟩ : MethodName)) (z := (⟨"com/example/gatemark/gatemark/eval/XPathValues$Comparison", "holds", "(DD)Z"⟩ : MethodName)) hown (mvT hZ (hw _ (List.mem_of_getElem? (i := 14) rfl))) (mvT hZ (hw _ (List.mem_of_getElem? (i := 15) rfl))) (mvT hZ (hw _ (List.mem_of_getElem? (i := 17) rfl))) (mvT hZ (hw _ (List.mem_of_getElem? (i := 16) rfl))) (notFace_of_selects (args := #[]) (mvT hZ (hw _ (List.mem_of_getElem? (i := 17) rfl)))) (by decide) (backOf (W := 0) (rmh1a l Z a0 hw [] c1 h0 n0 Z0 E_c1 Fordinal_c1) hZ (hw _ (List.mem_of_getElem? (i := 18) rfl)) (hw _ (List.mem_of_getElem? (i := 6) rfl)) (by decide) (by decide)) (by rw [hml]; rfl) (a := c1) (argsL := [(.double (0 : UInt64)), (.double (4607182418800017408 : UInt64))]) (rest := []) E_c1 (lenOf pd_3 rfl) rfl (Nat.le_of_ble_eq_true rfl) (hb hby at_41) rfl e36 (by decide) (by decide) fun T37 v37 L37 X37 hQ37 => ?_
    obtain ⟨rfl, Nq37, e37⟩ := hQ37
    have N37 := Fr.app N36 Nq37
    refine Owe.aloadN X37.here hx (hb hby at_44) rfl rfl ?_
    refine Owe.dload X37.here hx (hb hby at_45) rfl ?_
    refine Owe.dload X37.here hx (hb hby at_47) rfl ?_
    refine Owe.virt X37 hx hZ (y := (⟨"com/example/gatemark/gatemark/eval/XPathValues$Comparison", "holds", "(DD)Z"⟩ : MethodName)) (z := (⟨"com/example/gatemark/gatemark/eval/XPathValues$Comparison", "holds", "(DD)Z"⟩ : MethodName)) hown (mvT hZ (hw _ (List.mem_of_getElem? (i := 14) rfl))) (mvT hZ (hw _ (List.mem_of_getElem? (i := 15) rfl))) (mvT hZ (hw _ (List.mem_of_getElem? (i := 17) rfl))) (mvT hZ (hw _ (List.mem_of_getElem? (i := 16) rfl))) (notFace_of_selects (args := #[]) (mvT hZ (hw _ (List.mem_of_getElem? (i := 17) rfl)))) (by decide) (backOf (W := 1) (rmh1b l Z a0 hw [] c1 h0 n0 Z0 E_c1 Fordinal_c1) hZ (hw _ (List.mem_of_getElem? (i := 18) rfl)) (hw _ (List.mem_of_getElem? (i := 6) rfl)) (by decide) (by decide)) (by rw [hml]; rfl) (a := c1) (argsL := [(.double (4607182418800017408 : UInt64)), (.double (0 : UInt64))]) (rest := [(.int (1 : Int32))]) E_c1 (lenOf pd_3 rfl) rfl (Nat.le_of_ble_eq_true rfl) (hb hby at_49) rfl e37 (by decide) (by decide) fun T38 v38 L38 X38 hQ38 => ?_
    obtain ⟨rfl, Nq38, e38⟩ := hQ38
    have N38 := Fr.app N37 Nq38
    refine Owe.icmpNo X38.here hx (hb hby at_52) rfl (teq (by decide)).2 ?_
    refine Owe.iconst X38.here hx (hb hby at_55) (w := (1 : Int32)) rfl ?_
    refine Owe.goto X38.here hx (hb hby at_56) (pc' := 60) (by decide) (by decide) ?_
    refine Owe.istore X38.here hx (hb hby at_60) rfl (l' := #[.val (.int p1), .val (.int (1 : Int32)), .val (.ref c1), .val (.int (1 : Int32)), .val (.int (1 : Int32)), .val (.double (0 : UInt64)), .second, .val (.double (4607182418800017408 : UInt64)), .second, .val (.int (1 : Int32))]) rfl ?_
    refine Owe.iload X38.here hx (hb hby at_62) rfl ?_
    refine Owe.iloadN X38.here hx (hb hby at_64) rfl ?_
    refine Owe.icmpNo X38.here hx (hb hby at_65) rfl (teq (by decide)).2 ?_
    refine Owe.iload X38.here hx (hb hby at_68) rfl ?_
    refine Owe.iload X38.here hx (hb hby at_70) rfl ?_
    refine Owe.icmpNo X38.here hx (hb hby at_72) rfl (teq (by decide)).2 ?_
    refine Owe.iconst X38.here hx (hb hby at_75) (w := (1 : Int32)) rfl ?_
    refine Owe.goto X38.here hx (hb hby at_76) (pc' := 80) (by decide) (by decide) ?_
    refine Owe.retN X38 hx hlk (t := .boolean) Bd.returns (by simp) (hb hby at_80) rfl fun fs hE => ?_
    rw [hG]
    refine ⟨_, _, rfl, ?_, frameMono hE (by decide) (by decide)⟩
    show Q0 Z p1 c0 c1 c2 c3 c4 c5 h0 n0 _ T38.heap _
    rw [e38]
    exact ⟨rfl, N38⟩
  · rw [hk]
    refine Owe.istoreN X0.here hx (hb hby at_7) rfl (l' := #[.val (.int p1), .val (.int (2 : Int32)), .unset, .unset, .unset, .unset, .unset, .unset, .unset, .unset]) rfl ?_
    refine Owe.iloadN X0.here hx (hb hby at_8) rfl ?_
    refine Owe.stat X0 hx (y := (⟨"com/example/gatemark/gatemark/eval/ComparisonIsEqualityPinLaw", "pick", "(I)Lcom/example/gatemark/gatemark/eval/XPathValues$Comparison;"⟩ : MethodName)) hown (mvT hZ (hw _ (List.mem_of_getElem? (i := 1) rfl))) (mvT hZ (hw _ (List.mem_of_getElem? (i := 2) rfl))) (mvT hZ (hw _ (List.mem_of_getElem? (i := 3) rfl))) (mvT hZ (hw _ (List.mem_of_getElem? (i := 4) rfl))) (by decide) (backOf (W := 0) (rmp2 l Z a0 hw [] c2 h0 n0 Z0 S_LESS Ol) hZ (hw _ (List.mem_of_getElem? (i := 4) rfl)) (hw _ (List.mem_of_getElem? (i := 3) rfl)) (by decide) (by decide)) (by rw [hml]; rfl) (argsL := [(.int (2 : Int32))]) (rest := []) (lenOf pd_1 rfl) rfl (Nat.le_of_ble_eq_true rfl) (hb hby at_9) rfl e0 (by decide) (by decide) fun T39 v39 L39 X39 hQ39 => ?_
    obtain ⟨rfl, Nq39, e39⟩ := hQ39
    have N39 := Fr.app N0 Nq39
    refine Owe.astoreN X39.here hx (hb hby at_12) rfl rfl (l' := #[.val (.int p1), .val (.int (2 : Int32)), .val (.ref c2), .unset, .unset, .unset, .unset, .unset, .unset, .unset]) rfl ?_
    refine Owe.iloadN X39.here hx (hb hby at_13) rfl ?_
    refine Owe.iconst X39.here hx (hb hby at_14) (w := (2 : Int32)) rfl ?_
    refine Owe.icmpYes X39.here hx (hb hby at_15) rfl (flt (by decide)).2.1 (pc' := 22) (by decide) (by decide) ?_
    refine Owe.iconst X39.here hx (hb hby at_22) (w := (0 : Int32)) rfl ?_
    refine Owe.istoreN X39.here hx (hb hby at_23) rfl (l' := #[.val (.int p1), .val (.int (2 : Int32)), .val (.ref c2), .val (.int (0 : Int32)), .unset, .unset, .unset, .unset, .unset, .unset]) rfl ?_
    refine Owe.aloadN X39.here hx (hb hby at_24) rfl rfl ?_
    refine Owe.virt X39 hx hZ (y := (⟨"com/example/gatemark/gatemark/eval/XPathValues$Comparison", "isEquality", "()Z"⟩ : MethodName)) (z := (⟨"com/example/gatemark/gatemark/eval/XPathValues$Comparison", "isEquality", "()Z"⟩ : MethodName)) hown (mvT hZ (hw _ (List.mem_of_getElem? (i := 8) rfl))) (mvT hZ (hw _ (List.mem_of_getElem? (i := 9) rfl))) (mvT hZ (hw _ (List.mem_of_getElem? (i := 11) rfl))) (mvT hZ (hw _ (List.mem_of_getElem? (i := 10) rfl))) (notFace_of_selects (args := #[]) (mvT hZ (hw _ (List.mem_of_getElem? (i := 11) rfl)))) (by decide) (backOf (W := 0) (rmq2 l Z a0 hw [] c0 c1 c2 h0 n0 Z0 S_EQUAL S_NOT_EQUAL Ol ne_c0_c2 ne_c1_c2) hZ (hw _ (List.mem_of_getElem? (i := 12) rfl)) (hw _ (List.mem_of_getElem? (i := 6) rfl)) (by decide) (by decide)) (by rw [hml]; rfl) (a := c2) (argsL := []) (rest := []) E_c2 (lenOf pd_2 rfl) rfl (Nat.le_of_ble_eq_true rfl) (hb hby at_25) rfl e39 (by decide) (by decide) fun T40 v40 L40 X40 hQ40 => ?_
    obtain ⟨rfl, Nq40, e40⟩ := hQ40
    have N40 := Fr.app N39 Nq40
    refine Owe.istore X40.here hx (hb hby at_28) rfl (l' := #[.val (.int p1), .val (.int (2 : Int32)), .val (.ref c2), .val (.int (0 : Int32)), .val (.int (0 : Int32)), .unset, .unset, .unset, .unset, .unset]) rfl ?_
    refine Owe.dconst0 X40.here hx (hb hby at_30) (v := (0 : UInt64)) own_dconst0 ?_
    refine Owe.dstore X40.here hx (hb hby at_31) rfl (l' := #[.val (.int p1), .val (.int (2 : Int32)), .val (.ref c2), .val (.int (0 : Int32)), .val (.int (0 : Int32)), .val (.double (0 : UInt64)), .second, .unset, .unset, .unset]) rfl ?_
    refine Owe.dconst1 X40.here hx (hb hby at_33) (v := (4607182418800017408 : UInt64)) own_dconst1 ?_
    refine Owe.dstore X40.here hx (hb hby at_34) rfl (l' := #[.val (.int p1), .val (.int (2 : Int32)), .val (.ref c2), .val (.int (0 : Int32)), .val (.int (0 : Int32)), .val (.double (0 : UInt64)), .second, .val (.double (4607182418800017408 : UInt64)), .second, .unset]) rfl ?_
    refine Owe.aloadN X40.here hx (hb hby at_36) rfl rfl ?_
    refine Owe.dload X40.here hx (hb hby at_37) rfl ?_
    refine Owe.dload X40.here hx (hb hby at_39) rfl ?_
    refine Owe.virt X40 hx hZ (y := (⟨"com/example/gatemark/gatemark/eval/XPathValues$Comparison", "holds", "(DD)Z"⟩ : MethodName)) (z := (⟨"com/example/gatemark/gatemark/eval/XPathValues$Comparison", "holds", "(DD)Z"⟩ : MethodName)) hown (mvT hZ (hw _ (List.mem_of_getElem? (i := 14) rfl))) (mvT hZ (hw _ (List.mem_of_getElem? (i := 15) rfl))) (mvT hZ (hw _ (List.mem_of_getElem? (i := 17) rfl))) (mvT hZ (hw _ (List.mem_of_getElem? (i := 16) rfl))) (notFace_of_selects (args := #[]) (mvT hZ (hw _ (List.mem_of_getElem? (i := 17) rfl)))) (by decide) (backOf (W := 0) (rmh2a l Z a0 hw [] c2 h0 n0 Z0 E_c2 Fordinal_c2) hZ (hw _ (List.mem_of_getElem? (i := 18) rfl)) (hw _ (List.mem_of_getElem? (i := 6) rfl)) (by decide) (by decide)) (by rw [hml]; rfl) (a := c2) (argsL := [(.double (0 : UInt64)), (.double (4607182418800017408 : UInt64))]) (rest := []) E_c2 (lenOf pd_3 rfl) rfl (Nat.le_of_ble_eq_true rfl) (hb hby at_41) rfl e40 (by decide) (by decide) fun T41 v41 L41 X41 hQ41 => ?_
    obtain ⟨rfl, Nq41, e41⟩ := hQ41
    have N41 := Fr.app N40 Nq41
    refine Owe.aloadN X41.here hx (hb hby at_44) rfl rfl ?_
    refine Owe.dload X41.here hx (hb hby at_45) rfl ?_
    refine Owe.dload X41.here hx (hb hby at_47) rfl ?_
    refine Owe.virt X41 hx hZ (y := (⟨"com/example/gatemark/gatemark/eval/XPathValues$Comparison", "holds", "(DD)Z"⟩ : MethodName)) (z := (⟨"com/example/gatemark/gatemark/eval/XPathValues$Comparison", "holds", "(DD)Z"⟩ : MethodName)) hown (mvT hZ (hw _ (List.mem_of_getElem? (i := 14) rfl))) (mvT hZ (hw _ (List.mem_of_getElem? (i := 15) rfl))) (mvT hZ (hw _ (List.mem_of_getElem? (i := 17) rfl))) (mvT hZ (hw _ (List.mem_of_getElem? (i := 16) rfl))) (notFace_of_selects (args := #[]) (mvT hZ (hw _ (List.mem_of_getElem? (i := 17) rfl)))) (by decide) (backOf (W := 1) (rmh2b l Z a0 hw [] c2 h0 n0 Z0 E_c2 Fordinal_c2) hZ (hw _ (List.mem_of_getElem? (i := 18) rfl)) (hw _ (List.mem_of_getElem? (i := 6) rfl)) (by decide) (by decide)) (by rw [hml]; rfl) (a := c2) (argsL := [(.double (4607182418800017408 : UInt64)), (.double (0 : UInt64))]) (rest := [(.int (1 : Int32))]) E_c2 (lenOf pd_3 rfl) rfl (Nat.le_of_ble_eq_true rfl) (hb hby at_49) rfl e41 (by decide) (by decide) fun T42 v42 L42 X42 hQ42 => ?_
    obtain ⟨rfl, Nq42, e42⟩ := hQ42
    have N42 := Fr.app N41 Nq42
    refine Owe.icmpYes X42.here hx (hb hby at_52) rfl (feq (by decide)).2 (pc' := 59) (by decide) (by decide) ?_
    refine Owe.iconst X42.here hx (hb hby at_59) (w := (0 : Int32)) rfl ?_
    refine Owe.istore X42.here hx (hb hby at_60) rfl (l' := #[.val (.int p1), .val (.int (2 : Int32)), .val (.ref c2), .val (.int (0 : Int32)), .val (.int (0 : Int32)), .val (.double (0 : UInt64)), .second, .val (.double (4607182418800017408 : UInt64)), .second, .val (.int (0 : Int32))]) rfl ?_
    refine Owe.iload X42.here hx (hb hby at_62) rfl ?_
    refine Owe.iloadN X42.here hx (hb hby at_64) rfl ?_
    refine Owe.icmpNo X42.here hx (hb hby at_65) rfl (teq (by decide)).2 ?_
    refine Owe.iload X42.here hx (hb hby at_68) rfl ?_
    refine Owe.iload X42.here hx (hb hby at_70) rfl ?_
    refine Owe.icmpNo X42.here hx (hb hby at_72) rfl (teq (by decide)).2 ?_
    refine Owe.iconst X42.here hx (hb hby at_75) (w := (1 : Int32)) rfl ?_
    refine Owe.goto X42.here hx (hb hby at_76) (pc' := 80) (by decide) (by decide) ?_
    refine Owe.retN X42 hx hlk (t := .boolean) Bd.returns (by simp) (hb hby at_80) rfl fun fs hE => ?_
    rw [hG]
    refine ⟨_, _, rfl, ?_, frameMono hE (by decide) (by decide)⟩
    show Q0 Z p1 c0 c1 c2 c3 c4 c5 h0 n0 _ T42.heap _
    rw [e42]
    exact ⟨rfl, N42⟩
  · rw [hk]
    refine Owe.istoreN X0.here hx (hb hby at_7) rfl (l' := #[.val (.int p1), .val (.int (3 : Int32)), .unset, .unset, .unset, .unset, .unset, .unset, .unset, .unset]) rfl ?_
    refine Owe.iloadN X0.here hx (hb hby at_8) rfl ?_
    refine Owe.stat X0 hx (y := (⟨"com/example/gatemark/gatemark/eval/ComparisonIsEqualityPinLaw", "pick", "(I)Lcom/example/gatemark/gatemark/eval/XPathValues$Comparison;"⟩ : MethodName)) hown (mvT hZ (hw _ (List.mem_of_getElem? (i := 1) rfl))) (mvT hZ (hw _ (List.mem_of_getElem? (i := 2) rfl))) (mvT hZ (hw _ (List.mem_of_getElem? (i := 3) rfl))) (mvT hZ (hw _ (List.mem_of_getElem? (i := 4) rfl))) (by decide) (backOf (W := 0) (rmp3 l Z a0 hw [] c3 h0 n0 Z0 S_LESS_OR_EQUAL Ol) hZ (hw _ (List.mem_of_getElem? (i := 4) rfl)) (hw _ (List.mem_of_getElem? (i := 3) rfl)) (by decide) (by decide)) (by rw [hml]; rfl) (argsL := [(.int (3 : Int32))]) (rest := []) (lenOf pd_1 rfl) rfl (Nat.le_of_ble_eq_true rfl) (hb hby at_9) rfl e0 (by decide) (by decide) fun T43 v43 L43 X43 hQ43 => ?_
    obtain ⟨rfl, Nq43, e43⟩ := hQ43
    have N43 := Fr.app N0 Nq43
    refine Owe.astoreN X43.here hx (hb hby at_12) rfl rfl (l' := #[.val (.int p1), .val (.int (3 : Int32)), .val (.ref c3), .unset, .unset, .unset, .unset, .unset, .unset, .unset]) rfl ?_
    refine Owe.iloadN X43.here hx (hb hby at_13) rfl ?_
    refine Owe.iconst X43.here hx (hb hby at_14) (w := (2 : Int32)) rfl ?_
    refine Owe.icmpYes X43.here hx (hb hby at_15) rfl (flt (by decide)).2.1 (pc' := 22) (by decide) (by decide) ?_
    refine Owe.iconst X43.here hx (hb hby at_22) (w := (0 : Int32)) rfl ?_
    refine Owe.istoreN X43.here hx (hb hby at_23) rfl (l' := #[.val (.int p1), .val (.int (3 : Int32)), .val (.ref c3), .val (.int (0 : Int32)), .unset, .unset, .unset, .unset, .unset, .unset]) rfl ?_
    refine Owe.aloadN X43.here hx (hb hby at_24) rfl rfl ?_
    refine Owe.virt X43 hx hZ (y := (⟨"com/example/gatemark/gatemark/eval/XPathValues$Comparison", "isEquality", "()Z"⟩ : MethodName)) (z := (⟨"com/example/gatemark/gatemark/eval/XPathValues$Comparison", "isEquality", "()Z"⟩ : MethodName)) hown (mvT hZ (hw _ (List.mem_of_getElem? (i := 8) rfl))) (mvT hZ (hw _ (List.mem_of_getElem? (i := 9) rfl))) (mvT hZ (hw _ (List.mem_of_getElem? (i := 11) rfl))) (mvT hZ (hw _ (List.mem_of_getElem? (i := 10) rfl))) (notFace_of_selects (args := #[]) (mvT hZ (hw _ (List.mem_of_getElem? (i := 11) rfl)))) (by decide) (backOf (W := 0) (rmq3 l Z a0 hw [] c0 c1 c3 h0 n0 Z0 S_EQUAL S_NOT_EQUAL Ol ne_c0_c3 ne_c1_c3) hZ (hw _ (List.mem_of_getElem? (i := 12) rfl)) (hw _ (List.mem_of_getElem? (i := 6) rfl)) (by decide) (by decide)) (by rw [hml]; rfl) (a := c3) (argsL := []) (rest := []) E_c3 (lenOf pd_2 rfl) rfl (Nat.le_of_ble_eq_true rfl) (hb hby at_25) rfl e43 (by decide) (by decide) fun T44 v44 L44 X44 hQ44 => ?_
    obtain ⟨rfl, Nq44, e44⟩ := hQ44
    have N44 := Fr.app N43 Nq44
    refine Owe.istore X44.here hx (hb hby at_28) rfl (l' := #[.val (.int p1), .val (.int (3 : Int32)), .val (.ref c3), .val (.int (0 : Int32)), .val (.int (0 : Int32)), .unset, .unset, .unset, .unset, .unset]) rfl ?_
    refine Owe.dconst0 X44.here hx (hb hby at_30) (v := (0 : UInt64)) own_dconst0 ?_
    refine Owe.dstore X44.here hx (hb hby at_31) rfl (l' := #[.val (.int p1), .val (.int (3 : Int32)), .val (.ref c3), .val (.int (0 : Int32)), .val (.int (0 : Int32)), .val (.double (0 : UInt64)), .second, .unset, .unset, .unset]) rfl ?_
    refine Owe.dconst1 X44.here hx (hb hby at_33) (v := (4607182418800017408 : UInt64)) own_dconst1 ?_
    refine Owe.dstore X44.here hx (hb hby at_34) rfl (l' := #[.val (.int p1), .val (.int (3 : Int32)), .val (.ref c3), .val (.int (0 : Int32)), .val (.int (0 : Int32)), .val (.double (0 : UInt64)), .second, .val (.double (4607182418800017408 : UInt64)), .second, .unset]) rfl ?_
    refine Owe.aloadN X44.here hx (hb hby at_36) rfl rfl ?_
    refine Owe.dload X44.here hx (hb hby at_37) rfl ?_
    refine Owe.dload X44.here hx (hb hby at_39) rfl ?_
    refine Owe.virt X44 hx hZ (y := (⟨"com/example/gatemark/gatemark/eval/XPathValues$Comparison", "holds", "(DD)Z"⟩ : MethodName)) (z := (⟨"com/example/gatemark/gatemark/eval/XPathValues$Comparison", "holds", "(DD)Z"⟩ : MethodName)) hown (mvT hZ (hw _ (List.mem_of_getElem? (i := 14) rfl))) (mvT hZ (hw _ (List.mem_of_getElem? (i := 15) rfl))) (mvT hZ (hw _ (List.mem_of_getElem? (i := 17) rfl))) (mvT hZ (hw _ (List.mem_of_getElem? (i := 16) rfl))) (notFace_of_selects (args := #[]) (mvT hZ (hw _ (List.mem_of_getElem? (i := 17) rfl)))) (by decide) (backOf (W := 0) (rmh3a l Z a0 hw [] c3 h0 n0 Z0 E_c3 Fordinal_c3) hZ (hw _ (List.mem_of_getElem? (i := 18) rfl)) (hw _ (List.mem_of_getElem? (i := 6) rfl)) (by decide) (by decide)) (by rw [hml]; rfl) (a := c3) (argsL := [(.double (0 : UInt64)), (.double (4607182418800017408 : UInt64))]) (rest := []) E_c3 (lenOf pd_3 rfl) rfl (Nat.le_of_ble_eq_true rfl) (hb hby at_41) rfl e44 (by decide) (by decide) fun T45 v45 L45 X45 hQ45 => ?_
    obtain ⟨rfl, Nq45, e45⟩ := hQ45
    have N45 := Fr.app N44 Nq45
    refine Owe.aloadN X45.here hx (hb hby at_44) rfl rfl ?_
    refine Owe.dload X45.here hx (hb hby at_45) rfl ?_
    refine Owe.dload X45.here hx (hb hby at_47) rfl ?_
    refine Owe.virt X45 hx hZ (y := (⟨"com/example/gatemark/gatemark/eval/XPathValues$Comparison", "holds", "(DD)Z"⟩ : MethodName)) (z := (⟨"com/example/gatemark/gatemark/eval/XPathValues$Comparison", "holds", "(DD)Z"⟩ : MethodName)) hown (mvT hZ (hw _ (List.mem_of_getElem? (i := 14) rfl))) (mvT hZ (hw _ (List.mem_of_getElem? (i := 15) rfl))) (mvT hZ (hw _ (List.mem_of_getElem? (i := 17) rfl))) (mvT hZ (hw _ (List.mem_of_getElem? (i := 16) rfl))) (notFace_of_selects (args := #[]) (mvT hZ (hw _ (List.mem_of_getElem? (i := 17) rfl)))) (by decide) (backOf (W := 1) (rmh3b l Z a0 hw [] c3 h0 n0 Z0 E_c3 Fordinal_c3) hZ (hw _ (List.mem_of_getElem? (i := 18) rfl)) (hw _ (List.mem_of_getElem? (i := 6) rfl)) (by decide) (by decide)) (by rw [hml]; rfl) (a := c3) (argsL := [(.double (4607182418800017408 : UInt64)), (.double (0 : UInt64))]) (rest := [(.int (1 : Int32))]) E_c3 (lenOf pd_3 rfl) rfl (Nat.le_of_ble_eq_true rfl) (hb hby at_49) rfl e45 (by decide) (by decide) fun T46 v46 L46 X46 hQ46 => ?_
    obtain ⟨rfl, Nq46, e46⟩ := hQ46
    have N46 := Fr.app N45 Nq46
    refine Owe.icmpYes X46.here hx (hb hby at_52) rfl (feq (by decide)).2 (pc' := 59) (by decide) (by decide) ?_
    refine Owe.iconst X46.here hx (hb hby at_59) (w := (0 : Int32)) rfl ?_
    refine Owe.istore X46.here hx (hb hby at_60) rfl (l' := #[.val (.int p1), .val (.int (3 : Int32)), .val (.ref c3), .val (.int (0 : Int32)), .val (.int (0 : Int32)), .val (.double (0 : UInt64)), .second, .val (.double (4607182418800017408 : UInt64)), .second, .val (.int (0 : Int32))]) rfl ?_
    refine Owe.iload X46.here hx (hb hby at_62) rfl ?_
    refine Owe.iloadN X46.here hx (hb hby at_64) rfl ?_
    refine Owe.icmpNo X46.here hx (hb hby at_65) rfl (teq (by decide)).2 ?_
    refine Owe.iload X46.here hx (hb hby at_68) rfl ?_
    refine Owe.iload X46.here hx (hb hby at_70) rfl ?_
    refine Owe.icmpNo X46.here hx (hb hby at_72) rfl (teq (by decide)).2 ?_
    refine Owe.iconst X46.here hx (hb hby at_75) (w := (1 : Int32)) rfl ?_
    refine Owe.goto X46.here hx (hb hby at_76) (pc' := 80) (by decide) (by decide) ?_
    refine Owe.retN X46 hx hlk (t := .boolean) Bd.returns (by simp) (hb hby at_80) rfl fun fs hE => ?_
    rw [hG]
    refine ⟨_, _, rfl, ?_, frameMono hE (by decide) (by decide)⟩
    show Q0 Z p1 c0 c1 c2 c3 c4 c5 h0 n0 _ T46.heap _
    rw [e46]
    exact ⟨rfl, N46⟩
  · rw [hk]
    refine Owe.istoreN X0.here hx (hb hby at_7) rfl (l' := #[.val (.int p1), .val (.int (4 : Int32)), .unset, .unset, .unset, .unset, .unset, .unset, .unset, .unset]) rfl ?_
    refine Owe.iloadN X0.here hx (hb hby at_8) rfl ?_
    refine Owe.stat X0 hx (y := (⟨"com/example/gatemark/gatemark/eval/ComparisonIsEqualityPinLaw", "pick", "(I)Lcom/example/gatemark/gatemark/eval/XPathValues$Comparison;"⟩ : MethodName)) hown (mvT hZ (hw _ (List.mem_of_getElem? (i := 1) rfl))) (mvT hZ (hw _ (List.mem_of_getElem? (i := 2) rfl))) (mvT hZ (hw _ (List.mem_of_getElem? (i := 3) rfl))) (mvT hZ (hw _ (List.mem_of_getElem? (i := 4) rfl))) (by decide) (backOf (W := 0) (rmp4 l Z a0 hw [] c4 h0 n0 Z0 S_GREATER Ol) hZ (hw _ (List.mem_of_getElem? (i := 4) rfl)) (hw _ (List.mem_of_getElem? (i := 3) rfl)) (by decide) (by decide)) (by rw [hml]; rfl) (argsL := [(.int (4 : Int32))]) (rest := []) (lenOf pd_1 rfl) rfl (Nat.le_of_ble_eq_true rfl) (hb hby at_9) rfl e0 (by decide) (by decide) fun T47 v47 L47 X47 hQ47 => ?_
    obtain ⟨rfl, Nq47, e47⟩ := hQ47
    have N47 := Fr.app N0 Nq47
    refine Owe.astoreN X47.here hx (hb hby at_12) rfl rfl (l' := #[.val (.int p1), .val (.int (4 : Int32)), .val (.ref c4), .unset, .unset, .unset, .unset, .unset, .unset, .unset]) rfl ?_
    refine Owe.iloadN X47.here hx (hb hby at_13) rfl ?_
    refine Owe.iconst X47.here hx (hb hby at_14) (w := (2 : Int32)) rfl ?_
    refine Owe.icmpYes X47.here hx (hb hby at_15) rfl (flt (by decide)).2.1 (pc' := 22) (by decide) (by decide) ?_
    refine Owe.iconst X47.here hx (hb hby at_22) (w := (0 : Int32)) rfl ?_
    refine Owe.istoreN X47.here hx (hb hby at_23) rfl (l' := #[.val (.int p1), .val (.int (4 : Int32)), .val (.ref c4), .val (.int (0 : Int32)), .unset, .unset, .unset, .unset, .unset, .unset]) rfl ?_
    refine Owe.aloadN X47.here hx (hb hby at_24) rfl rfl ?_
    refine Owe.virt X47 hx hZ (y := (⟨"com/example/gatemark/gatemark/eval/XPathValues$Comparison", "isEquality", "()Z"⟩ : MethodName)) (z := (⟨"com/example/gatemark/gatemark/eval/XPathValues$Comparison", "isEquality", "()Z"⟩ : MethodName)) hown (mvT hZ (hw _ (List.mem_of_getElem? (i := 8) rfl))) (mvT hZ (hw _ (List.mem_of_getElem? (i := 9) rfl))) (mvT hZ (hw _ (List.mem_of_getElem? (i := 11) rfl))) (mvT hZ (hw _ (List.mem_of_getElem? (i := 10) rfl))) (notFace_of_selects (args := #[]) (mvT hZ (hw _ (List.mem_of_getElem? (i := 11) rfl)))) (by decide) (backOf (W := 0) (rmq4 l Z a0 hw [] c0 c1 c4 h0 n0 Z0 S_EQUAL S_NOT_EQUAL Ol ne_c0_c4 ne_c1_c4) hZ (hw _ (List.mem_of_getElem? (i := 12) rfl)) (hw _ (List.mem_of_getElem? (i := 6) rfl)) (by decide) (by decide)) (by rw [hml]; rfl) (a := c4) (argsL := []) (rest := []) E_c4 (lenOf pd_2 rfl) rfl (Nat.le_of_ble_eq_true rfl) (hb hby at_25) rfl e47 (by decide) (by decide) fun T48 v48 L48 X48 hQ48 => ?_
    obtain ⟨rfl, Nq48, e48⟩ := hQ48
    have N48 := Fr.app N47 Nq48
    refine Owe.istore X48.here hx (hb hby at_28) rfl (l' := #[.val (.int p1), .val (.int (4 : Int32)), .val (.ref c4), .val (.int (0 : Int32)), .val (.int (0 : Int32)), .unset, .unset, .unset, .unset, .unset]) rfl ?_
    refine Owe.dconst0 X48.here hx (hb hby at_30) (v := (0 : UInt64)) own_dconst0 ?_
    refine Owe.dstore X48.here hx (hb hby at_31) rfl (l' := #[.val (.int p1), .val (.int (4 : Int32)), .val (.ref c4), .val (.int (0 : Int32)), .val (.int (0 : Int32)), .val (.double (0 : UInt64)), .second, .unset, .unset, .unset]) rfl ?_
    refine Owe.dconst1 X48.here hx (hb hby at_33) (v := (4607182418800017408 : UInt64)) own_dconst1 ?_
    refine Owe.dstore X48.here hx (hb hby at_34) rfl (l' := #[.val (.int p1), .val (.int (4 : Int32)), .val (.ref c4), .val (.int (0 : Int32)), .val (.int (0 : Int32)), .val (.double (0 : UInt64)), .second, .val (.double (4607182418800017408 : UInt64)), .second, .unset]) rfl ?_
    refine Owe.aloadN X48.here hx (hb hby at_36) rfl rfl ?_
    refine Owe.dload X48.here hx (hb hby at_37) rfl ?_
    refine Owe.dload X48.here hx (hb hby at_39) rfl ?_
    refine Owe.virt X48 hx hZ (y := (⟨"com/example/gatemark/gatemark/eval/XPathValues$Comparison", "holds", "(DD)Z"⟩ : MethodName)) (z := (⟨"com/example/gatemark/gatemark/eval/XPathValues$Comparison", "holds", "(DD)Z"⟩ : MethodName)) hown (mvT hZ (hw _ (List.mem_of_getElem? (i := 14) rfl))) (mvT hZ (hw _ (List.mem_of_getElem? (i := 15) rfl))) (mvT hZ (hw _ (List.mem_of_getElem? (i := 17) rfl))) (mvT hZ (hw _ (List.mem_of_getElem? (i := 16) rfl))) (notFace_of_selects (args := #[]) (mvT hZ (hw _ (List.mem_of_getElem? (i := 17) rfl)))) (by decide) (backOf (W := 0) (rmh4a l Z a0 hw [] c4 h0 n0 Z0 E_c4 Fordinal_c4) hZ (hw _ (List.mem_of_getElem? (i := 18) rfl)) (hw _ (List.mem_of_getElem? (i := 6) rfl)) (by decide) (by decide)) (by rw [hml]; rfl) (a := c4) (argsL := [(.double (0 : UInt64)), (.double (4607182418800017408 : UInt64))]) (rest := []) E_c4 (lenOf pd_3 rfl) rfl (Nat.le_of_ble_eq_true rfl) (hb hby at_41) rfl e48 (by decide) (by decide) fun T49 v49 L49 X49 hQ49 => ?_
    obtain ⟨rfl, Nq49, e49⟩ := hQ49
    have N49 := Fr.app N48 Nq49
    refine Owe.aloadN X49.here hx (hb hby at_44) rfl rfl ?_
    refine Owe.dload X49.here hx (hb hby at_45) rfl ?_
    refine Owe.dload X49.here hx (hb hby at_47) rfl ?_
    refine Owe.virt X49 hx hZ (y := (⟨"com/example/gatemark/gatemark/eval/XPathValues$Comparison", "holds", "(DD)Z"⟩ : MethodName)) (z := (⟨"com/example/gatemark/gatemark/eval/XPathValues$Comparison", "holds", "(DD)Z"⟩ : MethodName)) hown (mvT hZ (hw _ (List.mem_of_getElem? (i := 14) rfl))) (mvT hZ (hw _ (List.mem_of_getElem? (i := 15) rfl))) (mvT hZ (hw _ (List.mem_of_getElem? (i := 17) rfl))) (mvT hZ (hw _ (List.mem_of_getElem? (i := 16) rfl))) (notFace_of_selects (args := #[]) (mvT hZ (hw _ (List.mem_of_getElem? (i := 17) rfl)))) (by decide) (backOf (W := 1) (rmh4b l Z a0 hw [] c4 h0 n0 Z0 E_c4 Fordinal_c4) hZ (hw _ (List.mem_of_getElem? (i := 18) rfl)) (hw _ (List.mem_of_getElem? (i := 6) rfl)) (by decide) (by decide)) (by rw [hml]; rfl) (a := c4) (argsL := [(.double (4607182418800017408 : UInt64)), (.double (0 : UInt64))]) (rest := [(.int (0 : Int32))]) E_c4 (lenOf pd_3 rfl) rfl (Nat.le_of_ble_eq_true rfl) (hb hby at_49) rfl e49 (by decide) (by decide) fun T50 v50 L50 X50 hQ50 => ?_
    obtain ⟨rfl, Nq50, e50⟩ := hQ50
    have N50 := Fr.app N49 Nq50
    refine Owe.icmpYes X50.here hx (hb hby at_52) rfl (feq (by decide)).2 (pc' := 59) (by decide) (by decide) ?_
    refine Owe.iconst X50.here hx (hb hby at_59) (w := (0 : Int32)) rfl ?_
    refine Owe.istore X50.here hx (hb hby at_60) rfl (l' := #[.val (.int p1), .val (.int (4 : Int32)), .val (.ref c4), .val (.int (0 : Int32)), .val (.int (0 : Int32)), .val (.double (0 : UInt64)), .second, .val (.double (4607182418800017408 : UInt64)), .second, .val (.int (0 : Int32))]) rfl ?_
    refine Owe.iload X50.here hx (hb hby at_62) rfl ?_
    refine Owe.iloadN X50.here hx (hb hby at_64) rfl ?_
    refine Owe.icmpNo X50.here hx (hb hby at_65) rfl (teq (by decide)).2 ?_
    refine Owe.iload X50.here hx (hb hby at_68) rfl ?_
    refine Owe.iload X50.here hx (hb hby at_70) rfl ?_
    refine Owe.icmpNo X50.here hx (hb hby at_72) rfl (teq (by decide)).2 ?_
    refine Owe.iconst X50.here hx (hb hby at_75) (w := (1 : Int32)) rfl ?_
    refine Owe.goto X50.here hx (hb hby at_76) (pc' := 80) (by decide) (by decide) ?_
    refine Owe.retN X50 hx hlk (t := .boolean) Bd.returns (by simp) (hb hby at_80) rfl fun fs hE => ?_
    rw [hG]
    refine ⟨_, _, rfl, ?_, frameMono hE (by decide) (by decide)⟩
    show Q0 Z p1 c0 c1 c2 c3 c4 c5 h0 n0 _ T50.heap _
    rw [e50]
    exact ⟨rfl, N50⟩
  · rw [hk]
    refine Owe.istoreN X0.here hx (hb hby at_7) rfl (l' := #[.val (.int p1), .val (.int (5 : Int32)), .unset, .unset, .unset, .unset, .unset, .unset, .unset, .unset]) rfl ?_
    refine Owe.iloadN X0.here hx (hb hby at_8) rfl ?_
    refine Owe.stat X0 hx (y := (⟨"com/example/gatemark/gatemark/eval/ComparisonIsEqualityPinLaw", "pick", "(I)Lcom/example/gatemark/gatemark/eval/XPathValues$Comparison;"⟩ : MethodName)) hown (mvT hZ (hw _ (List.mem_of_getElem? (i := 1) rfl))) (mvT hZ (hw _ (List.mem_of_getElem? (i := 2) rfl))) (mvT hZ (hw _ (List.mem_of_getElem? (i := 3) rfl))) (mvT hZ (hw _ (List.mem_of_getElem? (i := 4) rfl))) (by decide) (backOf (W := 0) (rmp5 l Z a0 hw [] c5 h0 n0 Z0 S_GREATER_OR_EQUAL Ol) hZ (hw _ (List.mem_of_getElem? (i := 4) rfl)) (hw _ (List.mem_of_getElem? (i := 3) rfl)) (by decide) (by decide)) (by rw [hml]; rfl) (argsL := [(.int (5 : Int32))]) (rest := []) (lenOf pd_1 rfl) rfl (Nat.le_of_ble_eq_true rfl) (hb hby at_9) rfl e0 (by decide) (by decide) fun T51 v51 L51 X51 hQ51 => ?_
    obtain ⟨rfl, Nq51, e51⟩ := hQ51
    have N51 := Fr.app N0 Nq51
    refine Owe.astoreN X51.here hx (hb hby at_12) rfl rfl (l' := #[.val (.int p1), .val (.int (5 : Int32)), .val (.ref c5), .unset, .unset, .unset, .unset, .unset, .unset, .unset]) rfl ?_
    refine Owe.iloadN X51.here hx (hb hby at_13) rfl ?_
    refine Owe.iconst X51.here hx (hb hby at_14) (w := (2 : Int32)) rfl ?_
    refine Owe.icmpYes X51.here hx (hb hby at_15) rfl (flt (by decide)).2.1 (pc' := 22) (by decide) (by decide) ?_
    refine Owe.iconst X51.here hx (hb hby at_22) (w := (0 : Int32)) rfl ?_
    refine Owe.istoreN X51.here hx (hb hby at_23) rfl (l' := #[.val (.int p1), .val (.int (5 : Int32)), .val (.ref c5), .val (.int (0 : Int32)), .unset, .unset, .unset, .unset, .unset, .unset]) rfl ?_
    refine Owe.aloadN X51.here hx (hb hby at_24) rfl rfl ?_
    refine Owe.virt X51 hx hZ (y := (⟨"com/example/gatemark/gatemark/eval/XPathValues$Comparison", "isEquality", "()Z"⟩ : MethodName)) (z := (⟨"com/example/gatemark/gatemark/eval/XPathValues$Comparison", "isEquality", "()Z"⟩ : MethodName)) hown (mvT hZ (hw _ (List.mem_of_getElem? (i := 8) rfl))) (mvT hZ (hw _ (List.mem_of_getElem? (i := 9) rfl))) (mvT hZ (hw _ (List.mem_of_getElem? (i := 11) rfl))) (mvT hZ (hw _ (List.mem_of_getElem? (i := 10) rfl))) (notFace_of_selects (args := #[]) (mvT hZ (hw _ (List.mem_of_getElem? (i := 11) rfl)))) (by decide) (backOf (W := 0) (rmq5 l Z a0 hw [] c0 c1 c5 h0 n0 Z0 S_EQUAL S_NOT_EQUAL Ol ne_c0_c5 ne_c1_c5) hZ (hw _ (List.mem_of_getElem? (i := 12) rfl)) (hw _ (List.mem_of_getElem? (i := 6) rfl)) (by decide) (by decide)) (by rw [hml]; rfl) (a := c5) (argsL := []) (rest := []) E_c5 (lenOf pd_2 rfl) rfl (Nat.le_of_ble_eq_true rfl) (hb hby at_25) rfl e51 (by decide) (by decide) fun T52 v52 L52 X52 hQ52 => ?_
    obtain ⟨rfl, Nq52, e52⟩ := hQ52
    have N52 := Fr.app N51 Nq52
    refine Owe.istore X52.here hx (hb hby at_28) rfl (l' := #[.val (.int p1), .val (.int (5 : Int32)), .val (.ref c5), .val (.int (0 : Int32)), .val (.int (0 : Int32)), .unset, .unset, .unset, .unset, .unset]) rfl ?_
    refine Owe.dconst0 X52.here hx (hb hby at_30) (v := (0 : UInt64)) own_dconst0 ?_
    refine Owe.dstore X52.here hx (hb hby at_31) rfl (l' := #[.val (.int p1), .val (.int (5 : Int32)), .val (.ref c5), .val (.int (0 : Int32)), .val (.int (0 : Int32)), .val (.double (0 : UInt64)), .second, .unset, .unset, .unset]) rfl ?_
    refine Owe.dconst1 X52.here hx (hb hby at_33) (v := (4607182418800017408 : UInt64)) own_dconst1 ?_
    refine Owe.dstore X52.here hx (hb hby at_34) rfl (l' := #[.val (.int p1), .val (.int (5 : Int32)), .val (.ref c5), .val (.int (0 : Int32)), .val (.int (0 : Int32)), .val (.double (0 : UInt64)), .second, .val (.double (4607182418800017408 : UInt64)), .second, .unset]) rfl ?_
    refine Owe.aloadN X52.here hx (hb hby at_36) rfl rfl ?_
    refine Owe.dload X52.here hx (hb hby at_37) rfl ?_
    refine Owe.dload X52.here hx (hb hby at_39) rfl ?_
    refine Owe.virt X52 hx hZ (y := (⟨"com/example/gatemark/gatemark/eval/XPathValues$Comparison", "holds", "(DD)Z"⟩ : MethodName)) (z := (⟨"com/example/gatemark/gatemark/eval/XPathValues$Comparison", "holds", "(DD)Z"⟩ : MethodName)) hown (mvT hZ (hw _ (List.mem_of_getElem? (i := 14) rfl))) (mvT hZ (hw _ (List.mem_of_getElem? (i := 15) rfl))) (mvT hZ (hw _ (List.mem_of_getElem? (i := 17) rfl))) (mvT hZ (hw _ (List.mem_of_getElem? (i := 16) rfl))) (notFace_of_selects (args := #[]) (mvT hZ (hw _ (List.mem_of_getElem? (i := 17) rfl)))) (by decide) (backOf (W := 0) (rmh5a l Z a0 hw [] c5 h0 n0 Z0 E_c5 Fordinal_c5) hZ (hw _ (List.mem_of_getElem? (i := 18) rfl)) (hw _ (List.mem_of_getElem? (i := 6) rfl)) (by decide) (by decide)) (by rw [hml]; rfl) (a := c5) (argsL := [(.double (0 : UInt64)), (.double (4607182418800017408 : UInt64))]) (rest := []) E_c5 (lenOf pd_3 rfl) rfl (Nat.le_of_ble_eq_true rfl) (hb hby at_41) rfl e52 (by decide) (by decide) fun T53 v53 L53 X53 hQ53 => ?_
    obtain ⟨rfl, Nq53, e53⟩ := hQ53
    have N53 := Fr.app N52 Nq53
    refine Owe.aloadN X53.here hx (hb hby at_44) rfl rfl ?_
    refine Owe.dload X53.here hx (hb hby at_45) rfl ?_
    refine Owe.dload X53.here hx (hb hby at_47) rfl ?_
    refine Owe.virt X53 hx hZ (y := (⟨"com/example/gatemark/gatemark/eval/XPathValues$Comparison", "holds", "(DD)Z"⟩ : MethodName)) (z := (⟨"com/example/gatemark/gatemark/eval/XPathValues$Comparison", "holds", "(DD)Z"⟩ : MethodName)) hown (mvT hZ (hw _ (List.mem_of_getElem? (i := 14) rfl))) (mvT hZ (hw _ (List.mem_of_getElem? (i := 15) rfl))) (mvT hZ (hw _ (List.mem_of_getElem? (i := 17) rfl))) (mvT hZ (hw _ (List.mem_of_getElem? (i := 16) rfl))) (notFace_of_selects (args := #[]) (mvT hZ (hw _ (List.mem_of_getElem? (i := 17) rfl)))) (by decide) (backOf (W := 1) (rmh5b l Z a0 hw [] c5 h0 n0 Z0 E_c5 Fordinal_c5) hZ (hw _ (List.mem_of_getElem? (i := 18) rfl)) (hw _ (List.mem_of_getElem? (i := 6) rfl)) (by decide) (by decide)) (by rw [hml]; rfl) (a := c5) (argsL := [(.double (4607182418800017408 : UInt64)), (.double (0 : UInt64))]) (rest := [(.int (0 : Int32))]) E_c5 (lenOf pd_3 rfl) rfl (Nat.le_of_ble_eq_true rfl) (hb hby at_49) rfl e53 (by decide) (by decide) fun T54 v54 L54 X54 hQ54 => ?_
    obtain ⟨rfl, Nq54, e54⟩ := hQ54
    have N54 := Fr.app N53 Nq54
    refine Owe.icmpYes X54.here hx (hb hby at_52) rfl (feq (by decide)).2 (pc' := 59) (by decide) (by decide) ?_
    refine Owe.iconst X54.here hx (hb hby at_59) (w := (0 : Int32)) rfl ?_
    refine Owe.istore X54.here hx (hb hby at_60) rfl (l' := #[.val (.int p1), .val (.int (5 : Int32)), .val (.ref c5), .val (.int (0 : Int32)), .val (.int (0 : Int32)), .val (.double (0 : UInt64)), .second, .val (.double (4607182418800017408 : UInt64)), .second, .val (.int (0 : Int32))]) rfl ?_
    refine Owe.iload X54.here hx (hb hby at_62) rfl ?_
    refine Owe.iloadN X54.here hx (hb hby at_64) rfl ?_
    refine Owe.icmpNo X54.here hx (hb hby at_65) rfl (teq (by decide)).2 ?_
    refine Owe.iload X54.here hx (hb hby at_68) rfl ?_
    refine Owe.iload X54.here hx (hb hby at_70) rfl ?_
    refine Owe.icmpNo X54.here hx (hb hby at_72) rfl (teq (by decide)).2 ?_
    refine Owe.iconst X54.here hx (hb hby at_75) (w := (1 : Int32)) rfl ?_
    refine Owe.goto X54.here hx (hb hby at_76) (pc' := 80) (by decide) (by decide) ?_
    refine Owe.retN X54 hx hlk (t := .boolean) Bd.returns (by simp) (hb hby at_80) rfl fun fs hE => ?_
    rw [hG]
    refine ⟨_, _, rfl, ?_, frameMono hE (by decide) (by decide)⟩
    show Q0 Z p1 c0 c1 c2 c3 c4 c5 h0 n0 _ T54.heap _
    rw [e54]
    exact ⟨rfl, N54⟩
set_option maxRecDepth 65536 in
set_option maxHeartbeats 40000000 in
theorem comes_1 {Post : Tables → Env → Array Value → State → Outcome → State → Prop} (hpost : ∀ tb e args s v u, (limb_1_1.after args s (.returned v) u = true ∧ limb_1_2.after args s (.returned v) u = true ∧ True) → FrameEnd s (.returned v) u (Jvm.fieldLocs frame_1_writes args s ++ Jvm.arrayLocs frame_1_arrays args s ++ Jvm.staticLocs frame_1_statics s) 0 0 → Post tb e args s (.returned v) u) :
    ArmFor flags0 classFile x code maxLocals ret World_1 tables_1 room_1 Calls_1 rest_1 Pre_1 Post := by
  intro l hfl _ _ p e ha hc hk s m args below hf hA hF happ hP
  obtain ⟨hcalls, hrest, hpre⟩ := hP
  obtain ⟨-, -, -, hnamed, -, -, -, hat⟩ := (Spec.applies_iff hf).mp happ
  obtain ⟨hg, hn⟩ := and_e (Cond.before_iff.mp (show (Jvm.Cond.and given_1 narrow_1).before args s = true from hpre))
  obtain ⟨g0, q0⟩ := and_e hg
  obtain ⟨w0, rfl⟩ : ∃ w0 : Value, args = #[w0] := by
    have hs : args.size = 1 := by simpa [Cond.value, given_1] using g0
    obtain ⟨L⟩ := args
    match L, hs with
    | [w0], _ => exact ⟨w0, rfl⟩
  have hw := fun d (hd : d ∈ tables_1) => atoms_spec (ws := Jvm.Cond.code x code maxLocals ret :: tables_1) hat d (List.mem_cons_of_mem _ hd)
  have hfit : Fit s := fun {y c} hc i hi => by
    obtain ⟨ha, rfl⟩ := Array.getElem?_eq_some_iff.mp hc
    have q := List.all_eq_true.mp ((Array.all_eq_true_iff_forall_mem.mp hF) _ (Array.getElem_mem ha)) i (List.mem_range.mpr hi)
    simpa [Array.getElem?_eq_getElem hi] using q
  obtain ⟨i0, ei0⟩ := is_v q0
  obtain rfl : w0 = (.int i0) := Option.some.inj ei0
  obtain ⟨x0, m0⟩ := and_e hn
  obtain ⟨o0, r0⟩ := and_e m0
  obtain ⟨c0, v0⟩ := exa_v x0
  have S0 : Sta s s.heap "com/example/gatemark/gatemark/eval/XPathValues$Comparison" "EQUAL" "Lcom/example/gatemark/gatemark/eval/XPathValues$Comparison;" (.ref c0) := Sta.start v0 (Or.inr ⟨(hw _ (List.mem_of_getElem? (i := 6) rfl)), (hw _ (List.mem_of_getElem? (i := 7) rfl))⟩)
  have E0 := Exa.start v0 x0
  have F0 := own_fld_int v0 o0
  obtain ⟨x3, m3⟩ := and_e r0
  obtain ⟨o3, r3⟩ := and_e m3
  obtain ⟨c3, v3⟩ := exa_v x3
  have S3 : Sta s s.heap "com/example/gatemark/gatemark/eval/XPathValues$Comparison" "LESS_OR_EQUAL" "Lcom/example/gatemark/gatemark/eval/XPathValues$Comparison;" (.ref c3) := Sta.start v3 (Or.inr ⟨(hw _ (List.mem_of_getElem? (i := 6) rfl)), (hw _ (List.mem_of_getElem? (i := 29) rfl))⟩)
  have E3 := Exa.start v3 x3
  have F3 := own_fld_int v3 o3
  obtain ⟨x1, m1⟩ := and_e r3
  obtain ⟨o1, r1⟩ := and_e m1
  obtain ⟨c1, v1⟩ := exa_v x1
  have S1 : Sta s s.heap "com/example/gatemark/gatemark/eval/XPathValues$Comparison" "NOT_EQUAL" "Lcom/example/gatemark/gatemark/eval/XPathValues$Comparison;" (.ref c1) := Sta.start v1 (Or.inr ⟨(hw _ (List.mem_of_getElem? (i := 6) rfl)), (hw _ (List.mem_of_getElem? (i := 31) rfl))⟩)
  have E1 := Exa.start v1 x1
  have F1 := own_fld_int v1 o1
  obtain ⟨x2, m2⟩ := and_e r1
  obtain ⟨o2, r2⟩ := and_e m2
  obtain ⟨c2, v2⟩ := exa_v x2
  have S2 : Sta s s.heap "com/example/gatemark/gatemark/eval/XPathValues$Comparison" "LESS" "Lcom/example/gatemark/gatemark/eval/XPathValues$Comparison;" (.ref c2) := Sta.start v2 (Or.inr ⟨(hw _ (List.mem_of_getElem? (i := 6) rfl)), (hw _ (List.mem_of_getElem? (i := 33) rfl))⟩)
  have E2 := Exa.start v2 x2
  have F2 := own_fld_int v2 o2
  obtain ⟨x5, m5⟩ := and_e r2
  obtain ⟨o5, r5⟩ := and_e m5
  obtain ⟨c5, v5⟩ := exa_v x5
  have S5 : Sta s s.heap "com/example/gatemark/gatemark/eval/XPathValues$Comparison" "GREATER_OR_EQUAL" "Lcom/example/gatemark/gatemark/eval/XPathValues$Comparison;" (.ref c5) := Sta.start v5 (Or.inr ⟨(hw _ (List.mem_of_getElem? (i := 6) rfl)), (hw _ (List.mem_of_getElem? (i := 36) rfl))⟩)
  have E5 := Exa.start v5 x5
  have F5 := own_fld_int v5 o5
  obtain ⟨x4, m4⟩ := and_e r5
  have o4 := m4
  obtain ⟨c4, v4⟩ := exa_v x4
  have S4 : Sta s s.heap "com/example/gatemark/gatemark/eval/XPathValues$Comparison" "GREATER" "Lcom/example/gatemark/gatemark/eval/XPathValues$Comparison;" (.ref c4) := Sta.start v4 (Or.inr ⟨(hw _ (List.mem_of_getElem? (i := 6) rfl)), (hw _ (List.mem_of_getElem? (i := 38) rfl))⟩)
  have E4 := Exa.start v4 x4
  have F4 := own_fld_int v4 o4
  have n01 := Fld.ne F0 F1 (by decide)
  have n02 := Fld.ne F0 F2 (by decide)
  have n03 := Fld.ne F0 F3 (by decide)
  have n04 := Fld.ne F0 F4 (by decide)
  have n05 := Fld.ne F0 F5 (by decide)
  have n12 := Fld.ne F1 F2 (by decide)
  have n13 := Fld.ne F1 F3 (by decide)
  have n14 := Fld.ne F1 F4 (by decide)
  have n15 := Fld.ne F1 F5 (by decide)
  obtain ⟨n, o, h1, h2, h3, _, L, rfl, ⟨rfl, N⟩, hq⟩ := rm0 l s _ hw tables_1 i0 c0 c1 c2 c3 c4 c5 s.heap s.heap.size (Nat.le_refl _) S0 S1 S2 S3 S4 S5 E0 E1 E2 E3 E4 E5 F0 F1 F2 F3 F4 F5 n01 n02 n03 n04 n05 n12 n13 n14 n15 (Old.start s) p e ha hc hk s m _ below hf ((Spec.applies_iff_loose hf).mp happ).1 ⟨rfl, State.Warmed39.refl s, rfl⟩ trivial
  refine ⟨n, _, h1, h2, h3, hpost _ _ _ _ _ _ ⟨Cond.after_iff.mpr rfl, Cond.after_iff.mpr (eq_i res_at (Term.int_eval (1)) rfl), trivial⟩ ⟨hq.1, hq.2.1, (hq.2.2.sift fun y hy => Or.inr (N y hy)).mono (by decide) (by decide)⟩⟩
theorem main_1_1 : Claimed_1_1 := comes_1 fun _ _ _ _ _ _ h hF => ⟨h.1, hF⟩
theorem main_1_2 : Claimed_1_2 := comes_1 fun _ _ _ _ _ _ h hF => ⟨h.2.1, hF⟩
end Jvm.Pilot.@@N@@
namespace Jvm.Pilot.@@N@@
open Jvm Jvm.ClassFile Sem Op Lib Jvm.Free Jvm.Stand Jvm.Pilot.@@N@@.Jvm.D
/-! MADE BY PROGRAM (witnessworld.py) out of the Statement's table words and the real class files: 12 classes; the members and pool entries that the words name. The judged class is class 1, her method 2. -/
namespace start1
open Jvm.ClassFile
def u (s : String) : CpInfo := .utf8 (stringToUtf16 s)
/-- a pool by its gaps: so many unusable entries, then the entry; so many at the end -/
def gap : Nat → List CpInfo → List CpInfo
  | 0, r => r
  | n + 1, r => .unusable :: gap n r
def poolList (es : List (Nat × CpInfo)) (last : Nat) : List CpInfo := es.foldr (fun e r => gap e.1 (e.2 :: r)) (gap last [])
def pool (es : List (Nat × CpInfo)) (last : Nat) : Array CpInfo := ⟨poolList es last⟩
def fileOf (pool : Array CpInfo) (this : Nat) (attrs : Array Attribute := #[]) (ms : Array MethodInfo := #[]) (fl : Nat := 33) (sup : Nat := 0) (ifs : Array Nat := #[]) (fds : Array FieldInfo := #[]) : ClassFile where
  minorVersion := 0
  majorVersion := 65
  constantPool := pool
  accessFlags := fl
  thisClass := this
  superClass := sup
  interfaces := ifs
  fields := fds
  methods := ms
  attributes := attrs
def plain (name : String) (sup : Option ClassId) : Class where
  name := name
  kind := .ordinary
  loader := none
  accessFlags := 33
  super := sup
  interfaces := #[]
  cf := none
  fields := #[]
  methods := #[]
  instanceTypes := #[]
  staticTypes := #[]
  resolved := #[]
  callSites := []
  init := .initialized
  statics := none
  mirror := none

def pool0 : Array CpInfo := pool [(5, u "<init>"), (0, u "()V"), (1, .class_ 10), (1, u "java/lang/Object")] 113

def k0m0 : Method := { name := "<init>", desc := "()V", sig := { parameters := [], returnType := none }, accessFlags := 1, code := none }
/-- java/lang/Object -/
def k0 : Class := { plain "java/lang/Object" none with
  accessFlags := 33
  interfaces := #[]
  cf := some (fileOf pool0 8 #[] #[{ accessFlags := 1, nameIndex := 5, descriptorIndex := 6, attributes := #[] }] 33 0 #[] #[])
  fields := #[]
  methods := #[k0m0]
  instanceTypes := #[]
  staticTypes := #[]
  resolved := Array.replicate 124 none
  statics := none }

def pool1 : Array CpInfo := pool [(2, .class_ 4), (1, u "java/lang/Object"), (0, u "<init>"), (0, u "()V"), (0, .fieldref 8 9), (0, .class_ 10), (0, .nameAndType 11 12), (0, u "com/example/gatemark/gatemark/eval/XPathValues$Comparison"), (0, u "EQUAL"), (0, u "Lcom/example/gatemark/gatemark/eval/XPathValues$Comparison;"), (0, .fieldref 8 14), (0, .nameAndType 15 12), (0, u "NOT_EQUAL"), (0, .fieldref 8 17), (0, .nameAndType 18 12), (0, u "LESS"), (0, .fieldref 8 20), (0, .nameAndType 21 12), (0, u "LESS_OR_EQUAL"), (0, .fieldref 8 23), (0, .nameAndType 24 12), (0, u "GREATER"), (0, .fieldref 8 26), (0, .nameAndType 27 12), (0, u "GREATER_OR_EQUAL"), (0, .integer 2147483647), (0, .methodref 30 31), (0, .class_ 32), (0, .nameAndType 33 34), (0, u "com/example/gatemark/gatemark/eval/ComparisonIsEqualityPinLaw"), (0, u "pick"), (0, u "(I)Lcom/example/gatemark/gatemark/eval/XPathValues$Comparison;"), (0, .methodref 8 36), (0, .nameAndType 37 38), (0, u "isEquality"), (0, u "()Z"), (0, .methodref 8 40), (0, .nameAndType 41 42), (0, u "holds"), (0, u "(DD)Z"), (3, u "law"), (0, u "(I)Z")] 6

def k1m0 : Method := { name := "<init>", desc := "()V", sig := { parameters := [], returnType := none }, accessFlags := 2, code := none }
def k1c1 : Code := { maxStack := 2, maxLocals := 2, code := method_2_code, exceptionTable := #[], attributes := #[] }
def k1m1 : Method := { name := "pick", desc := "(I)Lcom/example/gatemark/gatemark/eval/XPathValues$Comparison;", sig := { parameters := [.int], returnType := some (.object "com/example/gatemark/gatemark/eval/XPathValues$Comparison") }, accessFlags := 10, code := some k1c1 }
def k1c2 : Code := { maxStack := 6, maxLocals := 10, code := code, exceptionTable := #[], attributes := #[] }
def k1m2 : Method := { name := "law", desc := "(I)Z", sig := { parameters := [.int], returnType := some .boolean }, accessFlags := 9, code := some k1c2 }
/-- com/example/gatemark/gatemark/eval/ComparisonIsEqualityPinLaw -/
def k1 : Class := { plain "com/example/gatemark/gatemark/eval/ComparisonIsEqualityPinLaw" (some 0) with
  accessFlags := 49
  interfaces := #[]
  cf := some (fileOf pool1 30 #[] #[{ accessFlags := 2, nameIndex := 5, descriptorIndex := 6, attributes := #[] }, { accessFlags := 10, nameIndex := 33, descriptorIndex := 34, attributes := #[] }, { accessFlags := 9, nameIndex := 46, descriptorIndex := 47, attributes := #[] }] 49 2 #[] #[])
  fields := #[]
  methods := #[k1m0, k1m1, k1m2]
  instanceTypes := #[]
  staticTypes := #[]
  resolved := Array.replicate 54 none
  statics := none }

def pool2 : Array CpInfo := pool [(1, .class_ 2), (0, u "java/lang/constant/Constable"), (0, .class_ 4), (0, u "java/lang/Object")] 6

/-- java/lang/constant/Constable -/
def k2 : Class := { plain "java/lang/constant/Constable" (some 0) with
  accessFlags := 1537
  interfaces := #[]
  cf := some (fileOf pool2 1 #[] #[] 1537 3 #[] #[])
  fields := #[]
  methods := #[]
  instanceTypes := #[]
  staticTypes := #[]
  resolved := Array.replicate 11 none
  statics := none }

def pool3 : Array CpInfo := pool [(1, .class_ 2), (0, u "java/lang/Comparable"), (0, .class_ 4), (0, u "java/lang/Object")] 7

/-- java/lang/Comparable -/
def k3 : Class := { plain "java/lang/Comparable" (some 0) with
  accessFlags := 1537
  interfaces := #[]
  cf := some (fileOf pool3 1 #[] #[] 1537 3 #[] #[])
  fields := #[]
  methods := #[]
  instanceTypes := #[]
  staticTypes := #[]
  resolved := Array.replicate 12 none
  statics := none }

def pool4 : Array CpInfo := pool [(1, .class_ 2), (0, u "java/io/Serializable"), (0, .class_ 4), (0, u "java/lang/Object")] 2

/-- java/io/Serializable -/
def k4 : Class := { plain "java/io/Serializable" (some 0) with
  accessFlags := 1537
  interfaces := #[]
  cf := some (fileOf pool4 1 #[] #[] 1537 3 #[] #[])
  fields := #[]
  methods := #[]
  instanceTypes := #[]
  staticTypes := #[]
  resolved := Array.replicate 7 none
  statics := none }

def pool5 : Array CpInfo := pool [(2, .class_ 4), (1, u "java/lang/Enum"), (0, u "name"), (0, u "Ljava/lang/String;"), (0, .fieldref 2 8), (0, .nameAndType 9 10), (0, u "ordinal"), (0, u "I"), (1, .class_ 14), (1, u "java/lang/Object"), (4, u "hash"), (86, .class_ 108), (1, u "java/lang/Enum$EnumDesc"), (2, .class_ 112), (0, u "java/lang/constant/Constable"), (0, .class_ 114), (0, u "java/lang/Comparable"), (0, .class_ 116), (0, u "java/io/Serializable"), (9, u "()I")] 77

def k5c0 : Code := { maxStack := 1, maxLocals := 1, code := jdk_37_method_2_code, exceptionTable := #[], attributes := #[] }
def k5m0 : Method := { name := "ordinal", desc := "()I", sig := { parameters := [], returnType := some .int }, accessFlags := 17, code := some k5c0 }
/-- java/lang/Enum -/
def k5 : Class := { plain "java/lang/Enum" (some 0) with
  accessFlags := 1057
  interfaces := #[2, 3, 4]
  cf := some (fileOf pool5 2 #[.nestMembers #[106]] #[{ accessFlags := 17, nameIndex := 9, descriptorIndex := 126, attributes := #[] }] 1057 12 #[111, 113, 115] #[{ accessFlags := 18, nameIndex := 5, descriptorIndex := 6, attributes := #[] }, { accessFlags := 18, nameIndex := 9, descriptorIndex := 10, attributes := #[] }, { accessFlags := 2, nameIndex := 19, descriptorIndex := 10, attributes := #[] }])
  fields := #[{ name := "name", type := (.object "java/lang/String"), accessFlags := 18, slot := 0, constantValue := 0 }, { name := "ordinal", type := .int, accessFlags := 18, slot := 1, constantValue := 0 }, { name := "hash", type := .int, accessFlags := 2, slot := 2, constantValue := 0 }]
  methods := #[k5m0]
  instanceTypes := #[(.object "java/lang/String"), .int, .int]
  staticTypes := #[]
  resolved := Array.replicate 204 none
  statics := none }

def pool6 : Array CpInfo := pool [(1, .class_ 2), (0, u "com/example/gatemark/gatemark/eval/XPathValues$Comparison"), (0, .fieldref 1 4), (0, .nameAndType 5 6), (0, u "EQUAL"), (0, u "Lcom/example/gatemark/gatemark/eval/XPathValues$Comparison;"), (0, .fieldref 1 8), (0, .nameAndType 9 6), (0, u "NOT_EQUAL"), (2, u "LESS"), (2, u "LESS_OR_EQUAL"), (2, u "GREATER"), (2, u "GREATER_OR_EQUAL"), (2, u "$VALUES"), (0, u "[Lcom/example/gatemark/gatemark/eval/XPathValues$Comparison;"), (6, .class_ 34), (1, u "java/lang/Enum"), (8, u "symbol"), (0, u "Ljava/lang/String;"), (10, .methodref 1 56), (0, .nameAndType 57 58), (0, u "ordinal"), (0, u "()I"), (47, u "isEquality"), (0, u "()Z"), (2, u "holds"), (0, u "(DD)Z"), (7, .class_ 120), (0, u "com/example/gatemark/gatemark/eval/XPathValues")] 2

def k6c0 : Code := { maxStack := 2, maxLocals := 1, code := prog_136_method_5_code, exceptionTable := #[], attributes := #[] }
def k6m0 : Method := { name := "isEquality", desc := "()Z", sig := { parameters := [], returnType := some .boolean }, accessFlags := 0, code := some k6c0 }
def k6c1 : Code := { maxStack := 4, maxLocals := 6, code := prog_136_method_7_code, exceptionTable := #[], attributes := #[] }
def k6m1 : Method := { name := "holds", desc := "(DD)Z", sig := { parameters := [.double, .double], returnType := some .boolean }, accessFlags := 0, code := some k6c1 }
/-- com/example/gatemark/gatemark/eval/XPathValues$Comparison -/
def k6 : Class := { plain "com/example/gatemark/gatemark/eval/XPathValues$Comparison" (some 5) with
  accessFlags := 16432
  interfaces := #[]
  cf := some (fileOf pool6 1 #[.nestHost 119] #[{ accessFlags := 0, nameIndex := 106, descriptorIndex := 107, attributes := #[] }, { accessFlags := 0, nameIndex := 110, descriptorIndex := 111, attributes := #[] }] 16432 32 #[] #[{ accessFlags := 16409, nameIndex := 5, descriptorIndex := 6, attributes := #[] }, { accessFlags := 16409, nameIndex := 9, descriptorIndex := 6, attributes := #[] }, { accessFlags := 16409, nameIndex := 12, descriptorIndex := 6, attributes := #[] }, { accessFlags := 16409, nameIndex := 15, descriptorIndex := 6, attributes := #[] }, { accessFlags := 16409, nameIndex := 18, descriptorIndex := 6, attributes := #[] }, { accessFlags := 16409, nameIndex := 21, descriptorIndex := 6, attributes := #[] }, { accessFlags := 18, nameIndex := 43, descriptorIndex := 44, attributes := #[] }, { accessFlags := 4122, nameIndex := 24, descriptorIndex := 25, attributes := #[] }])
  fields := #[{ name := "EQUAL", type := (.object "com/example/gatemark/gatemark/eval/XPathValues$Comparison"), accessFlags := 16409, slot := 0, constantValue := 0 }, { name := "NOT_EQUAL", type := (.object "com/example/gatemark/gatemark/eval/XPathValues$Comparison"), accessFlags := 16409, slot := 1, constantValue := 0 }, { name := "LESS", type := (.object "com/example/gatemark/gatemark/eval/XPathValues$Comparison"), accessFlags := 16409, slot := 2, constantValue := 0 }, { name := "LESS_OR_EQUAL", type := (.object "com/example/gatemark/gatemark/eval/XPathValues$Comparison"), accessFlags := 16409, slot := 3, constantValue := 0 }, { name := "GREATER", type := (.object "com/example/gatemark/gatemark/eval/XPathValues$Comparison"), accessFlags := 16409, slot := 4, constantValue := 0 }, { name := "GREATER_OR_EQUAL", type := (.object "com/example/gatemark/gatemark/eval/XPathValues$Comparison"), accessFlags := 16409, slot := 5, constantValue := 0 }, { name := "symbol", type := (.object "java/lang/String"), accessFlags := 18, slot := 3, constantValue := 0 }, { name := "$VALUES", type := (.array (.object "com/example/gatemark/gatemark/eval/XPathValues$Comparison")), accessFlags := 4122, slot := 6, constantValue := 0 }]
  methods := #[k6m0, k6m1]
  instanceTypes := #[(.object "java/lang/String"), .int, .int, (.object "java/lang/String")]
  staticTypes := #[(.object "com/example/gatemark/gatemark/eval/XPathValues$Comparison"), (.object "com/example/gatemark/gatemark/eval/XPathValues$Comparison"), (.object "com/example/gatemark/gatemark/eval/XPathValues$Comparison"), (.object "com/example/gatemark/gatemark/eval/XPathValues$Comparison"), (.object "com/example/gatemark/gatemark/eval/XPathValues$Comparison"), (.object "com/example/gatemark/gatemark/eval/XPathValues$Comparison"), (.array (.object "com/example/gatemark/gatemark/eval/XPathValues$Comparison"))]
  resolved := Array.replicate 123 none
  statics := some 0 }

def pool7 : Array CpInfo := pool [(1, u "java/lang/Cloneable"), (0, .class_ 1), (0, u "java/lang/Object"), (0, .class_ 3)] 3

/-- java/lang/Cloneable -/
def k7 : Class := { plain "java/lang/Cloneable" (some 0) with
  accessFlags := 1537
  interfaces := #[]
  cf := some (fileOf pool7 2 #[] #[] 1537 4 #[] #[])
  fields := #[]
  methods := #[]
  instanceTypes := #[]
  staticTypes := #[]
  resolved := Array.replicate 8 none
  statics := none }

/-- the primitive byte -/
def k8 : Class := { plain "byte" none with kind := .primitive 'B', accessFlags := 0x411 }
/-- [B -/
def k9 : Class := { plain "[B" (some 0) with kind := .array 8 .byte, interfaces := #[7, 4], accessFlags := 1041 }

/-- the primitive int -/
def k10 : Class := { plain "int" none with kind := .primitive 'I', accessFlags := 0x411 }
/-- [I -/
def k11 : Class := { plain "[I" (some 0) with kind := .array 10 .int, interfaces := #[7, 4], accessFlags := 1041 }

def heap : Heap := #[{ cls := 6, slots := #[.ref 1, .ref 2, .ref 3, .ref 4, .ref 5, .ref 6, .null], vm := .statics 6 },
  { cls := 6, slots := #[.null, .int 0, .int 0, .null], vm := .none },
  { cls := 6, slots := #[.null, .int 1, .int 0, .null], vm := .none },
  { cls := 6, slots := #[.null, .int 2, .int 0, .null], vm := .none },
  { cls := 6, slots := #[.null, .int 3, .int 0, .null], vm := .none },
  { cls := 6, slots := #[.null, .int 4, .int 0, .null], vm := .none },
  { cls := 6, slots := #[.null, .int 5, .int 0, .null], vm := .none }]
def classes : Array Class := #[k0, k1, k2, k3, k4, k5, k6, k7, k8, k9, k10, k11]
def interned : List (Array UInt16 × Addr) := []
def slotsUsed : Nat := 31
def theMethod : MethodId := ⟨1, 2⟩
def args0 : Array Value := #[.int 5]
def aboutOver (below : List Frame) : State where
  vm := { classes := classes, interned := interned.toArray }
  heap := heap
  slotsUsed := slotsUsed
  threads := #[{ frames := .invoking theMethod args0 :: below }]
def below0 : List Frame := [.native { method := ⟨0, 0⟩, args := #[] }]
def about1 : State := aboutOver below0
def p0 : Program := .bare "" "" ""
def e0 : Env := launch0.env 0 0 0
theorem w_frames : about1.frames = Frame.invoking theMethod args0 :: below0 := rfl
set_option maxRecDepth 65536 in
theorem w_args : argsFit about1.vm theMethod args0 = true := by decide +kernel
set_option maxRecDepth 65536 in
theorem w_heap : heapFits about1 = true := by decide +kernel
set_option maxRecDepth 65536 in
theorem w_runnable : about1.curStatus? = some .runnable := by decide +kernel
set_option maxRecDepth 65536 in
theorem w_alone : about1.alone = true := by decide +kernel
set_option maxRecDepth 65536 in
theorem w_named : about1.methodNamed? x = some theMethod := by decide +kernel
set_option maxRecDepth 65536 in
theorem w_hears : about1.hears theMethod below0 = true := by decide +kernel
set_option maxRecDepth 65536 in
theorem w_ripe : about1.ripe theMethod args0 below0 = true := by decide +kernel
theorem w_running : about1.status = .running := rfl
set_option maxRecDepth 65536 in
theorem w_room : about1.hasRoom e0.platform room_1 = true :=
  launch0.hasRoom_least _ room_1 (by decide +kernel) (by decide +kernel) (by decide +kernel) (by decide +kernel) (by decide +kernel) (by decide +kernel)
theorem allAtoms_all (ts : List Jvm.Cond) (a : Array Jvm.Value) (st : Jvm.State) : (allAtoms ts).before a st = ts.all (fun c => c.before a st) := by
  induction ts with
  | nil => rfl
  | cons c t ih =>
    show (Jvm.Cond.and c (allAtoms t)).before a st = _
    rw [Jvm.Cond.before_and, ih, List.all_cons]
def words1 : List Jvm.Cond := Jvm.Cond.code x code maxLocals ret :: tables_1
/-- a 'code' word, met by the world's own term for the bytes: nothing is compared byte by byte -/
theorem code_word {y : MethodName} {bytes : ByteArray} {mx : Nat} {rt : Option FieldType} {a : Array Value} {s : State} {m : MethodId} {meth : Method} {c : Code} (h1 : s.methodNamed? y = some m) (h2 : s.vm.method? m = some meth) (h3 : meth.code = some c) (h4 : c.code = bytes)
    (h5 : (c.maxLocals == mx && c.exceptionTable.isEmpty && decide (c.maxStack ≤ mostOperands) && decide (meth.sig.returnType = rt) && !meth.locks && decide (parseMethodDescriptor y.desc = some meth.sig)) = true) : (Jvm.Cond.code y bytes mx rt).before a s = true := by
  simp only [Bool.and_eq_true, beq_iff_eq, Bool.not_eq_true', decide_eq_true_eq] at h5
  obtain ⟨⟨⟨⟨⟨g1, g2⟩, g3⟩, g4⟩, g5⟩, g6⟩ := h5
  simp [Cond.before, Cond.holds, Cond.value, h1, h2, h3, h4, g1, g2, g3, g4, g5, g6]
def isCode : Jvm.Cond → Bool
  | .code _ _ _ _ => true
  | _ => false
theorem all_split {L : List Jvm.Cond} {P : Jvm.Cond → Bool} (h1 : L.all (fun c => isCode c || P c) = true) (h2 : ∀ c ∈ L.filter isCode, P c = true) : L.all P = true := by
  refine List.all_eq_true.mpr fun c hc => ?_
  have h := List.all_eq_true.mp h1 c hc
  rcases Bool.eq_false_or_eq_true (isCode c) with hi | hi
  · exact h2 c (List.mem_filter.mpr ⟨hc, hi⟩)
  · simpa [hi] using h
set_option maxRecDepth 65536 in
theorem w_c0 : (Jvm.Cond.code x code maxLocals ret).before args0 about1 = true := code_word (m := ⟨1, 2⟩) (meth := k1m2) (c := k1c2) (by decide +kernel) rfl rfl rfl (by decide +kernel)
set_option maxRecDepth 65536 in
theorem w_c1 : (Jvm.Cond.code ({ cls := "com/example/gatemark/gatemark/eval/ComparisonIsEqualityPinLaw", name := "pick", desc := "(I)Lcom/example/gatemark/gatemark/eval/XPathValues$Comparison;" } : Jvm.MethodName) method_2_code (2 : Nat) (Option.some (Jvm.ClassFile.FieldType.object "com/example/gatemark/gatemark/eval/XPathValues$Comparison"))).before args0 about1 = true := code_word (m := ⟨1, 1⟩) (meth := k1m1) (c := k1c1) (by decide +kernel) rfl rfl rfl (by decide +kernel)
set_option maxRecDepth 65536 in
theorem w_c2 : (Jvm.Cond.code ({ cls := "com/example/gatemark/gatemark/eval/XPathValues$Comparison", name := "isEquality", desc := "()Z" } : Jvm.MethodName) prog_136_method_5_code (1 : Nat) (Option.some Jvm.ClassFile.FieldType.boolean)).before args0 about1 = true := code_word (m := ⟨6, 0⟩) (meth := k6m0) (c := k6c0) (by decide +kernel) rfl rfl rfl (by decide +kernel)
set_option maxRecDepth 65536 in
theorem w_c3 : (Jvm.Cond.code ({ cls := "com/example/gatemark/gatemark/eval/XPathValues$Comparison", name := "holds", desc := "(DD)Z" } : Jvm.MethodName) prog_136_method_7_code (6 : Nat) (Option.some Jvm.ClassFile.FieldType.boolean)).before args0 about1 = true := code_word (m := ⟨6, 1⟩) (meth := k6m1) (c := k6c1) (by decide +kernel) rfl rfl rfl (by decide +kernel)
set_option maxRecDepth 65536 in
theorem w_c4 : (Jvm.Cond.code ({ cls := "java/lang/Enum", name := "ordinal", desc := "()I" } : Jvm.MethodName) jdk_37_method_2_code (1 : Nat) (Option.some Jvm.ClassFile.FieldType.int)).before args0 about1 = true := code_word (m := ⟨5, 0⟩) (meth := k5m0) (c := k5c0) (by decide +kernel) rfl rfl rfl (by decide +kernel)
def codes1 : List Jvm.Cond := [Jvm.Cond.code x code maxLocals ret, Jvm.Cond.code ({ cls := "com/example/gatemark/gatemark/eval/ComparisonIsEqualityPinLaw", name := "pick", desc := "(I)Lcom/example/gatemark/gatemark/eval/XPathValues$Comparison;" } : Jvm.MethodName) method_2_code (2 : Nat) (Option.some (Jvm.ClassFile.FieldType.object "com/example/gatemark/gatemark/eval/XPathValues$Comparison")), Jvm.Cond.code ({ cls := "com/example/gatemark/gatemark/eval/XPathValues$Comparison", name := "isEquality", desc := "()Z" } : Jvm.MethodName) prog_136_method_5_code (1 : Nat) (Option.some Jvm.ClassFile.FieldType.boolean), Jvm.Cond.code ({ cls := "com/example/gatemark/gatemark/eval/XPathValues$Comparison", name := "holds", desc := "(DD)Z" } : Jvm.MethodName) prog_136_method_7_code (6 : Nat) (Option.some Jvm.ClassFile.FieldType.boolean), Jvm.Cond.code ({ cls := "java/lang/Enum", name := "ordinal", desc := "()I" } : Jvm.MethodName) jdk_37_method_2_code (1 : Nat) (Option.some Jvm.ClassFile.FieldType.int)]
set_option maxRecDepth 65536 in
theorem codes_eq : words1.filter isCode = codes1 := rfl
theorem w_codes : ∀ c ∈ words1.filter isCode, c.before args0 about1 = true := by
  rw [codes_eq]
  intro c hc
  simp only [codes1, List.mem_cons, List.not_mem_nil, or_false] at hc
  rcases hc with rfl | rfl | rfl | rfl | rfl
  · exact w_c0
  · exact w_c1
  · exact w_c2
  · exact w_c3
  · exact w_c4
set_option maxRecDepth 65536 in
theorem w_t1 : (words1.take 24).all (fun c => isCode c || c.before args0 about1) = true := by decide +kernel
set_option maxRecDepth 65536 in
theorem w_t2 : (words1.drop 24).all (fun c => isCode c || c.before args0 about1) = true := by decide +kernel
theorem w_tables : (allAtoms (Jvm.Cond.code x code maxLocals ret :: tables_1)).before args0 about1 = true := by
  rw [allAtoms_all]
  show words1.all (fun c => c.before args0 about1) = true
  refine all_split ?_ w_codes
  rw [← List.take_append_drop 24 words1, List.all_append, w_t1, w_t2]
  rfl
set_option maxRecDepth 65536 in
theorem w_case : (Jvm.Cond.and given_1 narrow_1).before args0 about1 = true := by decide +kernel
theorem w_applies : (headSpec (Jvm.Cond.code x code maxLocals ret :: tables_1) room_1).applies x e0.platform about1 = true :=
  (Spec.applies_iff w_frames).mpr ⟨w_running, w_runnable, w_alone, w_named, w_hears, w_ripe, w_room, w_tables⟩
theorem atStart : AtStart classFile x code maxLocals ret World_1 tables_1 room_1 Calls_1 rest_1 Pre_1 launch0 p0 e0 about1 theMethod args0 below0 :=
  ⟨lists_1, trivial, launch0.admits_env _ _ _, launch0.least_env, fairChoices_fair.cas, fairChoices_fair.clock, w_frames, w_args, w_heap, w_applies, trivial, trivial, w_case⟩
end start1
theorem witness_1 : WitnessClaimed_1 := ⟨start1.p0, start1.e0, start1.about1, start1.theMethod, start1.args0, start1.below0, start1.atStart⟩
end Jvm.Pilot.@@N@@
