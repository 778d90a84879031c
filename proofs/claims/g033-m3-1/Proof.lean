import JvmDerived
import JvmDerived.Pilot.@@N@@Statement
import JvmDerived.Pilot.@@N@@Code
set_option linter.unusedVariables false
set_option linter.unusedSimpArgs false
namespace Jvm.Own
open Jvm Sem ClassFile Op Lib Jvm.Stand Jvm.Free Jvm.LawKit Jvm.RoadKit Bundle
/-- from the state U on the body comes to its end, and what it leaves answers to Q -/
def Ends (tb : Tables) (e : Env) (below : List Frame) (s : State) (Q : Option Value → Heap → List Loc → Prop) (C S : Nat) (U : State) : Prop :=
  ∃ s₂ o, Steps tb e below U s₂ ∧ s₂.status = .running ∧ Ended s₂ below o ∧ ∃ v L, o = .returned v ∧ Q v s₂.heap L ∧ FrameEnd s o s₂ L C S
section Walk
variable {p : Program} {l : Launch} {e : Env} {R : Room} {s : State} {m : MethodId} {args : Array Value} {below : List Frame} {meth : Method} {c : Code} {T : State} {locs : List Loc} {cells slots : Nat} {Q : Option Value → Heap → List Loc → Prop} {C S : Nat} {pc : Nat} {Ls : Array Slot} {st : List Value} {Z : State} {a0 : Array Value} {h : Heap}
theorem Ends.step {tb : Tables} {U V : State} (k : Ends tb e below s Q C S V) (hs : ∀ t, Steps tb e below V t → Steps tb e below U t) : Ends tb e below s Q C S U := by
  obtain ⟨s₂, o, h1, r⟩ := k
  exact ⟨s₂, o, hs _ h1, r⟩
theorem Ends.mono {tb : Tables} {U : State} {Q' : Option Value → Heap → List Loc → Prop} (k : Ends tb e below s Q' C S U) (hq : ∀ v h L, Q' v h L → Q v h L) : Ends tb e below s Q C S U := by
  obtain ⟨s₂, o, h1, h2, h3, v, L, h4, h5, h6⟩ := k
  exact ⟨s₂, o, h1, h2, h3, v, L, h4, hq _ _ _ h5, h6⟩
theorem iload (n : Nat) (X : Stand p l e R s m args below meth c T locs cells slots) (hx : p.tables.exec = Jvm.exec) {k : Nat} {v : Int32} (hd : decode c.code pc = .ok (.iload k, 2)) (hn : pc + 2 = n) (hl : Ls[k]? = some (.val (.int v))) (K : Ends p.tables e below s Q C S (T.setTop (mkF m n Ls (.int v :: st)))) : Ends p.tables e below s Q C S (T.setTop (mkF m pc Ls (st))) := by
  subst hn; exact K.step fun t k => XS.iload (g := mkF m pc Ls (st)) X.here hx rfl hd hl k
theorem iloadN (n : Nat) (X : Stand p l e R s m args below meth c T locs cells slots) (hx : p.tables.exec = Jvm.exec) {k : Fin 4} {v : Int32} (hd : decode c.code pc = .ok (.iload_n k, 1)) (hn : pc + 1 = n) (hl : Ls[k.val]? = some (.val (.int v))) (K : Ends p.tables e below s Q C S (T.setTop (mkF m n Ls (.int v :: st)))) : Ends p.tables e below s Q C S (T.setTop (mkF m pc Ls (st))) := by
  subst hn; exact K.step fun t k => XS.iloadN (g := mkF m pc Ls (st)) X.here hx rfl hd hl k
theorem lload (n : Nat) (X : Stand p l e R s m args below meth c T locs cells slots) (hx : p.tables.exec = Jvm.exec) {k : Nat} {v : Int64} (hd : decode c.code pc = .ok (.lload k, 2)) (hn : pc + 2 = n) (hl : Ls[k]? = some (.val (.long v))) (K : Ends p.tables e below s Q C S (T.setTop (mkF m n Ls (.long v :: st)))) : Ends p.tables e below s Q C S (T.setTop (mkF m pc Ls (st))) := by
  subst hn; exact K.step fun t k => XS.lload (g := mkF m pc Ls (st)) X.here hx rfl hd hl k
theorem lloadN (n : Nat) (X : Stand p l e R s m args below meth c T locs cells slots) (hx : p.tables.exec = Jvm.exec) {k : Fin 4} {v : Int64} (hd : decode c.code pc = .ok (.lload_n k, 1)) (hn : pc + 1 = n) (hl : Ls[k.val]? = some (.val (.long v))) (K : Ends p.tables e below s Q C S (T.setTop (mkF m n Ls (.long v :: st)))) : Ends p.tables e below s Q C S (T.setTop (mkF m pc Ls (st))) := by
  subst hn; exact K.step fun t k => XS.lloadN (g := mkF m pc Ls (st)) X.here hx rfl hd hl k
theorem aload (n : Nat) (X : Stand p l e R s m args below meth c T locs cells slots) (hx : p.tables.exec = Jvm.exec) {k : Nat} {v : Value} (hd : decode c.code pc = .ok (.aload k, 2)) (hn : pc + 2 = n) (hl : Ls[k]? = some (.val v)) (hv : v.isRef = true) (K : Ends p.tables e below s Q C S (T.setTop (mkF m n Ls (v :: st)))) : Ends p.tables e below s Q C S (T.setTop (mkF m pc Ls (st))) := by
  subst hn; exact K.step fun t k => XS.aload (g := mkF m pc Ls (st)) X.here hx rfl hd hl hv k
theorem aloadN (n : Nat) (X : Stand p l e R s m args below meth c T locs cells slots) (hx : p.tables.exec = Jvm.exec) {k : Fin 4} {v : Value} (hd : decode c.code pc = .ok (.aload_n k, 1)) (hn : pc + 1 = n) (hl : Ls[k.val]? = some (.val v)) (hv : v.isRef = true) (K : Ends p.tables e below s Q C S (T.setTop (mkF m n Ls (v :: st)))) : Ends p.tables e below s Q C S (T.setTop (mkF m pc Ls (st))) := by
  subst hn; exact K.step fun t k => XS.aloadN (g := mkF m pc Ls (st)) X.here hx rfl hd hl hv k
theorem iconst (n : Nat) (X : Stand p l e R s m args below meth c T locs cells slots) (hx : p.tables.exec = Jvm.exec) {i : Int} (v : Int32) (hd : decode c.code pc = .ok (.iconst i, 1)) (hn : pc + 1 = n) (hv : Int32.ofInt i = v) (K : Ends p.tables e below s Q C S (T.setTop (mkF m n Ls (.int v :: st)))) : Ends p.tables e below s Q C S (T.setTop (mkF m pc Ls (st))) := by
  subst hn; exact K.step fun t k => XS.iconst (g := mkF m pc Ls (st)) X.here hx rfl hd (hv ▸ k)
theorem bipush (n : Nat) (X : Stand p l e R s m args below meth c T locs cells slots) (hx : p.tables.exec = Jvm.exec) {i : Int} (v : Int32) (hd : decode c.code pc = .ok (.bipush i, 2)) (hn : pc + 2 = n) (hv : (Int8.ofInt i).toInt32 = v) (K : Ends p.tables e below s Q C S (T.setTop (mkF m n Ls (.int v :: st)))) : Ends p.tables e below s Q C S (T.setTop (mkF m pc Ls (st))) := by
  subst hn; exact K.step fun t k => XS.bipush (g := mkF m pc Ls (st)) X.here hx rfl hd (hv ▸ k)
theorem sipush (n : Nat) (X : Stand p l e R s m args below meth c T locs cells slots) (hx : p.tables.exec = Jvm.exec) {i : Int} (v : Int32) (hd : decode c.code pc = .ok (.sipush i, 3)) (hn : pc + 3 = n) (hv : (Int16.ofInt i).toInt32 = v) (K : Ends p.tables e below s Q C S (T.setTop (mkF m n Ls (.int v :: st)))) : Ends p.tables e below s Q C S (T.setTop (mkF m pc Ls (st))) := by
  subst hn; exact K.step fun t k => XS.sipush (g := mkF m pc Ls (st)) X.here hx rfl hd (hv ▸ k)
theorem lconst (n : Nat) (X : Stand p l e R s m args below meth c T locs cells slots) (hx : p.tables.exec = Jvm.exec) {i : Fin 2} (v : Int64) (hd : decode c.code pc = .ok (.lconst i, 1)) (hn : pc + 1 = n) (hv : Int64.ofNat i = v) (K : Ends p.tables e below s Q C S (T.setTop (mkF m n Ls (.long v :: st)))) : Ends p.tables e below s Q C S (T.setTop (mkF m pc Ls (st))) := by
  subst hn; exact K.step fun t k => XS.lconst (g := mkF m pc Ls (st)) X.here hx rfl hd (hv ▸ k)
theorem aconstNull (n : Nat) (X : Stand p l e R s m args below meth c T locs cells slots) (hx : p.tables.exec = Jvm.exec)  (hd : decode c.code pc = .ok (.aconst_null, 1)) (hn : pc + 1 = n)  (K : Ends p.tables e below s Q C S (T.setTop (mkF m n Ls (.null :: st)))) : Ends p.tables e below s Q C S (T.setTop (mkF m pc Ls (st))) := by
  subst hn; exact K.step fun t k => XS.aconstNull (g := mkF m pc Ls (st)) X.here hx rfl hd k
theorem iadd (n : Nat) (X : Stand p l e R s m args below meth c T locs cells slots) (hx : p.tables.exec = Jvm.exec) {x y r : Int32} {rest : List Value} (hd : decode c.code pc = .ok (.iadd, 1)) (hn : pc + 1 = n) (hr : x + y = r) (K : Ends p.tables e below s Q C S (T.setTop (mkF m n Ls (.int r :: rest)))) : Ends p.tables e below s Q C S (T.setTop (mkF m pc Ls (.int y :: .int x :: rest))) := by
  subst hn; exact K.step fun t k => XS.iadd (g := mkF m pc Ls (.int y :: .int x :: rest)) X.here hx rfl hd rfl (hr ▸ k)
theorem isub (n : Nat) (X : Stand p l e R s m args below meth c T locs cells slots) (hx : p.tables.exec = Jvm.exec) {x y r : Int32} {rest : List Value} (hd : decode c.code pc = .ok (.isub, 1)) (hn : pc + 1 = n) (hr : x - y = r) (K : Ends p.tables e below s Q C S (T.setTop (mkF m n Ls (.int r :: rest)))) : Ends p.tables e below s Q C S (T.setTop (mkF m pc Ls (.int y :: .int x :: rest))) := by
  subst hn; exact K.step fun t k => XS.isub (g := mkF m pc Ls (.int y :: .int x :: rest)) X.here hx rfl hd rfl (hr ▸ k)
theorem iand (n : Nat) (X : Stand p l e R s m args below meth c T locs cells slots) (hx : p.tables.exec = Jvm.exec) {x y r : Int32} {rest : List Value} (hd : decode c.code pc = .ok (.iand, 1)) (hn : pc + 1 = n) (hr : x &&& y = r) (K : Ends p.tables e below s Q C S (T.setTop (mkF m n Ls (.int r :: rest)))) : Ends p.tables e below s Q C S (T.setTop (mkF m pc Ls (.int y :: .int x :: rest))) := by
  subst hn; exact K.step fun t k => XS.iand (g := mkF m pc Ls (.int y :: .int x :: rest)) X.here hx rfl hd rfl (hr ▸ k)
theorem imul (n : Nat) (X : Stand p l e R s m args below meth c T locs cells slots) (hx : p.tables.exec = Jvm.exec) {x y r : Int32} {rest : List Value} (hd : decode c.code pc = .ok (.imul, 1)) (hn : pc + 1 = n) (hr : x * y = r) (K : Ends p.tables e below s Q C S (T.setTop (mkF m n Ls (.int r :: rest)))) : Ends p.tables e below s Q C S (T.setTop (mkF m pc Ls (.int y :: .int x :: rest))) := by
  subst hn; exact K.step fun t k => XS.imul (g := mkF m pc Ls (.int y :: .int x :: rest)) X.here hx rfl hd rfl (hr ▸ k)
theorem ior (n : Nat) (X : Stand p l e R s m args below meth c T locs cells slots) (hx : p.tables.exec = Jvm.exec) {x y r : Int32} {rest : List Value} (hd : decode c.code pc = .ok (.ior, 1)) (hn : pc + 1 = n) (hr : x ||| y = r) (K : Ends p.tables e below s Q C S (T.setTop (mkF m n Ls (.int r :: rest)))) : Ends p.tables e below s Q C S (T.setTop (mkF m pc Ls (.int y :: .int x :: rest))) := by
  subst hn; exact K.step fun t k => XS.ior (g := mkF m pc Ls (.int y :: .int x :: rest)) X.here hx rfl hd rfl (hr ▸ k)
theorem ixor (n : Nat) (X : Stand p l e R s m args below meth c T locs cells slots) (hx : p.tables.exec = Jvm.exec) {x y r : Int32} {rest : List Value} (hd : decode c.code pc = .ok (.ixor, 1)) (hn : pc + 1 = n) (hr : x ^^^ y = r) (K : Ends p.tables e below s Q C S (T.setTop (mkF m n Ls (.int r :: rest)))) : Ends p.tables e below s Q C S (T.setTop (mkF m pc Ls (.int y :: .int x :: rest))) := by
  subst hn; exact K.step fun t k => XS.ixor (g := mkF m pc Ls (.int y :: .int x :: rest)) X.here hx rfl hd rfl (hr ▸ k)
theorem ishl (n : Nat) (X : Stand p l e R s m args below meth c T locs cells slots) (hx : p.tables.exec = Jvm.exec) {x y r : Int32} {rest : List Value} (hd : decode c.code pc = .ok (.ishl, 1)) (hn : pc + 1 = n) (hr : x <<< (y &&& 31) = r) (K : Ends p.tables e below s Q C S (T.setTop (mkF m n Ls (.int r :: rest)))) : Ends p.tables e below s Q C S (T.setTop (mkF m pc Ls (.int y :: .int x :: rest))) := by
  subst hn; exact K.step fun t k => XS.ishl (g := mkF m pc Ls (.int y :: .int x :: rest)) X.here hx rfl hd rfl (hr ▸ k)
theorem ishr (n : Nat) (X : Stand p l e R s m args below meth c T locs cells slots) (hx : p.tables.exec = Jvm.exec) {x y r : Int32} {rest : List Value} (hd : decode c.code pc = .ok (.ishr, 1)) (hn : pc + 1 = n) (hr : x >>> (y &&& 31) = r) (K : Ends p.tables e below s Q C S (T.setTop (mkF m n Ls (.int r :: rest)))) : Ends p.tables e below s Q C S (T.setTop (mkF m pc Ls (.int y :: .int x :: rest))) := by
  subst hn; exact K.step fun t k => XS.ishr (g := mkF m pc Ls (.int y :: .int x :: rest)) X.here hx rfl hd rfl (hr ▸ k)
theorem iushr (n : Nat) (X : Stand p l e R s m args below meth c T locs cells slots) (hx : p.tables.exec = Jvm.exec) {x y r : Int32} {rest : List Value} (hd : decode c.code pc = .ok (.iushr, 1)) (hn : pc + 1 = n) (hr : (x.toUInt32 >>> (y &&& 31).toUInt32).toInt32 = r) (K : Ends p.tables e below s Q C S (T.setTop (mkF m n Ls (.int r :: rest)))) : Ends p.tables e below s Q C S (T.setTop (mkF m pc Ls (.int y :: .int x :: rest))) := by
  subst hn; exact K.step fun t k => XS.iushr (g := mkF m pc Ls (.int y :: .int x :: rest)) X.here hx rfl hd rfl (hr ▸ k)
theorem ladd (n : Nat) (X : Stand p l e R s m args below meth c T locs cells slots) (hx : p.tables.exec = Jvm.exec) {x y r : Int64} {rest : List Value} (hd : decode c.code pc = .ok (.ladd, 1)) (hn : pc + 1 = n) (hr : x + y = r) (K : Ends p.tables e below s Q C S (T.setTop (mkF m n Ls (.long r :: rest)))) : Ends p.tables e below s Q C S (T.setTop (mkF m pc Ls (.long y :: .long x :: rest))) := by
  subst hn; exact K.step fun t k => XS.ladd (g := mkF m pc Ls (.long y :: .long x :: rest)) X.here hx rfl hd rfl (hr ▸ k)
theorem lsub (n : Nat) (X : Stand p l e R s m args below meth c T locs cells slots) (hx : p.tables.exec = Jvm.exec) {x y r : Int64} {rest : List Value} (hd : decode c.code pc = .ok (.lsub, 1)) (hn : pc + 1 = n) (hr : x - y = r) (K : Ends p.tables e below s Q C S (T.setTop (mkF m n Ls (.long r :: rest)))) : Ends p.tables e below s Q C S (T.setTop (mkF m pc Ls (.long y :: .long x :: rest))) := by
  subst hn; exact K.step fun t k => XS.lsub (g := mkF m pc Ls (.long y :: .long x :: rest)) X.here hx rfl hd rfl (hr ▸ k)
theorem land (n : Nat) (X : Stand p l e R s m args below meth c T locs cells slots) (hx : p.tables.exec = Jvm.exec) {x y r : Int64} {rest : List Value} (hd : decode c.code pc = .ok (.land, 1)) (hn : pc + 1 = n) (hr : x &&& y = r) (K : Ends p.tables e below s Q C S (T.setTop (mkF m n Ls (.long r :: rest)))) : Ends p.tables e below s Q C S (T.setTop (mkF m pc Ls (.long y :: .long x :: rest))) := by
  subst hn; exact K.step fun t k => XS.land (g := mkF m pc Ls (.long y :: .long x :: rest)) X.here hx rfl hd rfl (hr ▸ k)
theorem lmul (n : Nat) (X : Stand p l e R s m args below meth c T locs cells slots) (hx : p.tables.exec = Jvm.exec) {x y r : Int64} {rest : List Value} (hd : decode c.code pc = .ok (.lmul, 1)) (hn : pc + 1 = n) (hr : x * y = r) (K : Ends p.tables e below s Q C S (T.setTop (mkF m n Ls (.long r :: rest)))) : Ends p.tables e below s Q C S (T.setTop (mkF m pc Ls (.long y :: .long x :: rest))) := by
  subst hn; exact K.step fun t k => XS.lmul (g := mkF m pc Ls (.long y :: .long x :: rest)) X.here hx rfl hd rfl (hr ▸ k)
theorem lor (n : Nat) (X : Stand p l e R s m args below meth c T locs cells slots) (hx : p.tables.exec = Jvm.exec) {x y r : Int64} {rest : List Value} (hd : decode c.code pc = .ok (.lor, 1)) (hn : pc + 1 = n) (hr : x ||| y = r) (K : Ends p.tables e below s Q C S (T.setTop (mkF m n Ls (.long r :: rest)))) : Ends p.tables e below s Q C S (T.setTop (mkF m pc Ls (.long y :: .long x :: rest))) := by
  subst hn; exact K.step fun t k => XS.lor (g := mkF m pc Ls (.long y :: .long x :: rest)) X.here hx rfl hd rfl (hr ▸ k)
theorem lxor (n : Nat) (X : Stand p l e R s m args below meth c T locs cells slots) (hx : p.tables.exec = Jvm.exec) {x y r : Int64} {rest : List Value} (hd : decode c.code pc = .ok (.lxor, 1)) (hn : pc + 1 = n) (hr : x ^^^ y = r) (K : Ends p.tables e below s Q C S (T.setTop (mkF m n Ls (.long r :: rest)))) : Ends p.tables e below s Q C S (T.setTop (mkF m pc Ls (.long y :: .long x :: rest))) := by
  subst hn; exact K.step fun t k => XS.lxor (g := mkF m pc Ls (.long y :: .long x :: rest)) X.here hx rfl hd rfl (hr ▸ k)
theorem lshl (n : Nat) (X : Stand p l e R s m args below meth c T locs cells slots) (hx : p.tables.exec = Jvm.exec) {x r : Int64} {y : Int32} {rest : List Value} (hd : decode c.code pc = .ok (.lshl, 1)) (hn : pc + 1 = n) (hr : x <<< (y &&& 0x3f).toInt64 = r) (K : Ends p.tables e below s Q C S (T.setTop (mkF m n Ls (.long r :: rest)))) : Ends p.tables e below s Q C S (T.setTop (mkF m pc Ls (.int y :: .long x :: rest))) := by
  subst hn; exact K.step fun t k => XS.lshl (g := mkF m pc Ls (.int y :: .long x :: rest)) X.here hx rfl hd rfl (hr ▸ k)
theorem lshr (n : Nat) (X : Stand p l e R s m args below meth c T locs cells slots) (hx : p.tables.exec = Jvm.exec) {x r : Int64} {y : Int32} {rest : List Value} (hd : decode c.code pc = .ok (.lshr, 1)) (hn : pc + 1 = n) (hr : x >>> (y &&& 0x3f).toInt64 = r) (K : Ends p.tables e below s Q C S (T.setTop (mkF m n Ls (.long r :: rest)))) : Ends p.tables e below s Q C S (T.setTop (mkF m pc Ls (.int y :: .long x :: rest))) := by
  subst hn; exact K.step fun t k => XS.lshr (g := mkF m pc Ls (.int y :: .long x :: rest)) X.here hx rfl hd rfl (hr ▸ k)
theorem lushr (n : Nat) (X : Stand p l e R s m args below meth c T locs cells slots) (hx : p.tables.exec = Jvm.exec) {x r : Int64} {y : Int32} {rest : List Value} (hd : decode c.code pc = .ok (.lushr, 1)) (hn : pc + 1 = n) (hr : (x.toUInt64 >>> (y &&& 0x3f).toInt64.toUInt64).toInt64 = r) (K : Ends p.tables e below s Q C S (T.setTop (mkF m n Ls (.long r :: rest)))) : Ends p.tables e below s Q C S (T.setTop (mkF m pc Ls (.int y :: .long x :: rest))) := by
  subst hn; exact K.step fun t k => XS.lushr (g := mkF m pc Ls (.int y :: .long x :: rest)) X.here hx rfl hd rfl (hr ▸ k)
theorem idiv (n : Nat) (X : Stand p l e R s m args below meth c T locs cells slots) (hx : p.tables.exec = Jvm.exec) {x y r : Int32} {rest : List Value} (hd : decode c.code pc = .ok (.idiv, 1)) (hn : pc + 1 = n) (hy : y ≠ 0) (hr : x / y = r) (K : Ends p.tables e below s Q C S (T.setTop (mkF m n Ls (.int r :: rest)))) : Ends p.tables e below s Q C S (T.setTop (mkF m pc Ls (.int y :: .int x :: rest))) := by
  subst hn; exact K.step fun t k => XS.idiv (g := mkF m pc Ls (.int y :: .int x :: rest)) X.here hx rfl hd rfl hy (hr ▸ k)
theorem irem (n : Nat) (X : Stand p l e R s m args below meth c T locs cells slots) (hx : p.tables.exec = Jvm.exec) {x y r : Int32} {rest : List Value} (hd : decode c.code pc = .ok (.irem, 1)) (hn : pc + 1 = n) (hy : y ≠ 0) (hr : x % y = r) (K : Ends p.tables e below s Q C S (T.setTop (mkF m n Ls (.int r :: rest)))) : Ends p.tables e below s Q C S (T.setTop (mkF m pc Ls (.int y :: .int x :: rest))) := by
  subst hn; exact K.step fun t k => iremM (g := mkF m pc Ls (.int y :: .int x :: rest)) X hx rfl hd rfl hy (hr ▸ k)
theorem ldiv (n : Nat) (X : Stand p l e R s m args below meth c T locs cells slots) (hx : p.tables.exec = Jvm.exec) {x y r : Int64} {rest : List Value} (hd : decode c.code pc = .ok (.ldiv, 1)) (hn : pc + 1 = n) (hy : y ≠ 0) (hr : x / y = r) (K : Ends p.tables e below s Q C S (T.setTop (mkF m n Ls (.long r :: rest)))) : Ends p.tables e below s Q C S (T.setTop (mkF m pc Ls (.long y :: .long x :: rest))) := by
  subst hn; exact K.step fun t k => XS.ldiv (g := mkF m pc Ls (.long y :: .long x :: rest)) X.here hx rfl hd rfl hy (hr ▸ k)
theorem lrem (n : Nat) (X : Stand p l e R s m args below meth c T locs cells slots) (hx : p.tables.exec = Jvm.exec) {x y r : Int64} {rest : List Value} (hd : decode c.code pc = .ok (.lrem, 1)) (hn : pc + 1 = n) (hy : y ≠ 0) (hr : x % y = r) (K : Ends p.tables e below s Q C S (T.setTop (mkF m n Ls (.long r :: rest)))) : Ends p.tables e below s Q C S (T.setTop (mkF m pc Ls (.long y :: .long x :: rest))) := by
  subst hn; exact K.step fun t k => XS.lrem (g := mkF m pc Ls (.long y :: .long x :: rest)) X.here hx rfl hd rfl hy (by rw [lrem_mod, hr]; exact k)
theorem ineg (n : Nat) (X : Stand p l e R s m args below meth c T locs cells slots) (hx : p.tables.exec = Jvm.exec) {x : Int32} {r : Int32} {rest : List Value} (hd : decode c.code pc = .ok (.ineg, 1)) (hn : pc + 1 = n) (hr : -x = r) (K : Ends p.tables e below s Q C S (T.setTop (mkF m n Ls (.int r :: rest)))) : Ends p.tables e below s Q C S (T.setTop (mkF m pc Ls (.int x :: rest))) := by
  subst hn; exact K.step fun t k => XS.ineg (g := mkF m pc Ls (.int x :: rest)) X.here hx rfl hd rfl (hr ▸ k)
theorem lneg (n : Nat) (X : Stand p l e R s m args below meth c T locs cells slots) (hx : p.tables.exec = Jvm.exec) {x : Int64} {r : Int64} {rest : List Value} (hd : decode c.code pc = .ok (.lneg, 1)) (hn : pc + 1 = n) (hr : -x = r) (K : Ends p.tables e below s Q C S (T.setTop (mkF m n Ls (.long r :: rest)))) : Ends p.tables e below s Q C S (T.setTop (mkF m pc Ls (.long x :: rest))) := by
  subst hn; exact K.step fun t k => XS.lneg (g := mkF m pc Ls (.long x :: rest)) X.here hx rfl hd rfl (hr ▸ k)
theorem i2l (n : Nat) (X : Stand p l e R s m args below meth c T locs cells slots) (hx : p.tables.exec = Jvm.exec) {x : Int32} {r : Int64} {rest : List Value} (hd : decode c.code pc = .ok (.i2l, 1)) (hn : pc + 1 = n) (hr : x.toInt64 = r) (K : Ends p.tables e below s Q C S (T.setTop (mkF m n Ls (.long r :: rest)))) : Ends p.tables e below s Q C S (T.setTop (mkF m pc Ls (.int x :: rest))) := by
  subst hn; exact K.step fun t k => XS.i2l (g := mkF m pc Ls (.int x :: rest)) X.here hx rfl hd rfl (hr ▸ k)
theorem l2i (n : Nat) (X : Stand p l e R s m args below meth c T locs cells slots) (hx : p.tables.exec = Jvm.exec) {x : Int64} {r : Int32} {rest : List Value} (hd : decode c.code pc = .ok (.l2i, 1)) (hn : pc + 1 = n) (hr : x.toInt32 = r) (K : Ends p.tables e below s Q C S (T.setTop (mkF m n Ls (.int r :: rest)))) : Ends p.tables e below s Q C S (T.setTop (mkF m pc Ls (.long x :: rest))) := by
  subst hn; exact K.step fun t k => XS.l2i (g := mkF m pc Ls (.long x :: rest)) X.here hx rfl hd rfl (hr ▸ k)
theorem i2b (n : Nat) (X : Stand p l e R s m args below meth c T locs cells slots) (hx : p.tables.exec = Jvm.exec) {x : Int32} {r : Int32} {rest : List Value} (hd : decode c.code pc = .ok (.i2b, 1)) (hn : pc + 1 = n) (hr : x.toInt8.toInt32 = r) (K : Ends p.tables e below s Q C S (T.setTop (mkF m n Ls (.int r :: rest)))) : Ends p.tables e below s Q C S (T.setTop (mkF m pc Ls (.int x :: rest))) := by
  subst hn; exact K.step fun t k => XS.i2b (g := mkF m pc Ls (.int x :: rest)) X.here hx rfl hd rfl (hr ▸ k)
theorem i2c (n : Nat) (X : Stand p l e R s m args below meth c T locs cells slots) (hx : p.tables.exec = Jvm.exec) {x : Int32} {r : Int32} {rest : List Value} (hd : decode c.code pc = .ok (.i2c, 1)) (hn : pc + 1 = n) (hr : x.toUInt32.toUInt16.toUInt32.toInt32 = r) (K : Ends p.tables e below s Q C S (T.setTop (mkF m n Ls (.int r :: rest)))) : Ends p.tables e below s Q C S (T.setTop (mkF m pc Ls (.int x :: rest))) := by
  subst hn; exact K.step fun t k => XS.i2c (g := mkF m pc Ls (.int x :: rest)) X.here hx rfl hd rfl (hr ▸ k)
theorem i2s (n : Nat) (X : Stand p l e R s m args below meth c T locs cells slots) (hx : p.tables.exec = Jvm.exec) {x : Int32} {r : Int32} {rest : List Value} (hd : decode c.code pc = .ok (.i2s, 1)) (hn : pc + 1 = n) (hr : x.toInt16.toInt32 = r) (K : Ends p.tables e below s Q C S (T.setTop (mkF m n Ls (.int r :: rest)))) : Ends p.tables e below s Q C S (T.setTop (mkF m pc Ls (.int x :: rest))) := by
  subst hn; exact K.step fun t k => XS.i2s (g := mkF m pc Ls (.int x :: rest)) X.here hx rfl hd rfl (hr ▸ k)
theorem dup (n : Nat) (X : Stand p l e R s m args below meth c T locs cells slots) (hx : p.tables.exec = Jvm.exec) {x : Value} {rest : List Value} (hd : decode c.code pc = .ok (.dup, 1)) (hn : pc + 1 = n) (hc : x.category = 1) (K : Ends p.tables e below s Q C S (T.setTop (mkF m n Ls (x :: x :: rest)))) : Ends p.tables e below s Q C S (T.setTop (mkF m pc Ls (x :: rest))) := by
  subst hn; exact K.step fun t k => XS.dup (g := mkF m pc Ls (x :: rest)) X.here hx rfl hd rfl hc k
theorem pop (n : Nat) (X : Stand p l e R s m args below meth c T locs cells slots) (hx : p.tables.exec = Jvm.exec) {x : Value} {rest : List Value} (hd : decode c.code pc = .ok (.pop, 1)) (hn : pc + 1 = n) (hc : x.category = 1) (K : Ends p.tables e below s Q C S (T.setTop (mkF m n Ls (rest)))) : Ends p.tables e below s Q C S (T.setTop (mkF m pc Ls (x :: rest))) := by
  subst hn; exact K.step fun t k => XS.pop (g := mkF m pc Ls (x :: rest)) X.here hx rfl hd rfl hc k
theorem dupX1 (n : Nat) (X : Stand p l e R s m args below meth c T locs cells slots) (hx : p.tables.exec = Jvm.exec) {x y : Value} {rest : List Value} (hd : decode c.code pc = .ok (.dup_x1, 1)) (hn : pc + 1 = n) (hc : x.category = 1) (hc2 : y.category = 1) (K : Ends p.tables e below s Q C S (T.setTop (mkF m n Ls (x :: y :: x :: rest)))) : Ends p.tables e below s Q C S (T.setTop (mkF m pc Ls (x :: y :: rest))) := by
  subst hn; exact K.step fun t k => XS.dupX1 (g := mkF m pc Ls (x :: y :: rest)) X.here hx rfl hd rfl hc hc2 k
theorem istore (n : Nat) (F : Int32 → Array Slot) (X : Stand p l e R s m args below meth c T locs cells slots) (hx : p.tables.exec = Jvm.exec) {k : Nat} {x : Int32} {rest : List Value} (hd : decode c.code pc = .ok (.istore k, 2)) (hn : pc + 2 = n) (hl : ∀ z, storeLocals Ls k (.int z) = some (F z)) (K : ∀ z, z = x → Ends p.tables e below s Q C S (T.setTop (mkF m n (F z) (rest)))) : Ends p.tables e below s Q C S (T.setTop (mkF m pc Ls (.int x :: rest))) := by
  subst hn; exact (K x rfl).step fun t k => XS.istore (g := mkF m pc Ls (.int x :: rest)) X.here hx rfl hd rfl (hl x) k
theorem istoreV (n : Nat) (L1 : Array Slot) (X : Stand p l e R s m args below meth c T locs cells slots) (hx : p.tables.exec = Jvm.exec) {k : Nat} {x : Int32} {rest : List Value} (hd : decode c.code pc = .ok (.istore k, 2)) (hn : pc + 2 = n) (hl : storeLocals Ls k (.int x) = some L1) (K : Ends p.tables e below s Q C S (T.setTop (mkF m n L1 (rest)))) : Ends p.tables e below s Q C S (T.setTop (mkF m pc Ls (.int x :: rest))) := by
  subst hn; exact K.step fun t k => XS.istore (g := mkF m pc Ls (.int x :: rest)) X.here hx rfl hd rfl hl k
theorem istoreN (n : Nat) (F : Int32 → Array Slot) (X : Stand p l e R s m args below meth c T locs cells slots) (hx : p.tables.exec = Jvm.exec) {k : Fin 4} {x : Int32} {rest : List Value} (hd : decode c.code pc = .ok (.istore_n k, 1)) (hn : pc + 1 = n) (hl : ∀ z, storeLocals Ls k.val (.int z) = some (F z)) (K : ∀ z, z = x → Ends p.tables e below s Q C S (T.setTop (mkF m n (F z) (rest)))) : Ends p.tables e below s Q C S (T.setTop (mkF m pc Ls (.int x :: rest))) := by
  subst hn; exact (K x rfl).step fun t k => XS.istoreN (g := mkF m pc Ls (.int x :: rest)) X.here hx rfl hd rfl (hl x) k
theorem istoreNV (n : Nat) (L1 : Array Slot) (X : Stand p l e R s m args below meth c T locs cells slots) (hx : p.tables.exec = Jvm.exec) {k : Fin 4} {x : Int32} {rest : List Value} (hd : decode c.code pc = .ok (.istore_n k, 1)) (hn : pc + 1 = n) (hl : storeLocals Ls k.val (.int x) = some L1) (K : Ends p.tables e below s Q C S (T.setTop (mkF m n L1 (rest)))) : Ends p.tables e below s Q C S (T.setTop (mkF m pc Ls (.int x :: rest))) := by
  subst hn; exact K.step fun t k => XS.istoreN (g := mkF m pc Ls (.int x :: rest)) X.here hx rfl hd rfl hl k
theorem lstore (n : Nat) (F : Int64 → Array Slot) (X : Stand p l e R s m args below meth c T locs cells slots) (hx : p.tables.exec = Jvm.exec) {k : Nat} {x : Int64} {rest : List Value} (hd : decode c.code pc = .ok (.lstore k, 2)) (hn : pc + 2 = n) (hl : ∀ z, storeLocals Ls k (.long z) = some (F z)) (K : ∀ z, z = x → Ends p.tables e below s Q C S (T.setTop (mkF m n (F z) (rest)))) : Ends p.tables e below s Q C S (T.setTop (mkF m pc Ls (.long x :: rest))) := by
  subst hn; exact (K x rfl).step fun t k => XS.lstore (g := mkF m pc Ls (.long x :: rest)) X.here hx rfl hd rfl (hl x) k
theorem lstoreV (n : Nat) (L1 : Array Slot) (X : Stand p l e R s m args below meth c T locs cells slots) (hx : p.tables.exec = Jvm.exec) {k : Nat} {x : Int64} {rest : List Value} (hd : decode c.code pc = .ok (.lstore k, 2)) (hn : pc + 2 = n) (hl : storeLocals Ls k (.long x) = some L1) (K : Ends p.tables e below s Q C S (T.setTop (mkF m n L1 (rest)))) : Ends p.tables e below s Q C S (T.setTop (mkF m pc Ls (.long x :: rest))) := by
  subst hn; exact K.step fun t k => XS.lstore (g := mkF m pc Ls (.long x :: rest)) X.here hx rfl hd rfl hl k
theorem lstoreN (n : Nat) (F : Int64 → Array Slot) (X : Stand p l e R s m args below meth c T locs cells slots) (hx : p.tables.exec = Jvm.exec) {k : Fin 4} {x : Int64} {rest : List Value} (hd : decode c.code pc = .ok (.lstore_n k, 1)) (hn : pc + 1 = n) (hl : ∀ z, storeLocals Ls k.val (.long z) = some (F z)) (K : ∀ z, z = x → Ends p.tables e below s Q C S (T.setTop (mkF m n (F z) (rest)))) : Ends p.tables e below s Q C S (T.setTop (mkF m pc Ls (.long x :: rest))) := by
  subst hn; exact (K x rfl).step fun t k => XS.lstoreN (g := mkF m pc Ls (.long x :: rest)) X.here hx rfl hd rfl (hl x) k
theorem lstoreNV (n : Nat) (L1 : Array Slot) (X : Stand p l e R s m args below meth c T locs cells slots) (hx : p.tables.exec = Jvm.exec) {k : Fin 4} {x : Int64} {rest : List Value} (hd : decode c.code pc = .ok (.lstore_n k, 1)) (hn : pc + 1 = n) (hl : storeLocals Ls k.val (.long x) = some L1) (K : Ends p.tables e below s Q C S (T.setTop (mkF m n L1 (rest)))) : Ends p.tables e below s Q C S (T.setTop (mkF m pc Ls (.long x :: rest))) := by
  subst hn; exact K.step fun t k => XS.lstoreN (g := mkF m pc Ls (.long x :: rest)) X.here hx rfl hd rfl hl k
theorem astore (n : Nat) (L1 : Array Slot) (X : Stand p l e R s m args below meth c T locs cells slots) (hx : p.tables.exec = Jvm.exec) {k : Nat} {x : Value} {rest : List Value} (hd : decode c.code pc = .ok (.astore k, 2)) (hn : pc + 2 = n) (hv : x.isRef = true) (hl : storeLocals Ls k x = some L1) (K : Ends p.tables e below s Q C S (T.setTop (mkF m n L1 (rest)))) : Ends p.tables e below s Q C S (T.setTop (mkF m pc Ls (x :: rest))) := by
  subst hn; exact K.step fun t k => XS.astore (g := mkF m pc Ls (x :: rest)) X.here hx rfl hd rfl hv hl k
theorem astoreN (n : Nat) (L1 : Array Slot) (X : Stand p l e R s m args below meth c T locs cells slots) (hx : p.tables.exec = Jvm.exec) {k : Fin 4} {x : Value} {rest : List Value} (hd : decode c.code pc = .ok (.astore_n k, 1)) (hn : pc + 1 = n) (hv : x.isRef = true) (hl : storeLocals Ls k.val x = some L1) (K : Ends p.tables e below s Q C S (T.setTop (mkF m n L1 (rest)))) : Ends p.tables e below s Q C S (T.setTop (mkF m pc Ls (x :: rest))) := by
  subst hn; exact K.step fun t k => XS.astoreN (g := mkF m pc Ls (x :: rest)) X.here hx rfl hd rfl hv hl k
theorem iinc (n : Nat) (F : Int32 → Array Slot) (X : Stand p l e R s m args below meth c T locs cells slots) (hx : p.tables.exec = Jvm.exec) {k : Nat} {cst : Int} {x : Int32} (d : Int32) (hd : decode c.code pc = .ok (.iinc k cst, 3)) (hn : pc + 3 = n) (hc : Int32.ofInt cst = d) (hl : Ls[k]? = some (.val (.int x))) (hl2 : ∀ z, storeLocals Ls k (.int z) = some (F z)) (K : ∀ z, z = x + d → Ends p.tables e below s Q C S (T.setTop (mkF m n (F z) (st)))) : Ends p.tables e below s Q C S (T.setTop (mkF m pc Ls (st))) := by
  subst hn hc; exact (K _ rfl).step fun t k => XS.iinc (g := mkF m pc Ls st) X.here hx rfl hd hl (hl2 _) k
theorem goto (n : Nat) (X : Stand p l e R s m args below meth c T locs cells slots) (hx : p.tables.exec = Jvm.exec) {o : Int} (hd : decode c.code pc = .ok (.goto o, 3)) (hn : 0 ≤ (pc : Int) + o ∧ ((pc : Int) + o).toNat = n) (K : Ends p.tables e below s Q C S (T.setTop (mkF m n Ls (st)))) : Ends p.tables e below s Q C S (T.setTop (mkF m pc Ls (st))) :=
  K.step fun t k => XS.goto (g := mkF m pc Ls st) X.here hx rfl (pc0 := pc) (pc' := n) rfl hd hn.1 hn.2 k
theorem icmpB (nY nN : Nat) (X : Stand p l e R s m args below meth c T locs cells slots) (hx : p.tables.exec = Jvm.exec) {cd : ClassFile.Cond} {o : Int} {x y : Int32} {rest : List Value} (hd : decode c.code pc = .ok (.if_icmp cd o, 3)) (hY : 0 ≤ (pc : Int) + o ∧ ((pc : Int) + o).toNat = nY) (hN : pc + 3 = nN) (KY : if_icmp.holds cd x y = true → Ends p.tables e below s Q C S (T.setTop (mkF m nY Ls (rest)))) (KN : if_icmp.holds cd x y = false → Ends p.tables e below s Q C S (T.setTop (mkF m nN Ls (rest)))) : Ends p.tables e below s Q C S (T.setTop (mkF m pc Ls (.int y :: .int x :: rest))) := by
  subst hN
  cases hb : if_icmp.holds cd x y with
  | true => exact (KY hb).step fun t k => XS.icmpYes (g := mkF m pc Ls (.int y :: .int x :: rest)) X.here hx rfl (pc0 := pc) (pc' := nY) rfl hd rfl hb hY.1 hY.2 k
  | false => exact (KN hb).step fun t k => XS.icmpNo (g := mkF m pc Ls (.int y :: .int x :: rest)) X.here hx rfl hd rfl hb k
theorem ifB (nY nN : Nat) (X : Stand p l e R s m args below meth c T locs cells slots) (hx : p.tables.exec = Jvm.exec) {cd : ClassFile.Cond} {o : Int} {x : Int32} {rest : List Value} (hd : decode c.code pc = .ok (.ifCond cd o, 3)) (hY : 0 ≤ (pc : Int) + o ∧ ((pc : Int) + o).toNat = nY) (hN : pc + 3 = nN) (KY : if_icmp.holds cd x 0 = true → Ends p.tables e below s Q C S (T.setTop (mkF m nY Ls (rest)))) (KN : if_icmp.holds cd x 0 = false → Ends p.tables e below s Q C S (T.setTop (mkF m nN Ls (rest)))) : Ends p.tables e below s Q C S (T.setTop (mkF m pc Ls (.int x :: rest))) := by
  subst hN
  cases hb : if_icmp.holds cd x 0 with
  | true => exact (KY hb).step fun t k => XS.ifYes (g := mkF m pc Ls (.int x :: rest)) X.here hx rfl (pc0 := pc) (pc' := nY) rfl hd rfl ((if0 _ _).trans hb) hY.1 hY.2 k
  | false => exact (KN hb).step fun t k => XS.ifNo (g := mkF m pc Ls (.int x :: rest)) X.here hx rfl hd rfl ((if0 _ _).trans hb) k
theorem h_lt {x y : Int32} : (if_icmp.holds .lt x y = true → x < y) ∧ (if_icmp.holds .lt x y = false → ¬ x < y) := by simp [if_icmp.holds]
theorem h_ge {x y : Int32} : (if_icmp.holds .ge x y = true → ¬ x < y) ∧ (if_icmp.holds .ge x y = false → x < y) := by simp [if_icmp.holds, Int32.not_lt, Int32.not_le]
theorem h_gt {x y : Int32} : (if_icmp.holds .gt x y = true → y < x) ∧ (if_icmp.holds .gt x y = false → ¬ y < x) := by simp [if_icmp.holds, Int32.not_lt, Int32.not_le]
theorem h_le {x y : Int32} : (if_icmp.holds .le x y = true → ¬ y < x) ∧ (if_icmp.holds .le x y = false → y < x) := by simp [if_icmp.holds, Int32.not_lt, Int32.not_le]
theorem h_eq {x y : Int32} : (if_icmp.holds .eq x y = true → x = y) ∧ (if_icmp.holds .eq x y = false → ¬ x = y) := by simp [if_icmp.holds]
theorem h_ne {x y : Int32} : (if_icmp.holds .ne x y = true → ¬ x = y) ∧ (if_icmp.holds .ne x y = false → x = y) := by simp [if_icmp.holds]
theorem icmp_lt (nY nN : Nat) (X : Stand p l e R s m args below meth c T locs cells slots) (hx : p.tables.exec = Jvm.exec) {o : Int} {x y : Int32} {rest : List Value} (hd : decode c.code pc = .ok (.if_icmp .lt o, 3)) (hY : 0 ≤ (pc : Int) + o ∧ ((pc : Int) + o).toNat = nY) (hN : pc + 3 = nN) (KY : x < y → Ends p.tables e below s Q C S (T.setTop (mkF m nY Ls (rest)))) (KN : ¬ x < y → Ends p.tables e below s Q C S (T.setTop (mkF m nN Ls (rest)))) : Ends p.tables e below s Q C S (T.setTop (mkF m pc Ls (.int y :: .int x :: rest))) :=
  icmpB nY nN X hx hd hY hN (fun hb => KY (h_lt.1 hb)) (fun hb => KN (h_lt.2 hb))
theorem if_lt (nY nN : Nat) (X : Stand p l e R s m args below meth c T locs cells slots) (hx : p.tables.exec = Jvm.exec) {o : Int} {x : Int32} {rest : List Value} (hd : decode c.code pc = .ok (.ifCond .lt o, 3)) (hY : 0 ≤ (pc : Int) + o ∧ ((pc : Int) + o).toNat = nY) (hN : pc + 3 = nN) (KY : x < 0 → Ends p.tables e below s Q C S (T.setTop (mkF m nY Ls (rest)))) (KN : ¬ x < 0 → Ends p.tables e below s Q C S (T.setTop (mkF m nN Ls (rest)))) : Ends p.tables e below s Q C S (T.setTop (mkF m pc Ls (.int x :: rest))) :=
  ifB nY nN X hx hd hY hN (fun hb => KY (h_lt.1 hb)) (fun hb => KN (h_lt.2 hb))
theorem icmp_ge (nY nN : Nat) (X : Stand p l e R s m args below meth c T locs cells slots) (hx : p.tables.exec = Jvm.exec) {o : Int} {x y : Int32} {rest : List Value} (hd : decode c.code pc = .ok (.if_icmp .ge o, 3)) (hY : 0 ≤ (pc : Int) + o ∧ ((pc : Int) + o).toNat = nY) (hN : pc + 3 = nN) (KY : ¬ x < y → Ends p.tables e below s Q C S (T.setTop (mkF m nY Ls (rest)))) (KN : x < y → Ends p.tables e below s Q C S (T.setTop (mkF m nN Ls (rest)))) : Ends p.tables e below s Q C S (T.setTop (mkF m pc Ls (.int y :: .int x :: rest))) :=
  icmpB nY nN X hx hd hY hN (fun hb => KY (h_ge.1 hb)) (fun hb => KN (h_ge.2 hb))
theorem if_ge (nY nN : Nat) (X : Stand p l e R s m args below meth c T locs cells slots) (hx : p.tables.exec = Jvm.exec) {o : Int} {x : Int32} {rest : List Value} (hd : decode c.code pc = .ok (.ifCond .ge o, 3)) (hY : 0 ≤ (pc : Int) + o ∧ ((pc : Int) + o).toNat = nY) (hN : pc + 3 = nN) (KY : ¬ x < 0 → Ends p.tables e below s Q C S (T.setTop (mkF m nY Ls (rest)))) (KN : x < 0 → Ends p.tables e below s Q C S (T.setTop (mkF m nN Ls (rest)))) : Ends p.tables e below s Q C S (T.setTop (mkF m pc Ls (.int x :: rest))) :=
  ifB nY nN X hx hd hY hN (fun hb => KY (h_ge.1 hb)) (fun hb => KN (h_ge.2 hb))
theorem icmp_gt (nY nN : Nat) (X : Stand p l e R s m args below meth c T locs cells slots) (hx : p.tables.exec = Jvm.exec) {o : Int} {x y : Int32} {rest : List Value} (hd : decode c.code pc = .ok (.if_icmp .gt o, 3)) (hY : 0 ≤ (pc : Int) + o ∧ ((pc : Int) + o).toNat = nY) (hN : pc + 3 = nN) (KY : y < x → Ends p.tables e below s Q C S (T.setTop (mkF m nY Ls (rest)))) (KN : ¬ y < x → Ends p.tables e below s Q C S (T.setTop (mkF m nN Ls (rest)))) : Ends p.tables e below s Q C S (T.setTop (mkF m pc Ls (.int y :: .int x :: rest))) :=
  icmpB nY nN X hx hd hY hN (fun hb => KY (h_gt.1 hb)) (fun hb => KN (h_gt.2 hb))
theorem if_gt (nY nN : Nat) (X : Stand p l e R s m args below meth c T locs cells slots) (hx : p.tables.exec = Jvm.exec) {o : Int} {x : Int32} {rest : List Value} (hd : decode c.code pc = .ok (.ifCond .gt o, 3)) (hY : 0 ≤ (pc : Int) + o ∧ ((pc : Int) + o).toNat = nY) (hN : pc + 3 = nN) (KY : 0 < x → Ends p.tables e below s Q C S (T.setTop (mkF m nY Ls (rest)))) (KN : ¬ 0 < x → Ends p.tables e below s Q C S (T.setTop (mkF m nN Ls (rest)))) : Ends p.tables e below s Q C S (T.setTop (mkF m pc Ls (.int x :: rest))) :=
  ifB nY nN X hx hd hY hN (fun hb => KY (h_gt.1 hb)) (fun hb => KN (h_gt.2 hb))
theorem icmp_le (nY nN : Nat) (X : Stand p l e R s m args below meth c T locs cells slots) (hx : p.tables.exec = Jvm.exec) {o : Int} {x y : Int32} {rest : List Value} (hd : decode c.code pc = .ok (.if_icmp .le o, 3)) (hY : 0 ≤ (pc : Int) + o ∧ ((pc : Int) + o).toNat = nY) (hN : pc + 3 = nN) (KY : ¬ y < x → Ends p.tables e below s Q C S (T.setTop (mkF m nY Ls (rest)))) (KN : y < x → Ends p.tables e below s Q C S (T.setTop (mkF m nN Ls (rest)))) : Ends p.tables e below s Q C S (T.setTop (mkF m pc Ls (.int y :: .int x :: rest))) :=
  icmpB nY nN X hx hd hY hN (fun hb => KY (h_le.1 hb)) (fun hb => KN (h_le.2 hb))
theorem if_le (nY nN : Nat) (X : Stand p l e R s m args below meth c T locs cells slots) (hx : p.tables.exec = Jvm.exec) {o : Int} {x : Int32} {rest : List Value} (hd : decode c.code pc = .ok (.ifCond .le o, 3)) (hY : 0 ≤ (pc : Int) + o ∧ ((pc : Int) + o).toNat = nY) (hN : pc + 3 = nN) (KY : ¬ 0 < x → Ends p.tables e below s Q C S (T.setTop (mkF m nY Ls (rest)))) (KN : 0 < x → Ends p.tables e below s Q C S (T.setTop (mkF m nN Ls (rest)))) : Ends p.tables e below s Q C S (T.setTop (mkF m pc Ls (.int x :: rest))) :=
  ifB nY nN X hx hd hY hN (fun hb => KY (h_le.1 hb)) (fun hb => KN (h_le.2 hb))
theorem icmp_eq (nY nN : Nat) (X : Stand p l e R s m args below meth c T locs cells slots) (hx : p.tables.exec = Jvm.exec) {o : Int} {x y : Int32} {rest : List Value} (hd : decode c.code pc = .ok (.if_icmp .eq o, 3)) (hY : 0 ≤ (pc : Int) + o ∧ ((pc : Int) + o).toNat = nY) (hN : pc + 3 = nN) (KY : x = y → Ends p.tables e below s Q C S (T.setTop (mkF m nY Ls (rest)))) (KN : ¬ x = y → Ends p.tables e below s Q C S (T.setTop (mkF m nN Ls (rest)))) : Ends p.tables e below s Q C S (T.setTop (mkF m pc Ls (.int y :: .int x :: rest))) :=
  icmpB nY nN X hx hd hY hN (fun hb => KY (h_eq.1 hb)) (fun hb => KN (h_eq.2 hb))
theorem if_eq (nY nN : Nat) (X : Stand p l e R s m args below meth c T locs cells slots) (hx : p.tables.exec = Jvm.exec) {o : Int} {x : Int32} {rest : List Value} (hd : decode c.code pc = .ok (.ifCond .eq o, 3)) (hY : 0 ≤ (pc : Int) + o ∧ ((pc : Int) + o).toNat = nY) (hN : pc + 3 = nN) (KY : x = 0 → Ends p.tables e below s Q C S (T.setTop (mkF m nY Ls (rest)))) (KN : ¬ x = 0 → Ends p.tables e below s Q C S (T.setTop (mkF m nN Ls (rest)))) : Ends p.tables e below s Q C S (T.setTop (mkF m pc Ls (.int x :: rest))) :=
  ifB nY nN X hx hd hY hN (fun hb => KY (h_eq.1 hb)) (fun hb => KN (h_eq.2 hb))
theorem icmp_ne (nY nN : Nat) (X : Stand p l e R s m args below meth c T locs cells slots) (hx : p.tables.exec = Jvm.exec) {o : Int} {x y : Int32} {rest : List Value} (hd : decode c.code pc = .ok (.if_icmp .ne o, 3)) (hY : 0 ≤ (pc : Int) + o ∧ ((pc : Int) + o).toNat = nY) (hN : pc + 3 = nN) (KY : ¬ x = y → Ends p.tables e below s Q C S (T.setTop (mkF m nY Ls (rest)))) (KN : x = y → Ends p.tables e below s Q C S (T.setTop (mkF m nN Ls (rest)))) : Ends p.tables e below s Q C S (T.setTop (mkF m pc Ls (.int y :: .int x :: rest))) :=
  icmpB nY nN X hx hd hY hN (fun hb => KY (h_ne.1 hb)) (fun hb => KN (h_ne.2 hb))
theorem if_ne (nY nN : Nat) (X : Stand p l e R s m args below meth c T locs cells slots) (hx : p.tables.exec = Jvm.exec) {o : Int} {x : Int32} {rest : List Value} (hd : decode c.code pc = .ok (.ifCond .ne o, 3)) (hY : 0 ≤ (pc : Int) + o ∧ ((pc : Int) + o).toNat = nY) (hN : pc + 3 = nN) (KY : ¬ x = 0 → Ends p.tables e below s Q C S (T.setTop (mkF m nY Ls (rest)))) (KN : x = 0 → Ends p.tables e below s Q C S (T.setTop (mkF m nN Ls (rest)))) : Ends p.tables e below s Q C S (T.setTop (mkF m pc Ls (.int x :: rest))) :=
  ifB nY nN X hx hd hY hN (fun hb => KY (h_ne.1 hb)) (fun hb => KN (h_ne.2 hb))
theorem w_lt {x y : Int64} : lcmpW x y < 0 → x < y := (lw_lt x y).mp
theorem w_nlt {x y : Int64} : ¬ lcmpW x y < 0 → ¬ x < y := fun q r => q ((lw_lt x y).mpr r)
theorem w_gt {x y : Int64} : 0 < lcmpW x y → y < x := (lw_gt x y).mp
theorem w_ngt {x y : Int64} : ¬ 0 < lcmpW x y → ¬ y < x := fun q r => q ((lw_gt x y).mpr r)
theorem w_eq {x y : Int64} : lcmpW x y = 0 → x = y := (lw_eq x y).mp
theorem w_neq {x y : Int64} : ¬ lcmpW x y = 0 → ¬ x = y := fun q r => q ((lw_eq x y).mpr r)
theorem lif_lt (nY nN : Nat) (X : Stand p l e R s m args below meth c T locs cells slots) (hx : p.tables.exec = Jvm.exec) {o : Int} {x y : Int64} {rest : List Value} (hd0 : decode c.code pc = .ok (.lcmp, 1)) {pc1 : Nat} (hp : pc + 1 = pc1) (hd : decode c.code pc1 = .ok (.ifCond .lt o, 3)) (hY : 0 ≤ (pc1 : Int) + o ∧ ((pc1 : Int) + o).toNat = nY) (hN : pc1 + 3 = nN) (KY : x < y → Ends p.tables e below s Q C S (T.setTop (mkF m nY Ls (rest)))) (KN : ¬ x < y → Ends p.tables e below s Q C S (T.setTop (mkF m nN Ls (rest)))) : Ends p.tables e below s Q C S (T.setTop (mkF m pc Ls (.long y :: .long x :: rest))) := by
  subst hp
  refine Ends.step ?_ fun t k => XS.lcmp (g := mkF m pc Ls (.long y :: .long x :: rest)) X.here hx rfl hd0 rfl k
  exact if_lt nY nN X hx hd hY hN (fun hb => KY (w_lt hb)) (fun hb => KN (w_nlt hb))
theorem lif_ge (nY nN : Nat) (X : Stand p l e R s m args below meth c T locs cells slots) (hx : p.tables.exec = Jvm.exec) {o : Int} {x y : Int64} {rest : List Value} (hd0 : decode c.code pc = .ok (.lcmp, 1)) {pc1 : Nat} (hp : pc + 1 = pc1) (hd : decode c.code pc1 = .ok (.ifCond .ge o, 3)) (hY : 0 ≤ (pc1 : Int) + o ∧ ((pc1 : Int) + o).toNat = nY) (hN : pc1 + 3 = nN) (KY : ¬ x < y → Ends p.tables e below s Q C S (T.setTop (mkF m nY Ls (rest)))) (KN : x < y → Ends p.tables e below s Q C S (T.setTop (mkF m nN Ls (rest)))) : Ends p.tables e below s Q C S (T.setTop (mkF m pc Ls (.long y :: .long x :: rest))) := by
  subst hp
  refine Ends.step ?_ fun t k => XS.lcmp (g := mkF m pc Ls (.long y :: .long x :: rest)) X.here hx rfl hd0 rfl k
  exact if_ge nY nN X hx hd hY hN (fun hb => KY (w_nlt hb)) (fun hb => KN (w_lt hb))
theorem lif_gt (nY nN : Nat) (X : Stand p l e R s m args below meth c T locs cells slots) (hx : p.tables.exec = Jvm.exec) {o : Int} {x y : Int64} {rest : List Value} (hd0 : decode c.code pc = .ok (.lcmp, 1)) {pc1 : Nat} (hp : pc + 1 = pc1) (hd : decode c.code pc1 = .ok (.ifCond .gt o, 3)) (hY : 0 ≤ (pc1 : Int) + o ∧ ((pc1 : Int) + o).toNat = nY) (hN : pc1 + 3 = nN) (KY : y < x → Ends p.tables e below s Q C S (T.setTop (mkF m nY Ls (rest)))) (KN : ¬ y < x → Ends p.tables e below s Q C S (T.setTop (mkF m nN Ls (rest)))) : Ends p.tables e below s Q C S (T.setTop (mkF m pc Ls (.long y :: .long x :: rest))) := by
  subst hp
  refine Ends.step ?_ fun t k => XS.lcmp (g := mkF m pc Ls (.long y :: .long x :: rest)) X.here hx rfl hd0 rfl k
  exact if_gt nY nN X hx hd hY hN (fun hb => KY (w_gt hb)) (fun hb => KN (w_ngt hb))
theorem lif_le (nY nN : Nat) (X : Stand p l e R s m args below meth c T locs cells slots) (hx : p.tables.exec = Jvm.exec) {o : Int} {x y : Int64} {rest : List Value} (hd0 : decode c.code pc = .ok (.lcmp, 1)) {pc1 : Nat} (hp : pc + 1 = pc1) (hd : decode c.code pc1 = .ok (.ifCond .le o, 3)) (hY : 0 ≤ (pc1 : Int) + o ∧ ((pc1 : Int) + o).toNat = nY) (hN : pc1 + 3 = nN) (KY : ¬ y < x → Ends p.tables e below s Q C S (T.setTop (mkF m nY Ls (rest)))) (KN : y < x → Ends p.tables e below s Q C S (T.setTop (mkF m nN Ls (rest)))) : Ends p.tables e below s Q C S (T.setTop (mkF m pc Ls (.long y :: .long x :: rest))) := by
  subst hp
  refine Ends.step ?_ fun t k => XS.lcmp (g := mkF m pc Ls (.long y :: .long x :: rest)) X.here hx rfl hd0 rfl k
  exact if_le nY nN X hx hd hY hN (fun hb => KY (w_ngt hb)) (fun hb => KN (w_gt hb))
theorem lif_eq (nY nN : Nat) (X : Stand p l e R s m args below meth c T locs cells slots) (hx : p.tables.exec = Jvm.exec) {o : Int} {x y : Int64} {rest : List Value} (hd0 : decode c.code pc = .ok (.lcmp, 1)) {pc1 : Nat} (hp : pc + 1 = pc1) (hd : decode c.code pc1 = .ok (.ifCond .eq o, 3)) (hY : 0 ≤ (pc1 : Int) + o ∧ ((pc1 : Int) + o).toNat = nY) (hN : pc1 + 3 = nN) (KY : x = y → Ends p.tables e below s Q C S (T.setTop (mkF m nY Ls (rest)))) (KN : ¬ x = y → Ends p.tables e below s Q C S (T.setTop (mkF m nN Ls (rest)))) : Ends p.tables e below s Q C S (T.setTop (mkF m pc Ls (.long y :: .long x :: rest))) := by
  subst hp
  refine Ends.step ?_ fun t k => XS.lcmp (g := mkF m pc Ls (.long y :: .long x :: rest)) X.here hx rfl hd0 rfl k
  exact if_eq nY nN X hx hd hY hN (fun hb => KY (w_eq hb)) (fun hb => KN (w_neq hb))
theorem lif_ne (nY nN : Nat) (X : Stand p l e R s m args below meth c T locs cells slots) (hx : p.tables.exec = Jvm.exec) {o : Int} {x y : Int64} {rest : List Value} (hd0 : decode c.code pc = .ok (.lcmp, 1)) {pc1 : Nat} (hp : pc + 1 = pc1) (hd : decode c.code pc1 = .ok (.ifCond .ne o, 3)) (hY : 0 ≤ (pc1 : Int) + o ∧ ((pc1 : Int) + o).toNat = nY) (hN : pc1 + 3 = nN) (KY : ¬ x = y → Ends p.tables e below s Q C S (T.setTop (mkF m nY Ls (rest)))) (KN : x = y → Ends p.tables e below s Q C S (T.setTop (mkF m nN Ls (rest)))) : Ends p.tables e below s Q C S (T.setTop (mkF m pc Ls (.long y :: .long x :: rest))) := by
  subst hp
  refine Ends.step ?_ fun t k => XS.lcmp (g := mkF m pc Ls (.long y :: .long x :: rest)) X.here hx rfl hd0 rfl k
  exact if_ne nY nN X hx hd hY hN (fun hb => KY (w_neq hb)) (fun hb => KN (w_eq hb))
theorem ifnull (nY nN : Nat) (X : Stand p l e R s m args below meth c T locs cells slots) (hx : p.tables.exec = Jvm.exec) {o : Int} {v : Value} {rest : List Value} (hd : decode c.code pc = .ok (.ifnull o, 3)) (hv : v.isRef = true) (hY : 0 ≤ (pc : Int) + o ∧ ((pc : Int) + o).toNat = nY) (hN : pc + 3 = nN) (KY : v = .null → Ends p.tables e below s Q C S (T.setTop (mkF m nY Ls (rest)))) (KN : ∀ a, v = .ref a → Ends p.tables e below s Q C S (T.setTop (mkF m nN Ls (rest)))) : Ends p.tables e below s Q C S (T.setTop (mkF m pc Ls (v :: rest))) := by
  subst hN
  rcases ref_cases hv with rfl | ⟨a, rfl⟩
  · exact (KY rfl).step fun t k => XS.ifnullYes (g := mkF m pc Ls (.null :: rest)) X.here hx rfl (pc0 := pc) (pc' := nY) rfl hd rfl hY.1 hY.2 k
  · exact (KN a rfl).step fun t k => XS.ifnullNo (g := mkF m pc Ls (.ref a :: rest)) X.here hx rfl hd rfl k
theorem ifnonnull (nY nN : Nat) (X : Stand p l e R s m args below meth c T locs cells slots) (hx : p.tables.exec = Jvm.exec) {o : Int} {v : Value} {rest : List Value} (hd : decode c.code pc = .ok (.ifnonnull o, 3)) (hv : v.isRef = true) (hY : 0 ≤ (pc : Int) + o ∧ ((pc : Int) + o).toNat = nY) (hN : pc + 3 = nN) (KY : ∀ a, v = .ref a → Ends p.tables e below s Q C S (T.setTop (mkF m nY Ls (rest)))) (KN : v = .null → Ends p.tables e below s Q C S (T.setTop (mkF m nN Ls (rest)))) : Ends p.tables e below s Q C S (T.setTop (mkF m pc Ls (v :: rest))) := by
  subst hN
  rcases ref_cases hv with rfl | ⟨a, rfl⟩
  · exact (KN rfl).step fun t k => XS.ifnonnullNo (g := mkF m pc Ls (.null :: rest)) X.here hx rfl hd rfl k
  · exact (KY a rfl).step fun t k => XS.ifnonnullYes (g := mkF m pc Ls (.ref a :: rest)) X.here hx rfl (pc0 := pc) (pc' := nY) rfl hd rfl hY.1 hY.2 k
theorem retI (X : Stand p l e R s m args below meth c T locs cells slots) (hx : p.tables.exec = Jvm.exec) {pc : Nat} {Ls : Array Slot} {z : Int32} {rest : List Value} (hret : meth.sig.returnType = some .int) (hd : decode c.code pc = .ok (.ireturn, 1)) {fs : List Frame}
    (hl : ∀ (f : JFrame) (acts : List Action), f.method = m → f.locked = none → f.entered = [] → (doReturn e (T.setTop f) acts (some (.int z))).1 = T.setFrames fs) : Steps p.tables e below (T.setTop (mkF m pc Ls (.int z :: rest))) (T.setFrames fs) := by
  have hm' : T.vm.method? m = some meth := X.method'
  have hn : narrow .int (.int z) = .int z := rfl
  show Steps p.tables e below (T.setTop { method := m, pc := pc, locals := Ls, stack := _ :: rest, locked := none }) _
  jvm_step X.here [X.here.top, hx, hd, hm', hret, hn]
  first | (intro acts; rw [hl _ acts rfl rfl rfl]) | rw [hl _ _ rfl rfl rfl]
  exact Steps.refl _
theorem fin {fs : List Frame} {v : Option Value} {U : State} (X : Stand p l e R s m args below meth c T locs cells slots) (hst : Steps p.tables e below U (T.setFrames fs)) (hrun : (T.setFrames fs).status = .running) (hend : Ended (T.setFrames fs) below (.returned v)) (hW : s.WarmedH (T.setFrames fs).vm) (hsame : s.sameButNew ({ T.setFrames fs with vm := s.vm } : State) locs cells slots) (q : Q v T.heap locs) (hC : cells ≤ C) (hS : slots ≤ S) : Ends p.tables e below s Q C S U :=
  ⟨_, _, hst, hrun, hend, _, _, rfl, q, ⟨_, rfl⟩, hW, hsame.mono hC hS⟩
theorem retInt (X : Stand p l e R s m args below meth c T locs cells slots) (hx : p.tables.exec = Jvm.exec) {z : Int32} {rest : List Value} (hlk : meth.locks = false) (hret : meth.sig.returnType = some .int) (hd : decode c.code pc = .ok (.ireturn, 1)) (hC : cells ≤ C) (hS : slots ≤ S) (q : Q (some (.int z)) T.heap locs) : Ends p.tables e below s Q C S (T.setTop (mkF m pc Ls (.int z :: rest))) := by
  obtain ⟨fs, hr, hrun, hended, hW, hsame⟩ := X.leave (v := some (.int z)) (fun h => by rw [hret] at h; cases h) hlk
  exact fin X (retI X hx hret hd hr) hrun hended hW hsame q hC hS
theorem retBool (X : Stand p l e R s m args below meth c T locs cells slots) (hx : p.tables.exec = Jvm.exec) {z : Int32} {rest : List Value} (hlk : meth.locks = false) (hret : meth.sig.returnType = some .boolean) (hd : decode c.code pc = .ok (.ireturn, 1)) (hC : cells ≤ C) (hS : slots ≤ S) (q : Q (some (.int (nar .boolean z))) T.heap locs) : Ends p.tables e below s Q C S (T.setTop (mkF m pc Ls (.int z :: rest))) := by
  obtain ⟨fs, hr, hrun, hended, hW, hsame⟩ := X.leave (v := some (.int (nar .boolean z))) (fun h => by rw [hret] at h; cases h) hlk
  exact fin X (retN X hx hret (Or.inl rfl) hd hr) hrun hended hW hsame q hC hS
theorem retLong (X : Stand p l e R s m args below meth c T locs cells slots) (hx : p.tables.exec = Jvm.exec) {z : Int64} (hlk : meth.locks = false) (hret : meth.sig.returnType = some .long) (hd : decode c.code pc = .ok (.lreturn, 1)) (hC : cells ≤ C) (hS : slots ≤ S) (q : Q (some (.long z)) T.heap locs) : Ends p.tables e below s Q C S (T.setTop (mkF m pc Ls ([.long z]))) := by
  obtain ⟨fs, hr, hrun, hended, hW, hsame⟩ := X.leave (v := some (.long z)) (fun h => by rw [hret] at h; cases h) hlk
  exact fin X (X.lreturnOut hx hret hd hr) hrun hended hW hsame q hC hS
theorem retRef (X : Stand p l e R s m args below meth c T locs cells slots) (hx : p.tables.exec = Jvm.exec) {v : Value} {t : FieldType} (hlk : meth.locks = false) (hv : v.isRef = true) (hret : meth.sig.returnType = some t) (ht : t.isReference = true) (hd : decode c.code pc = .ok (.areturn, 1)) (hC : cells ≤ C) (hS : slots ≤ S) (q : Q (some v) T.heap locs) : Ends p.tables e below s Q C S (T.setTop (mkF m pc Ls ([v]))) := by
  obtain ⟨fs, hr, hrun, hended, hW, hsame⟩ := X.leave (v := some v) (fun h => by rw [hret] at h; cases h) hlk
  exact fin X (X.areturnOut hx hv hret ht hd hr) hrun hended hW hsame q hC hS
theorem retVoid (X : Stand p l e R s m args below meth c T locs cells slots) (hx : p.tables.exec = Jvm.exec) (hlk : meth.locks = false) (hret : meth.sig.returnType = none) (hd : decode c.code pc = .ok (.return_, 1)) (hC : cells ≤ C) (hS : slots ≤ S) (q : Q none T.heap locs) : Ends p.tables e below s Q C S (T.setTop (mkF m pc Ls ([]))) := by
  obtain ⟨fs, hr, hrun, hended, hW, hsame⟩ := X.leave (v := none) (fun _ => rfl) hlk
  exact fin X (X.returnOut hx hret hd hr) hrun hended hW hsame q hC hS
theorem ldcInt (n : Nat) (X : Stand p l e R s m args below meth c T locs cells slots) (hx : p.tables.exec = Jvm.exec) (hZ : Z.Warmed39 s.vm) {own : String} {index : Nat} (v : Int32) (hown : s.vm.findClass own = some m.cls) (w : (Cond.constant own index v).before a0 Z = true) (hd : decode c.code pc = .ok (.ldc index, 2)) (hn : pc + 2 = n) (K : Ends p.tables e below s Q C S (T.setTop (mkF m n Ls (.int v :: st)))) : Ends p.tables e below s Q C S (T.setTop (mkF m pc Ls (st))) := by
  subst hn; exact K.step fun t k => X.ldcInt hx hown (mvT hZ w) (g := mkF m pc Ls st) rfl hd _ k
theorem ldcwInt (n : Nat) (X : Stand p l e R s m args below meth c T locs cells slots) (hx : p.tables.exec = Jvm.exec) (hZ : Z.Warmed39 s.vm) {own : String} {index : Nat} (v : Int32) (hown : s.vm.findClass own = some m.cls) (w : (Cond.constant own index v).before a0 Z = true) (hd : decode c.code pc = .ok (.ldc_w index, 3)) (hn : pc + 3 = n) (K : Ends p.tables e below s Q C S (T.setTop (mkF m n Ls (.int v :: st)))) : Ends p.tables e below s Q C S (T.setTop (mkF m pc Ls (st))) := by
  subst hn; exact K.step fun t k => X.ldcwInt hx hown (mvT hZ w) (g := mkF m pc Ls st) rfl hd _ k
theorem ldc2Long (n : Nat) (X : Stand p l e R s m args below meth c T locs cells slots) (hx : p.tables.exec = Jvm.exec) (hZ : Z.Warmed39 s.vm) {own : String} {index : Nat} (v : Int64) (hown : s.vm.findClass own = some m.cls) (w : (Cond.constantLong own index v).before a0 Z = true) (hd : decode c.code pc = .ok (.ldc2_w index, 3)) (hn : pc + 3 = n) (K : Ends p.tables e below s Q C S (T.setTop (mkF m n Ls (.long v :: st)))) : Ends p.tables e below s Q C S (T.setTop (mkF m pc Ls (st))) := by
  subst hn; exact K.step fun t k => X.ldc2Long hx hown (mvT hZ w) (g := mkF m pc Ls st) rfl hd _ k
theorem getFld (n : Nat) (X : Stand p l e R s m args below meth c T locs cells slots) (hx : p.tables.exec = Jvm.exec) (hZ : Z.Warmed39 s.vm) {own R0 O nm d host : String} {index : Nat} (hown : s.vm.findClass own = some m.cls) (w : (Cond.fieldLink own index R0 nm d).before a0 Z = true ∨ (Cond.fieldLinkNest own index R0 nm d host).before a0 Z = true) (via : Via Z R0 O nm d) (eT : T.heap = h) {a : Addr} {v : Value} (F : Fld Z h a O nm d v) {rest : List Value} (hd : decode c.code pc = .ok (.getfield index, 3)) (hn : pc + 3 = n) (K : ∀ T', Stand p l e R s m args below meth c T' locs cells slots → T'.heap = h → Ends p.tables e below s Q C S (T'.setTop (mkF m n Ls (v :: rest)))) : Ends p.tables e below s Q C S (T.setTop (mkF m pc Ls (.ref a :: rest))) := by
  subst hn
  obtain ⟨T1, X1, e1, st1⟩ := getF X hx hZ hown w via eT F (g := mkF m pc Ls (.ref a :: rest)) rfl rfl hd
  exact (K T1 X1 e1).step st1
theorem getSta (n : Nat) (X : Stand p l e R s m args below meth c T locs cells slots) (hx : p.tables.exec = Jvm.exec) (hZ : Z.Warmed39 s.vm) {own R0 O nm d host : String} {index : Nat} (hown : s.vm.findClass own = some m.cls) (w : (Cond.fieldLink own index R0 nm d).before a0 Z = true ∨ (Cond.fieldLinkNest own index R0 nm d host).before a0 Z = true) (via : Via Z R0 O nm d) (eT : T.heap = h) {v : Value} (F : Sta Z h O nm d v) (hd : decode c.code pc = .ok (.getstatic index, 3)) (hn : pc + 3 = n) (K : ∀ T', Stand p l e R s m args below meth c T' locs cells slots → T'.heap = h → Ends p.tables e below s Q C S (T'.setTop (mkF m n Ls (v :: st)))) : Ends p.tables e below s Q C S (T.setTop (mkF m pc Ls (st))) := by
  subst hn
  obtain ⟨T1, X1, e1, st1⟩ := getS2 X hx hZ hown w via eT F (g := mkF m pc Ls st) rfl hd
  exact (K T1 X1 e1).step st1
theorem putFld (n : Nat) (X : Stand p l e R s m args below meth c T locs cells slots) (hx : p.tables.exec = Jvm.exec) (hZ : Z.Warmed39 s.vm) {own R0 O nm d host CC : String} {index kk : Nat} {ty : FieldType} (hown : s.vm.findClass own = some m.cls) (w : (Cond.fieldLink own index R0 nm d).before a0 Z = true ∨ (Cond.fieldLinkNest own index R0 nm d host).before a0 Z = true) (via : Via Z R0 O nm d) (eT : T.heap = h) {a : Addr} {v old : Value} (F : Fld Z h a O nm d old) (E : Exa Z h a CC) (L : (Cond.lays CC O nm d).before a0 Z = true ∨ ((Cond.laysFinal CC O nm d).before a0 Z = true ∧ own = O ∧ meth.name = "<init>")) (wi : (Cond.instantiable CC kk).before a0 Z = true) (hty : parseFieldDescriptor d = some ty) (hnw : narrow ty v = v) (hf : fits ty v = true) {rest : List Value} (hd : decode c.code pc = .ok (.putfield index, 3)) (hn : pc + 3 = n) (K : ∀ T' h', Stand p l e R s m args below meth c T' (locs ++ [⟨a, Jvm.RoadKit.slotOf Z O nm d⟩]) cells slots → T'.heap = h' → Wr h h' a (Jvm.RoadKit.slotOf Z O nm d) v → Ends p.tables e below s Q C S (T'.setTop (mkF m n Ls (rest)))) : Ends p.tables e below s Q C S (T.setTop (mkF m pc Ls (v :: .ref a :: rest))) := by
  subst hn
  obtain ⟨T1, h1, X1, e1, W1, st1⟩ := putF X hx hZ hown w via eT F E L wi hty hnw hf (g := mkF m pc Ls (v :: .ref a :: rest)) rfl rfl hd
  exact (K T1 h1 X1 e1 W1).step st1
theorem newObj (n : Nat) (X : Stand p l e R s m args below meth c T locs cells slots) (hx : p.tables.exec = Jvm.exec) (hZ : Z.Warmed39 s.vm) {own CC : String} {index sz : Nat} (hown : s.vm.findClass own = some m.cls) (w : (Cond.classLink own index CC).before a0 Z = true) (wi : (Cond.instantiable CC sz).before a0 Z = true) (wz : (Cond.initialized CC).before a0 Z = true) (eT : T.heap = h) (hd : decode c.code pc = .ok (.new index, 3)) (hn : pc + 3 = n) (hc : cells + 1 ≤ R.cells) (hl : slots + sz ≤ R.slots) (K : ∀ T' h' a, a = h.size → Stand p l e R s m args below meth c T' locs (cells + 1) (slots + sz) → T'.heap = h' → Ext h h' → Exa Z h' a CC → (∀ {O nm d : String} {ty : FieldType}, Laid Z a0 CC O nm d → parseFieldDescriptor d = some ty → Fld Z h' a O nm d (defaultValue ty)) → Ends p.tables e below s Q C S (T'.setTop (mkF m n Ls (.ref a :: st)))) : Ends p.tables e below s Q C S (T.setTop (mkF m pc Ls (st))) := by
  subst hn
  obtain ⟨T1, h1, X1, e1, E1, A1, D1, -, st1⟩ := newO X hx hZ hown w wi wz eT (g := mkF m pc Ls st) rfl hd hc hl
  exact (K T1 h1 _ rfl X1 e1 E1 A1 (fun L q => D1 L q)).step st1
theorem initObj (n W : Nat) (X : Stand p l e R s m args below meth c T locs cells slots) (hx : p.tables.exec = Jvm.exec) (hZ : Z.Warmed39 s.vm) {own : String} {index : Nat} (hown : s.vm.findClass own = some m.cls) (w1 : (Cond.methodLink own index Lib.objectInit).before a0 Z = true) (w2 : (Cond.instanceMethod Lib.objectInit).before a0 Z = true) (w3 : (Cond.code Lib.objectInit ⟨#[0xb1]⟩ 1 none).before a0 Z = true) (eT : T.heap = h) {a : Addr} {rest : List Value} (hsz : Ls.size = c.maxLocals) (hd : decode c.code pc = .ok (.invokespecial index, 3)) (hn : pc + 3 = n) (hf : 1 ≤ R.frames) (hW : (rest.map fun v => v.category).sum ≤ W) (hl : W + 12 ≤ R.locals) (K : ∀ T', Stand p l e R s m args below meth c T' locs cells slots → T'.heap = h → Ends p.tables e below s Q C S (T'.setTop (mkF m n Ls (rest)))) : Ends p.tables e below s Q C S (T.setTop (mkF m pc Ls (.ref a :: rest))) := by
  subst hn
  obtain ⟨T1, X1, e1, st1⟩ := initO X hx hZ hown w1 w2 w3 eT (g := mkF m pc Ls (.ref a :: rest)) rfl hsz rfl hd hf (W := W) (by show 2 * 0 + _ ≤ _; omega) hl
  exact (K T1 X1 e1).step st1
/-- the contract of a body: entered with these arguments at this heap it returns, and what it leaves answers to QQ -/
def Met (l : Launch) (Z : State) (y : MethodName) (bytes : ByteArray) (maxL : Nat) (ret : Option FieldType) (ws : List Cond) (rm : Room) (as : Array Value) (h : Heap) (QQ : Option Value → Heap → List Loc → Prop) : Prop :=
  MetFree l y (head1 (Cond.code y bytes maxL ret :: ws) rm) (fun a U => a = as ∧ Z.Warmed39 U.vm ∧ U.heap = h) (fun _ _ _ _ _ => True) (fun _ U o U' => ∃ v L, o = .returned v ∧ QQ v U'.heap L ∧ FrameEnd U o U' L rm.cells rm.slots)
theorem Met.of {y : MethodName} {bytes : ByteArray} {maxL : Nat} {ret : Option FieldType} {ws : List Cond} {rm : Room} {as : Array Value} {QQ : Option Value → Heap → List Loc → Prop} (hp : plainFor y = true)
    (body : ∀ (p : Program) (e : Env) (s : State) (m : MethodId) (below : List Frame) (meth : Method) (c : Code) (T : State), p.tables.exec = Jvm.exec → c.code = bytes → c.maxLocals = maxL → s.vm.findClass y.cls = some m.cls → meth.name = y.name → meth.sig.returnType = ret → meth.locks = false → Z.Warmed39 s.vm → Stand p l e rm s m as below meth c T [] 0 0 → T.heap = h → Ends p.tables e below s QQ rm.cells rm.slots (T.setTop (entryFrame m as maxL))) :
    Met l Z y bytes maxL ret ws rm as h QQ := by
  refine MetFree.of_bodySF hp hisR ?_
  intro p e s m args below meth c s₁ Bd hml0 hP hK
  obtain ⟨rfl, hZ, hh⟩ := hP
  exact body p e s m below meth c s₁ Bd.exec Bd.bytes hml0 (findClass_of_methodNamed Bd.named) (name_of_methodNamed Bd.named Bd.method).1 Bd.returns Bd.notSynchronized hZ (Stand.of_body Bd) (by rw [← hh, Bd.state]; rfl)
theorem callSt (n W : Nat) (argsL rest : List Value) (X : Stand p l e R s m args below meth c T locs cells slots) (hx : p.tables.exec = Jvm.exec) (hZ : Z.Warmed39 s.vm) {own : String} {index : Nat} {y : MethodName} {bytes : ByteArray} {maxL : Nat} {ret : Option FieldType} {rm : Room} {QQ : Option Value → Heap → List Loc → Prop} (hown : s.vm.findClass own = some m.cls) (hM : Met l Z y bytes maxL ret [] rm argsL.toArray h QQ) (wl : (Cond.methodLink own index y).before a0 Z = true) (ws : (Cond.static y).before a0 Z = true) (wi : (Cond.initialized y.cls).before a0 Z = true) (wc : (Cond.code y bytes maxL ret).before a0 Z = true) (hy : y.cls ≠ "java/lang/invoke/MethodHandle" ∧ y.cls ≠ "java/lang/invoke/VarHandle") (eT : T.heap = h) (hfr : rm.frames + 1 ≤ R.frames) (hlc : W + (maxL + 11) + rm.locals ≤ R.locals) (hc : cells + rm.cells ≤ R.cells) (hs : slots + rm.slots ≤ R.slots) (hsz : Ls.size = c.maxLocals) (hlen : ∀ sig, parseMethodDescriptor y.desc = some sig → argsL.length = sig.parameters.length) (hst : st = argsL.reverse ++ rest) (hW : (rest.map fun v => v.category).sum ≤ W) (hd : decode c.code pc = .ok (.invokestatic index, 3)) (hn : pc + 3 = n) (K : ∀ v T' L', Stand p l e R s m args below meth c T' (locs ++ L') (cells + rm.cells) (slots + rm.slots) → QQ v T'.heap L' → Ends p.tables e below s Q C S (T'.setTop (mkF m n Ls (v.toList ++ rest)))) : Ends p.tables e below s Q C S (T.setTop (mkF m pc Ls (st))) := by
  subst hn
  obtain ⟨v, vm1, ⟨T1, L1, k1, n1⟩, -, X1, ⟨Lc, hQ, l1, y1, z1⟩, st1⟩ := Jvm.LawKit.callS X hx (y := y) hown (mvT hZ wl) (mvT hZ ws) (mvT hZ wi) (mvT hZ wc) hy (backOf (W := W) hM hZ wc wi hfr hlc) (g := mkF m pc Ls st) rfl hsz (argsL := argsL) (rest := rest) hlen hst (by show 2 * 0 + _ ≤ _; omega) hd (fun _ _ => ⟨rfl, eT, hc, hs⟩)
  dsimp only [Pt.U, Pt.locs, Pt.cells, Pt.slots] at X1 l1 y1 z1 st1 hQ
  subst l1 y1 z1
  exact (K v T1 Lc X1 hQ).step st1
theorem callInit (n W : Nat) (a : Addr) (argsL rest : List Value) (X : Stand p l e R s m args below meth c T locs cells slots) (hx : p.tables.exec = Jvm.exec) (hZ : Z.Warmed39 s.vm) {own : String} {index : Nat} {y : MethodName} {bytes : ByteArray} {maxL : Nat} {rm : Room} {QQ : Option Value → Heap → List Loc → Prop} (hown : s.vm.findClass own = some m.cls) (hM : Met l Z y bytes maxL none [] rm (.ref a :: argsL).toArray h QQ) (hy1 : y.name = "<init>") (wl : (Cond.methodLink own index y).before a0 Z = true) (ws : (Cond.instanceMethod y).before a0 Z = true) (wi : (Cond.initialized y.cls).before a0 Z = true) (wc : (Cond.code y bytes maxL none).before a0 Z = true) (hy : y.cls ≠ "java/lang/invoke/MethodHandle" ∧ y.cls ≠ "java/lang/invoke/VarHandle") (eT : T.heap = h) (hfr : rm.frames + 1 ≤ R.frames) (hlc : W + (maxL + 11) + rm.locals ≤ R.locals) (hc : cells + rm.cells ≤ R.cells) (hs : slots + rm.slots ≤ R.slots) (hsz : Ls.size = c.maxLocals) (hlen : ∀ sig, parseMethodDescriptor y.desc = some sig → argsL.length = sig.parameters.length) (hst : st = argsL.reverse ++ .ref a :: rest) (hW : (rest.map fun v => v.category).sum ≤ W) (hd : decode c.code pc = .ok (.invokespecial index, 3)) (hn : pc + 3 = n) (K : ∀ v T' L', Stand p l e R s m args below meth c T' (locs ++ L') (cells + rm.cells) (slots + rm.slots) → QQ v T'.heap L' → Ends p.tables e below s Q C S (T'.setTop (mkF m n Ls (v.toList ++ rest)))) : Ends p.tables e below s Q C S (T.setTop (mkF m pc Ls (st))) := by
  subst hn
  obtain ⟨v, vm1, ⟨T1, L1, k1, n1⟩, -, X1, ⟨Lc, hQ, l1, y1, z1⟩, st1⟩ := X.specialBack hx (y := y) hy1 hown (mvT hZ wl) (mvT hZ ws) (mvT hZ wc) hy (backOf (W := W) hM hZ wc wi hfr hlc) (g := mkF m pc Ls st) rfl hsz (Steps.refl _) (a := a) (argsL := argsL) (rest := rest) hlen hst (by show 2 * 0 + _ ≤ _; omega) hd (fun _ _ => ⟨rfl, eT, hc, hs⟩)
  dsimp only [Pt.U, Pt.locs, Pt.cells, Pt.slots] at X1 l1 y1 z1 st1 hQ
  subst l1 y1 z1
  exact (K v T1 Lc X1 hQ).step fun t k => st1.trans k
theorem callVt (n W : Nat) (a : Addr) (argsL rest : List Value) (X : Stand p l e R s m args below meth c T locs cells slots) (hx : p.tables.exec = Jvm.exec) (hZ : Z.Warmed39 s.vm) {own CC : String} {index : Nat} {y z : MethodName} {bytes : ByteArray} {maxL : Nat} {ret : Option FieldType} {rm : Room} {QQ : Option Value → Heap → List Loc → Prop} (hown : s.vm.findClass own = some m.cls) (hM : Met l Z z bytes maxL ret [] rm (.ref a :: argsL).toArray h QQ) (E : Exa Z h a CC) (hnf : NotFace s y) (wl : (Cond.methodLink own index y).before a0 Z = true) (wd : (Cond.declares y).before a0 Z = true) (wsel : (Cond.selects CC y z).before a0 Z = true) (ws : (Cond.instanceMethod z).before a0 Z = true) (wi : (Cond.initialized z.cls).before a0 Z = true) (wc : (Cond.code z bytes maxL ret).before a0 Z = true) (hy : y.cls ≠ "java/lang/invoke/MethodHandle" ∧ y.cls ≠ "java/lang/invoke/VarHandle") (eT : T.heap = h) (hfr : rm.frames + 1 ≤ R.frames) (hlc : W + (maxL + 11) + rm.locals ≤ R.locals) (hc : cells + rm.cells ≤ R.cells) (hs : slots + rm.slots ≤ R.slots) (hsz : Ls.size = c.maxLocals) (hlen : ∀ sig, parseMethodDescriptor y.desc = some sig → argsL.length = sig.parameters.length) (hst : st = argsL.reverse ++ .ref a :: rest) (hW : (rest.map fun v => v.category).sum ≤ W) (hd : decode c.code pc = .ok (.invokevirtual index, 3)) (hn : pc + 3 = n) (K : ∀ v T' L', Stand p l e R s m args below meth c T' (locs ++ L') (cells + rm.cells) (slots + rm.slots) → QQ v T'.heap L' → Ends p.tables e below s Q C S (T'.setTop (mkF m n Ls (v.toList ++ rest)))) : Ends p.tables e below s Q C S (T.setTop (mkF m pc Ls (st))) := by
  subst hn
  obtain ⟨cq, kq, qa, qb, qc⟩ := isOf hZ eT E
  obtain ⟨v, vm1, ⟨T1, L1, k1, n1⟩, -, X1, ⟨Lc, hQ, l1, y1, z1⟩, st1⟩ := X.virtualBack hx (y := y) (z := z) hown (mvT hZ wl) (mvT hZ wd) hnf (mvT hZ wsel) (mvT hZ ws) hy (backOf (W := W) hM hZ wc wi hfr hlc) qa qc (g := mkF m pc Ls st) rfl hsz (Steps.refl _) (argsL := argsL) (rest := rest) hlen hst (by show 2 * 0 + _ ≤ _; omega) hd (fun _ _ => ⟨rfl, eT, hc, hs⟩)
  dsimp only [Pt.U, Pt.locs, Pt.cells, Pt.slots] at X1 l1 y1 z1 st1 hQ
  subst l1 y1 z1
  exact (K v T1 Lc X1 hQ).step fun t k => st1.trans k
theorem callPr (n W : Nat) (a : Addr) (argsL rest : List Value) (X : Stand p l e R s m args below meth c T locs cells slots) (hx : p.tables.exec = Jvm.exec) (hZ : Z.Warmed39 s.vm) {own CC : String} {index : Nat} {y : MethodName} {bytes : ByteArray} {maxL : Nat} {ret : Option FieldType} {rm : Room} {QQ : Option Value → Heap → List Loc → Prop} (hown : s.vm.findClass own = some m.cls) (hM : Met l Z y bytes maxL ret [] rm (.ref a :: argsL).toArray h QQ) (E : Exa Z h a CC) (wl : (Cond.methodLink own index y).before a0 Z = true) (wp : (Cond.privateMethod y).before a0 Z = true) {kk : Nat} (wk : (Cond.instantiable y.cls kk).before a0 Z = true) (ws : (Cond.instanceMethod y).before a0 Z = true) (wi : (Cond.initialized y.cls).before a0 Z = true) (wc : (Cond.code y bytes maxL ret).before a0 Z = true) (hy : y.cls ≠ "java/lang/invoke/MethodHandle" ∧ y.cls ≠ "java/lang/invoke/VarHandle") (eT : T.heap = h) (hfr : rm.frames + 1 ≤ R.frames) (hlc : W + (maxL + 11) + rm.locals ≤ R.locals) (hc : cells + rm.cells ≤ R.cells) (hs : slots + rm.slots ≤ R.slots) (hsz : Ls.size = c.maxLocals) (hlen : ∀ sig, parseMethodDescriptor y.desc = some sig → argsL.length = sig.parameters.length) (hst : st = argsL.reverse ++ .ref a :: rest) (hW : (rest.map fun v => v.category).sum ≤ W) (hd : decode c.code pc = .ok (.invokevirtual index, 3)) (hn : pc + 3 = n) (K : ∀ v T' L', Stand p l e R s m args below meth c T' (locs ++ L') (cells + rm.cells) (slots + rm.slots) → QQ v T'.heap L' → Ends p.tables e below s Q C S (T'.setTop (mkF m n Ls (v.toList ++ rest)))) : Ends p.tables e below s Q C S (T.setTop (mkF m pc Ls (st))) := by
  subst hn
  obtain ⟨cq, qa, qb⟩ := E.cell
  obtain ⟨cI, kI, i1, i2, -, i4, -⟩ := Cond.instantiable_spec (mvT (args := args) hZ wk)
  obtain ⟨v, vm1, ⟨T1, L1, k1, n1⟩, -, X1, ⟨Lc, hQ, l1, y1, z1⟩, st1⟩ := X.privateBack hx (y := y) hown (mvT hZ wl) (mvT hZ ws) (selects_self_of_private i1 i2 (by simpa using (Bool.or_eq_false_iff.mp i4).1) (Cond.privateMethod_at (mvP hZ wp (args := #[]))) (mvT hZ ws) hy) (Cond.privateMethod_at (mvP hZ wp (args := #[]))) (mvT hZ wc) hy (backOf (W := W) hM hZ wc wi hfr hlc) (g := mkF m pc Ls st) rfl hsz (Steps.refl _) (a := a) (by rw [eT]; exact qa) qb (argsL := argsL) (rest := rest) hlen hst (by show 2 * 0 + _ ≤ _; omega) hd (fun _ _ => ⟨rfl, eT, hc, hs⟩)
  dsimp only [Pt.U, Pt.locs, Pt.cells, Pt.slots] at X1 l1 y1 z1 st1 hQ
  subst l1 y1 z1
  exact (K v T1 Lc X1 hQ).step fun t k => st1.trans k
theorem arrLen (n : Nat) (X : Stand p l e R s m args below meth c T locs cells slots) (hx : p.tables.exec = Jvm.exec) (hZ : Z.Warmed39 s.vm) (eT : T.heap = h) {a : Addr} {k : ClassId} {ty : FieldType} {z : Int32} {vs : List Value} {dv : Value} {rest : List Value} (A : Arv Z h a k ty z vs dv) (hd : decode c.code pc = .ok (.arraylength, 1)) (hn : pc + 1 = n) (K : Ends p.tables e below s Q C S (T.setTop (mkF m n Ls (.int z :: rest)))) : Ends p.tables e below s Q C S (T.setTop (mkF m pc Ls (.ref a :: rest))) := by
  subst hn
  obtain ⟨cl, Ar, -, Sz, Nz, -, -⟩ := A
  refine K.step fun t kk => X.arraylength hx (by rw [eT]; exact Ar.1) (State.isArrayOf_alike hZ.alike Ar.2.1) (g := mkF m pc Ls (.ref a :: rest)) rfl rfl hd _ ?_
  rw [len_of Sz Nz]; exact kk
theorem iaload (n : Nat) (X : Stand p l e R s m args below meth c T locs cells slots) (hx : p.tables.exec = Jvm.exec) (hZ : Z.Warmed39 s.vm) (eT : T.heap = h) {a : Addr} {k : ClassId} {z j : Int32} (v : Int32) {vs : List Value} {dv : Value} {rest : List Value} (A : Arv Z h a k .int z vs dv) (hj : ¬ j < 0 ∧ j < z) (hv : vs.getD j.toNatClampNeg dv = .int v) (hd : decode c.code pc = .ok (.iaload, 1)) (hn : pc + 1 = n) (K : Ends p.tables e below s Q C S (T.setTop (mkF m n Ls (.int v :: rest)))) : Ends p.tables e below s Q C S (T.setTop (mkF m pc Ls (.int j :: .ref a :: rest))) := by
  subst hn
  obtain ⟨cl, Ar, -, Sz, Nz, Hs, -⟩ := A
  have hin := inb_of Sz hj
  exact K.step fun t kk => X.iaload hx (j := j) (v := .int v) (by rw [eT]; exact Ar.1) (State.isArrayOf_alike hZ.alike Ar.2.1) Ar.2.2 hin (Hs.at hin hv) (g := mkF m pc Ls (.int j :: .ref a :: rest)) rfl rfl hd _ kk
theorem laload (n : Nat) (X : Stand p l e R s m args below meth c T locs cells slots) (hx : p.tables.exec = Jvm.exec) (hZ : Z.Warmed39 s.vm) (eT : T.heap = h) {a : Addr} {k : ClassId} {z j : Int32} (v : Int64) {vs : List Value} {dv : Value} {rest : List Value} (A : Arv Z h a k .long z vs dv) (hj : ¬ j < 0 ∧ j < z) (hv : vs.getD j.toNatClampNeg dv = .long v) (hd : decode c.code pc = .ok (.laload, 1)) (hn : pc + 1 = n) (K : Ends p.tables e below s Q C S (T.setTop (mkF m n Ls (.long v :: rest)))) : Ends p.tables e below s Q C S (T.setTop (mkF m pc Ls (.int j :: .ref a :: rest))) := by
  subst hn
  obtain ⟨cl, Ar, -, Sz, Nz, Hs, -⟩ := A
  have hin := inb_of Sz hj
  exact K.step fun t kk => X.laload hx (j := j) (v := .long v) (by rw [eT]; exact Ar.1) (State.isArrayOf_alike hZ.alike Ar.2.1) Ar.2.2 hin (Hs.at hin hv) (g := mkF m pc Ls (.int j :: .ref a :: rest)) rfl rfl hd _ kk
theorem baload (n : Nat) (X : Stand p l e R s m args below meth c T locs cells slots) (hx : p.tables.exec = Jvm.exec) (hZ : Z.Warmed39 s.vm) (eT : T.heap = h) {a : Addr} {k : ClassId} {z j : Int32} (v : Int32) {vs : List Value} {dv : Value} {rest : List Value} (A : Arv Z h a k .byte z vs dv) (hj : ¬ j < 0 ∧ j < z) (hv : vs.getD j.toNatClampNeg dv = .int v) (hd : decode c.code pc = .ok (.baload, 1)) (hn : pc + 1 = n) (K : Ends p.tables e below s Q C S (T.setTop (mkF m n Ls (.int v :: rest)))) : Ends p.tables e below s Q C S (T.setTop (mkF m pc Ls (.int j :: .ref a :: rest))) := by
  subst hn
  obtain ⟨cl, Ar, -, Sz, Nz, Hs, -⟩ := A
  have hin := inb_of Sz hj
  exact K.step fun t kk => X.baloadBytes hx (j := j) (v := .int v) (by rw [eT]; exact Ar.1) (State.isArrayOf_alike hZ.alike Ar.2.1) Ar.2.2 hin (Hs.at hin hv) (g := mkF m pc Ls (.int j :: .ref a :: rest)) rfl rfl hd _ kk
theorem caload (n : Nat) (X : Stand p l e R s m args below meth c T locs cells slots) (hx : p.tables.exec = Jvm.exec) (hZ : Z.Warmed39 s.vm) (eT : T.heap = h) {a : Addr} {k : ClassId} {z j : Int32} (v : Int32) {vs : List Value} {dv : Value} {rest : List Value} (A : Arv Z h a k .char z vs dv) (hj : ¬ j < 0 ∧ j < z) (hv : vs.getD j.toNatClampNeg dv = .int v) (hd : decode c.code pc = .ok (.caload, 1)) (hn : pc + 1 = n) (K : Ends p.tables e below s Q C S (T.setTop (mkF m n Ls (.int v :: rest)))) : Ends p.tables e below s Q C S (T.setTop (mkF m pc Ls (.int j :: .ref a :: rest))) := by
  subst hn
  obtain ⟨cl, Ar, -, Sz, Nz, Hs, -⟩ := A
  have hin := inb_of Sz hj
  exact K.step fun t kk => X.caload hx (j := j) (v := .int v) (by rw [eT]; exact Ar.1) (State.isArrayOf_alike hZ.alike Ar.2.1) Ar.2.2 hin (Hs.at hin hv) (g := mkF m pc Ls (.int j :: .ref a :: rest)) rfl rfl hd _ kk
theorem aaload (n : Nat) (X : Stand p l e R s m args below meth c T locs cells slots) (hx : p.tables.exec = Jvm.exec) (hZ : Z.Warmed39 s.vm) (eT : T.heap = h) {a : Addr} {k : ClassId} {z j : Int32} {ty : FieldType} (v : Value) {vs : List Value} {dv : Value} {rest : List Value} (A : Arv Z h a k ty z vs dv) (hty : ty.isReference = true) (hj : ¬ j < 0 ∧ j < z) (hv : vs.getD j.toNatClampNeg dv = v) (hd : decode c.code pc = .ok (.aaload, 1)) (hn : pc + 1 = n) (K : Ends p.tables e below s Q C S (T.setTop (mkF m n Ls (v :: rest)))) : Ends p.tables e below s Q C S (T.setTop (mkF m pc Ls (.int j :: .ref a :: rest))) := by
  subst hn
  obtain ⟨cl, Ar, -, Sz, Nz, Hs, -⟩ := A
  have hin := inb_of Sz hj
  exact K.step fun t kk => X.aaload hx (j := j) (v := v) (by rw [eT]; exact Ar.1) (State.isArrayOf_alike hZ.alike Ar.2.1) hty Ar.2.2 hin (Hs.at hin hv) (g := mkF m pc Ls (.int j :: .ref a :: rest)) rfl rfl hd _ kk
theorem iastore (n : Nat) (X : Stand p l e R s m args below meth c T locs cells slots) (hx : p.tables.exec = Jvm.exec) (hZ : Z.Warmed39 s.vm) (eT : T.heap = h) {a : Addr} {k : ClassId} {z j : Int32} {x : Int32} {vs : List Value} {dv : Value} {rest : List Value} (A : Arv Z h a k .int z vs dv) (hj : ¬ j < 0 ∧ j < z) (hlen : j.toNatClampNeg < vs.length) (hd : decode c.code pc = .ok (.iastore, 1)) (hn : pc + 1 = n) (K : ∀ T' h', Stand p l e R s m args below meth c T' (locs ++ [⟨a, j.toNatClampNeg⟩]) cells slots → T'.heap = h' → Wr h h' a j.toNatClampNeg (.int x) → Arv Z h' a k .int z (vs.set j.toNatClampNeg (.int x)) dv → Ends p.tables e below s Q C S (T'.setTop (mkF m n Ls (rest)))) : Ends p.tables e below s Q C S (T.setTop (mkF m pc Ls (.int x :: .int j :: .ref a :: rest))) := by
  subst hn
  obtain ⟨cl, Ar, q1, Sz, Nz, Hs, Gs⟩ := A
  obtain ⟨T1, h1, X1, e1, W1, st1⟩ := stI X hx hZ eT Ar (j := j) (inb_of Sz hj) (g := mkF m pc Ls (.int x :: .int j :: .ref a :: rest)) rfl rfl hd
  exact (K T1 h1 X1 e1 W1 (Arv.set Ar q1 Sz Nz Hs Gs rfl W1 _ rfl hlen)).step st1
theorem lastore (n : Nat) (X : Stand p l e R s m args below meth c T locs cells slots) (hx : p.tables.exec = Jvm.exec) (hZ : Z.Warmed39 s.vm) (eT : T.heap = h) {a : Addr} {k : ClassId} {z j : Int32} {x : Int64} {vs : List Value} {dv : Value} {rest : List Value} (A : Arv Z h a k .long z vs dv) (hj : ¬ j < 0 ∧ j < z) (hlen : j.toNatClampNeg < vs.length) (hd : decode c.code pc = .ok (.lastore, 1)) (hn : pc + 1 = n) (K : ∀ T' h', Stand p l e R s m args below meth c T' (locs ++ [⟨a, j.toNatClampNeg⟩]) cells slots → T'.heap = h' → Wr h h' a j.toNatClampNeg (.long x) → Arv Z h' a k .long z (vs.set j.toNatClampNeg (.long x)) dv → Ends p.tables e below s Q C S (T'.setTop (mkF m n Ls (rest)))) : Ends p.tables e below s Q C S (T.setTop (mkF m pc Ls (.long x :: .int j :: .ref a :: rest))) := by
  subst hn
  obtain ⟨cl, Ar, q1, Sz, Nz, Hs, Gs⟩ := A
  obtain ⟨T1, h1, X1, e1, W1, st1⟩ := stJ X hx hZ eT Ar (j := j) (inb_of Sz hj) (g := mkF m pc Ls (.long x :: .int j :: .ref a :: rest)) rfl rfl hd
  exact (K T1 h1 X1 e1 W1 (Arv.set Ar q1 Sz Nz Hs Gs rfl W1 _ rfl hlen)).step st1
theorem bastore (n : Nat) (X : Stand p l e R s m args below meth c T locs cells slots) (hx : p.tables.exec = Jvm.exec) (hZ : Z.Warmed39 s.vm) (eT : T.heap = h) {a : Addr} {k : ClassId} {z j : Int32} {x : Int32} {vs : List Value} {dv : Value} {rest : List Value} (A : Arv Z h a k .byte z vs dv) (hj : ¬ j < 0 ∧ j < z) (hlen : j.toNatClampNeg < vs.length) (hd : decode c.code pc = .ok (.bastore, 1)) (hn : pc + 1 = n) (K : ∀ T' h', Stand p l e R s m args below meth c T' (locs ++ [⟨a, j.toNatClampNeg⟩]) cells slots → T'.heap = h' → Wr h h' a j.toNatClampNeg (.int x.toInt8.toInt32) → Arv Z h' a k .byte z (vs.set j.toNatClampNeg (.int x.toInt8.toInt32)) dv → Ends p.tables e below s Q C S (T'.setTop (mkF m n Ls (rest)))) : Ends p.tables e below s Q C S (T.setTop (mkF m pc Ls (.int x :: .int j :: .ref a :: rest))) := by
  subst hn
  obtain ⟨cl, Ar, q1, Sz, Nz, Hs, Gs⟩ := A
  obtain ⟨T1, h1, X1, e1, W1, st1⟩ := stB X hx hZ eT Ar (j := j) (inb_of Sz hj) (g := mkF m pc Ls (.int x :: .int j :: .ref a :: rest)) rfl rfl hd
  exact (K T1 h1 X1 e1 W1 (Arv.set Ar q1 Sz Nz Hs Gs (fits_nar_byte _) W1 _ rfl hlen)).step st1
theorem castore (n : Nat) (X : Stand p l e R s m args below meth c T locs cells slots) (hx : p.tables.exec = Jvm.exec) (hZ : Z.Warmed39 s.vm) (eT : T.heap = h) {a : Addr} {k : ClassId} {z j : Int32} {x : Int32} {vs : List Value} {dv : Value} {rest : List Value} (A : Arv Z h a k .char z vs dv) (hj : ¬ j < 0 ∧ j < z) (hlen : j.toNatClampNeg < vs.length) (hd : decode c.code pc = .ok (.castore, 1)) (hn : pc + 1 = n) (K : ∀ T' h', Stand p l e R s m args below meth c T' (locs ++ [⟨a, j.toNatClampNeg⟩]) cells slots → T'.heap = h' → Wr h h' a j.toNatClampNeg (.int (nar .char x)) → Arv Z h' a k .char z (vs.set j.toNatClampNeg (.int (nar .char x))) dv → Ends p.tables e below s Q C S (T'.setTop (mkF m n Ls (rest)))) : Ends p.tables e below s Q C S (T.setTop (mkF m pc Ls (.int x :: .int j :: .ref a :: rest))) := by
  subst hn
  obtain ⟨cl, Ar, q1, Sz, Nz, Hs, Gs⟩ := A
  obtain ⟨T1, h1, X1, e1, W1, st1⟩ := stC X hx hZ eT Ar (j := j) (inb_of Sz hj) (g := mkF m pc Ls (.int x :: .int j :: .ref a :: rest)) rfl rfl hd
  exact (K T1 h1 X1 e1 W1 (Arv.set Ar q1 Sz Nz Hs Gs (fits_nar_char _) W1 _ rfl hlen)).step st1
theorem newArr (n cap : Nat) (X : Stand p l e R s m args below meth c T locs cells slots) (hx : p.tables.exec = Jvm.exec) (hZ : Z.Warmed39 s.vm) {aty : ArrayType} (w : (Cond.arrayClass (newarray.typeOf aty)).before a0 Z = true) (eT : T.heap = h) {z : Int32} {rest : List Value} (hz : ¬ z < 0) (hcap : z.toNatClampNeg ≤ cap) (hb : cap * 8 ≤ 536870912) (hd : decode c.code pc = .ok (.newarray aty, 2)) (hn : pc + 2 = n) (hc : cells + 1 ≤ R.cells) (hl : slots + cap ≤ R.slots) (K : ∀ T' h' a k, a = h.size → Stand p l e R s m args below meth c T' locs (cells + 1) (slots + cap) → T'.heap = h' → Ext h h' → Arv Z h' a k (newarray.typeOf aty) z (List.replicate z.toNatClampNeg (defaultValue (newarray.typeOf aty))) (defaultValue (newarray.typeOf aty)) → Ends p.tables e below s Q C S (T'.setTop (mkF m n Ls (.ref a :: rest)))) : Ends p.tables e below s Q C S (T.setTop (mkF m pc Ls (.int z :: rest))) := by
  subst hn
  obtain ⟨T1, h1, k1, X1, e1, E1, A1, st1⟩ := newP X hx hZ w eT (g := mkF m pc Ls (.int z :: rest)) rfl hd rfl hz (cap := cap) hcap hb hc hl
  exact (K T1 h1 _ k1 rfl X1 e1 E1 ((Arv.new A1 hz).pad (pad_rep [] _ _))).step st1
theorem arrCopy (n W : Nat) (X : Stand p l e R s m args below meth c T locs cells slots) (hx : p.tables.exec = Jvm.exec) (hZ : Z.Warmed39 s.vm) {own : String} {index : Nat} (hown : s.vm.findClass own = some m.cls) (w1 : (Cond.methodLink own index Jvm.Stand.acN).before a0 Z = true) (w2 : (Cond.native Jvm.Stand.acN).before a0 Z = true) (w3 : (Cond.static Jvm.Stand.acN).before a0 Z = true) (w4 : (Cond.initialized "java/lang/System").before a0 Z = true) (eT : T.heap = h) {a b : Addr} {k k2 : ClassId} {ty : FieldType} {z z2 sp dp nn : Int32} {vs vd : List Value} {dv dd : Value} (A : Arv Z h a k ty z vs dv) (B : Arv Z h b k2 ty z2 vd dd) (hty : refKind ty = false) (h1 : ¬ sp < 0) (h2 : ¬ dp < 0) (h3 : ¬ nn < 0) (h4 : sp.toNatClampNeg + nn.toNatClampNeg ≤ z.toNatClampNeg) (h5 : dp.toNatClampNeg + nn.toNatClampNeg ≤ z2.toNatClampNeg) (hl : dp.toNatClampNeg + nn.toNatClampNeg ≤ vd.length) {n0 : Nat} (N : Fr n0 locs) (ge : n0 ≤ b) (hsz : Ls.size = c.maxLocals) {rest : List Value} (hd : decode c.code pc = .ok (.invokestatic index, 3)) (hn : pc + 3 = n) (hf : 1 ≤ R.frames) (hW : (rest.map fun v => v.category).sum ≤ W) (hlo : W + (nativeFrameWords "java/lang/System" "arraycopy" 5 + 11) ≤ R.locals) (K : ∀ T' h' L vs', Stand p l e R s m args below meth c T' L cells slots → T'.heap = h' → Fr n0 L → Keep h h' [b] → vs' = vd.take dp.toNatClampNeg ++ ((List.range nn.toNatClampNeg).map fun i => vs.getD (sp.toNatClampNeg + i) dv) ++ vd.drop (dp.toNatClampNeg + nn.toNatClampNeg) → vs'.length = vd.length → Arv Z h' b k2 ty z2 vs' dd → Ends p.tables e below s Q C S (T'.setTop (mkF m n Ls (rest)))) : Ends p.tables e below s Q C S (T.setTop (mkF m pc Ls (.int nn :: .int dp :: .ref b :: .int sp :: .ref a :: rest))) := by
  subst hn
  obtain ⟨T1, hh1, L1, X1, e1, N1, K1, V1, st1⟩ := cpA X hx hZ hown w1 w2 w3 w4 eT A B (Or.inl ⟨rfl, hty⟩) h1 h2 h3 h4 h5 rfl hl N ge (g := mkF m pc Ls (.int nn :: .int dp :: .ref b :: .int sp :: .ref a :: rest)) rfl hsz rfl hd hf (W := W) (by show 2 * 0 + _ ≤ _; omega) hlo
  exact (K T1 hh1 L1 _ X1 e1 N1 K1 rfl (by simp; omega) V1).step st1
/-- an array of this kind and length, whatever it holds -/
def Ax (Z : State) (h : Heap) (a : Addr) (ty : FieldType) (z : Int32) : Prop := ∃ (k : ClassId) (vs : List Value), vs.length = z.toNatClampNeg ∧ Arv Z h a k ty z vs (defaultValue ty)
theorem Ax.lt {a : Addr} {ty : FieldType} {z : Int32} (F : Ax Z h a ty z) : a < h.size := by obtain ⟨k, vs, -, A⟩ := F; exact A.lt
theorem Ax.ext {h' : Heap} {a : Addr} {ty : FieldType} {z : Int32} (F : Ax Z h a ty z) (E : Ext h h') : Ax Z h' a ty z := by obtain ⟨k, vs, q, A⟩ := F; exact ⟨k, vs, q, A.ext E⟩
theorem Ax.keep {h' : Heap} {a : Addr} {ty : FieldType} {z : Int32} {ws : List Addr} (F : Ax Z h a ty z) (K : Keep h h' ws) (q : a ∉ ws) : Ax Z h' a ty z := by obtain ⟨k, vs, r, A⟩ := F; exact ⟨k, vs, r, A.keep K q⟩
theorem Ax.other {h' : Heap} {a b : Addr} {sl : Nat} {v : Value} {ty : FieldType} {z : Int32} (F : Ax Z h a ty z) (W : Wr h h' b sl v) (q : a ≠ b) : Ax Z h' a ty z := by obtain ⟨k, vs, r, A⟩ := F; exact ⟨k, vs, r, A.other W q⟩
theorem Ax.nn {a : Addr} {ty : FieldType} {z : Int32} (F : Ax Z h a ty z) : ¬ z < 0 := by obtain ⟨k, vs, -, c, -, -, -, N, -⟩ := F; exact N
theorem axLen (n : Nat) (X : Stand p l e R s m args below meth c T locs cells slots) (hx : p.tables.exec = Jvm.exec) (hZ : Z.Warmed39 s.vm) (eT : T.heap = h) {a : Addr} {ty : FieldType} {z : Int32} {rest : List Value} (A : Ax Z h a ty z) (hd : decode c.code pc = .ok (.arraylength, 1)) (hn : pc + 1 = n) (K : Ends p.tables e below s Q C S (T.setTop (mkF m n Ls (.int z :: rest)))) : Ends p.tables e below s Q C S (T.setTop (mkF m pc Ls (.ref a :: rest))) := by
  obtain ⟨k, vs, -, A⟩ := A
  exact arrLen n X hx hZ eT A hd hn K
theorem axLoadI (n : Nat) (X : Stand p l e R s m args below meth c T locs cells slots) (hx : p.tables.exec = Jvm.exec) (hZ : Z.Warmed39 s.vm) (eT : T.heap = h) {a : Addr} {z j : Int32} {rest : List Value} (A : Ax Z h a .int z) (hj : ¬ j < 0 ∧ j < z) (hd : decode c.code pc = .ok (.iaload, 1)) (hn : pc + 1 = n) (K : ∀ v : Int32, Ends p.tables e below s Q C S (T.setTop (mkF m n Ls (.int v :: rest)))) : Ends p.tables e below s Q C S (T.setTop (mkF m pc Ls (.int j :: .ref a :: rest))) := by
  obtain ⟨k, vs, -, A⟩ := A
  have A1 := A
  obtain ⟨cl, Ar, -, Sz, Nz, Hs, Gs⟩ := A1
  have hin := inb_of Sz hj
  have G := Gs j.toNatClampNeg (Nat.lt_of_not_le fun y => hin (Or.inr y))
  obtain ⟨v, hv⟩ := fit_I G (Or.inl rfl)
  exact iaload n X hx hZ eT v A hj hv hd hn (K v)
theorem axLoadJ (n : Nat) (X : Stand p l e R s m args below meth c T locs cells slots) (hx : p.tables.exec = Jvm.exec) (hZ : Z.Warmed39 s.vm) (eT : T.heap = h) {a : Addr} {z j : Int32} {rest : List Value} (A : Ax Z h a .long z) (hj : ¬ j < 0 ∧ j < z) (hd : decode c.code pc = .ok (.laload, 1)) (hn : pc + 1 = n) (K : ∀ v : Int64, Ends p.tables e below s Q C S (T.setTop (mkF m n Ls (.long v :: rest)))) : Ends p.tables e below s Q C S (T.setTop (mkF m pc Ls (.int j :: .ref a :: rest))) := by
  obtain ⟨k, vs, -, A⟩ := A
  have A1 := A
  obtain ⟨cl, Ar, -, Sz, Nz, Hs, Gs⟩ := A1
  have hin := inb_of Sz hj
  have G := Gs j.toNatClampNeg (Nat.lt_of_not_le fun y => hin (Or.inr y))
  obtain ⟨v, hv⟩ := fit_J G
  exact laload n X hx hZ eT v A hj hv hd hn (K v)
theorem axLoadB (n : Nat) (X : Stand p l e R s m args below meth c T locs cells slots) (hx : p.tables.exec = Jvm.exec) (hZ : Z.Warmed39 s.vm) (eT : T.heap = h) {a : Addr} {z j : Int32} {rest : List Value} (A : Ax Z h a .byte z) (hj : ¬ j < 0 ∧ j < z) (hd : decode c.code pc = .ok (.baload, 1)) (hn : pc + 1 = n) (K : ∀ v : Int32, Ends p.tables e below s Q C S (T.setTop (mkF m n Ls (.int v :: rest)))) : Ends p.tables e below s Q C S (T.setTop (mkF m pc Ls (.int j :: .ref a :: rest))) := by
  obtain ⟨k, vs, -, A⟩ := A
  have A1 := A
  obtain ⟨cl, Ar, -, Sz, Nz, Hs, Gs⟩ := A1
  have hin := inb_of Sz hj
  have G := Gs j.toNatClampNeg (Nat.lt_of_not_le fun y => hin (Or.inr y))
  obtain ⟨v, hv⟩ := fit_I G (Or.inr (Or.inr (Or.inl rfl)))
  exact baload n X hx hZ eT v A hj hv hd hn (K v)
theorem axStoreI (n : Nat) (X : Stand p l e R s m args below meth c T locs cells slots) (hx : p.tables.exec = Jvm.exec) (hZ : Z.Warmed39 s.vm) (eT : T.heap = h) {a : Addr} {z j : Int32} {x : Int32} {rest : List Value} (A : Ax Z h a .int z) (hj : ¬ j < 0 ∧ j < z) (hd : decode c.code pc = .ok (.iastore, 1)) (hn : pc + 1 = n) (K : ∀ T' h', Stand p l e R s m args below meth c T' (locs ++ [⟨a, j.toNatClampNeg⟩]) cells slots → T'.heap = h' → Wr h h' a j.toNatClampNeg (.int x) → Ax Z h' a .int z → Ends p.tables e below s Q C S (T'.setTop (mkF m n Ls (rest)))) : Ends p.tables e below s Q C S (T.setTop (mkF m pc Ls (.int x :: .int j :: .ref a :: rest))) := by
  obtain ⟨k, vs, hl, A⟩ := A
  have hjz : j.toNatClampNeg < z.toNatClampNeg := by
    have h1 := nat_of hj.1
    have h2 := hj.2
    have h3 := nat_of (Ax.nn ⟨k, vs, hl, A⟩)
    rw [Int32.lt_iff_toInt_lt] at h2
    omega
  exact iastore n X hx hZ eT A hj (by rw [hl]; exact hjz) hd hn (fun T1 h1 X1 e1 W1 A1 => K T1 h1 X1 e1 W1 ⟨k, _, by rw [List.length_set, hl], A1⟩)
theorem axStoreJ (n : Nat) (X : Stand p l e R s m args below meth c T locs cells slots) (hx : p.tables.exec = Jvm.exec) (hZ : Z.Warmed39 s.vm) (eT : T.heap = h) {a : Addr} {z j : Int32} {x : Int64} {rest : List Value} (A : Ax Z h a .long z) (hj : ¬ j < 0 ∧ j < z) (hd : decode c.code pc = .ok (.lastore, 1)) (hn : pc + 1 = n) (K : ∀ T' h', Stand p l e R s m args below meth c T' (locs ++ [⟨a, j.toNatClampNeg⟩]) cells slots → T'.heap = h' → Wr h h' a j.toNatClampNeg (.long x) → Ax Z h' a .long z → Ends p.tables e below s Q C S (T'.setTop (mkF m n Ls (rest)))) : Ends p.tables e below s Q C S (T.setTop (mkF m pc Ls (.long x :: .int j :: .ref a :: rest))) := by
  obtain ⟨k, vs, hl, A⟩ := A
  have hjz : j.toNatClampNeg < z.toNatClampNeg := by
    have h1 := nat_of hj.1
    have h2 := hj.2
    have h3 := nat_of (Ax.nn ⟨k, vs, hl, A⟩)
    rw [Int32.lt_iff_toInt_lt] at h2
    omega
  exact lastore n X hx hZ eT A hj (by rw [hl]; exact hjz) hd hn (fun T1 h1 X1 e1 W1 A1 => K T1 h1 X1 e1 W1 ⟨k, _, by rw [List.length_set, hl], A1⟩)
theorem axStoreB (n : Nat) (X : Stand p l e R s m args below meth c T locs cells slots) (hx : p.tables.exec = Jvm.exec) (hZ : Z.Warmed39 s.vm) (eT : T.heap = h) {a : Addr} {z j : Int32} {x : Int32} {rest : List Value} (A : Ax Z h a .byte z) (hj : ¬ j < 0 ∧ j < z) (hd : decode c.code pc = .ok (.bastore, 1)) (hn : pc + 1 = n) (K : ∀ T' h', Stand p l e R s m args below meth c T' (locs ++ [⟨a, j.toNatClampNeg⟩]) cells slots → T'.heap = h' → Wr h h' a j.toNatClampNeg (.int x.toInt8.toInt32) → Ax Z h' a .byte z → Ends p.tables e below s Q C S (T'.setTop (mkF m n Ls (rest)))) : Ends p.tables e below s Q C S (T.setTop (mkF m pc Ls (.int x :: .int j :: .ref a :: rest))) := by
  obtain ⟨k, vs, hl, A⟩ := A
  have hjz : j.toNatClampNeg < z.toNatClampNeg := by
    have h1 := nat_of hj.1
    have h2 := hj.2
    have h3 := nat_of (Ax.nn ⟨k, vs, hl, A⟩)
    rw [Int32.lt_iff_toInt_lt] at h2
    omega
  exact bastore n X hx hZ eT A hj (by rw [hl]; exact hjz) hd hn (fun T1 h1 X1 e1 W1 A1 => K T1 h1 X1 e1 W1 ⟨k, _, by rw [List.length_set, hl], A1⟩)
theorem axNew (n cap : Nat) (X : Stand p l e R s m args below meth c T locs cells slots) (hx : p.tables.exec = Jvm.exec) (hZ : Z.Warmed39 s.vm) {aty : ArrayType} (w : (Cond.arrayClass (newarray.typeOf aty)).before a0 Z = true) (eT : T.heap = h) {z : Int32} {rest : List Value} (hz : ¬ z < 0) (hcap : z.toNatClampNeg ≤ cap) (hb : cap * 8 ≤ 536870912) (hd : decode c.code pc = .ok (.newarray aty, 2)) (hn : pc + 2 = n) (hc : cells + 1 ≤ R.cells) (hl : slots + cap ≤ R.slots) (K : ∀ T' h' a, a = h.size → Stand p l e R s m args below meth c T' locs (cells + 1) (slots + cap) → T'.heap = h' → Ext h h' → Ax Z h' a (newarray.typeOf aty) z → Ends p.tables e below s Q C S (T'.setTop (mkF m n Ls (.ref a :: rest)))) : Ends p.tables e below s Q C S (T.setTop (mkF m pc Ls (.int z :: rest))) :=
  newArr n cap X hx hZ w eT hz hcap hb hd hn hc hl (fun T1 h1 a k q X1 e1 E1 A1 => K T1 h1 a q X1 e1 E1 ⟨k, _, List.length_replicate, A1⟩)
theorem axCopy (n W : Nat) (X : Stand p l e R s m args below meth c T locs cells slots) (hx : p.tables.exec = Jvm.exec) (hZ : Z.Warmed39 s.vm) {own : String} {index : Nat} (hown : s.vm.findClass own = some m.cls) (w1 : (Cond.methodLink own index Jvm.Stand.acN).before a0 Z = true) (w2 : (Cond.native Jvm.Stand.acN).before a0 Z = true) (w3 : (Cond.static Jvm.Stand.acN).before a0 Z = true) (w4 : (Cond.initialized "java/lang/System").before a0 Z = true) (eT : T.heap = h) {a b : Addr} {ty : FieldType} {z z2 sp dp nn : Int32} (A : Ax Z h a ty z) (B : Ax Z h b ty z2) (hty : refKind ty = false) (h1 : ¬ sp < 0) (h2 : ¬ dp < 0) (h3 : ¬ nn < 0) (h4 : sp.toNatClampNeg + nn.toNatClampNeg ≤ z.toNatClampNeg) (h5 : dp.toNatClampNeg + nn.toNatClampNeg ≤ z2.toNatClampNeg) {n0 : Nat} (N : Fr n0 locs) (ge : n0 ≤ b) (hsz : Ls.size = c.maxLocals) {rest : List Value} (hd : decode c.code pc = .ok (.invokestatic index, 3)) (hn : pc + 3 = n) (hf : 1 ≤ R.frames) (hW : (rest.map fun v => v.category).sum ≤ W) (hlo : W + (nativeFrameWords "java/lang/System" "arraycopy" 5 + 11) ≤ R.locals) (K : ∀ T' h' L, Stand p l e R s m args below meth c T' L cells slots → T'.heap = h' → Fr n0 L → Keep h h' [b] → Ax Z h' b ty z2 → Ends p.tables e below s Q C S (T'.setTop (mkF m n Ls (rest)))) : Ends p.tables e below s Q C S (T.setTop (mkF m pc Ls (.int nn :: .int dp :: .ref b :: .int sp :: .ref a :: rest))) := by
  obtain ⟨k, vs, hl, A⟩ := A
  obtain ⟨k2, vd, hl2, B⟩ := B
  exact arrCopy n W X hx hZ hown w1 w2 w3 w4 eT A B hty h1 h2 h3 h4 h5 (by rw [hl2]; exact h5) N ge hsz hd hn hf hW hlo (fun T1 hh1 L1 vs1 X1 e1 N1 K1 _ q V1 => K T1 hh1 L1 X1 e1 N1 K1 ⟨k2, vs1, q.trans hl2, V1⟩)
end Walk
end Jvm.Own
namespace Jvm.Pilot.@@N@@
open Jvm Jvm.ClassFile Sem Op Lib Jvm.Free Jvm.Stand Jvm.LawKit Jvm.RoadKit Bundle Jvm.Pilot.@@N@@.Jvm.D
theorem pd_0 : parseMethodDescriptor "(II)I" = some ⟨[.int, .int], some .int⟩ := by decide +kernel
theorem pd_1 : parseMethodDescriptor "([JI)[J" = some ⟨[(.array .long), .int], some (.array .long)⟩ := by decide +kernel
theorem pd_2 : parseMethodDescriptor "([II)[I" = some ⟨[(.array .int), .int], some (.array .int)⟩ := by decide +kernel
theorem pd_3 : parseMethodDescriptor "()V" = some ⟨[], none⟩ := by decide +kernel
theorem pd_4 : parseMethodDescriptor "(I)V" = some ⟨[.int], none⟩ := by decide +kernel
theorem pd_5 : parseMethodDescriptor "()Z" = some ⟨[], some .boolean⟩ := by decide +kernel
theorem pd_6 : parseMethodDescriptor "(II)V" = some ⟨[.int, .int], none⟩ := by decide +kernel
theorem pd_7 : parseMethodDescriptor "()I" = some ⟨[], some .int⟩ := by decide +kernel

def own_DQ (Z : State) (h : Heap) (n0 : Nat) (a kb nb : Addr) (c sz : Int32) : Prop :=
  Exa Z h a "com/example/leveler/leveler/leveling/DistanceQueue" ∧ Fld Z h a "com/example/leveler/leveler/leveling/DistanceQueue" "keys" "[J" (.ref kb) ∧ Fld Z h a "com/example/leveler/leveler/leveling/DistanceQueue" "nodes" "[I" (.ref nb) ∧ Fld Z h a "com/example/leveler/leveler/leveling/DistanceQueue" "size" "I" (.int sz) ∧ (∃ ad : Int32, Fld Z h a "com/example/leveler/leveler/leveling/DistanceQueue" "added" "I" (.int ad)) ∧ (∃ st : Int64, Fld Z h a "com/example/leveler/leveler/leveling/DistanceQueue" "steps" "J" (.long st)) ∧ Own.Ax Z h kb .long c ∧ Own.Ax Z h nb .int c ∧ a ≠ kb ∧ a ≠ nb ∧ kb ≠ nb ∧ n0 ≤ a ∧ n0 ≤ kb ∧ n0 ≤ nb
theorem own_t0 : (0 : Int32).toInt = 0 := by decide
theorem own_t1 : (1 : Int32).toInt = 1 := by decide
theorem own_t2 : (2 : Int32).toInt = 2 := by decide
theorem own_t3 : (3 : Int32).toInt = 3 := by decide
theorem own_t4 : (4 : Int32).toInt = 4 := by decide
theorem own_ix {j c : Int32} (h1 : 0 ≤ j.toInt) (h2 : j.toInt < c.toInt) : ¬ j < 0 ∧ j < c := by
  rw [Int32.lt_iff_toInt_lt, Int32.lt_iff_toInt_lt, own_t0]; omega
theorem own_cl {x : Int32} (h : 0 ≤ x.toInt) : (x.toNatClampNeg : Int) = x.toInt := (nat_of (by rw [Int32.lt_iff_toInt_lt, own_t0]; omega)).symm
theorem own_nn {x : Int32} (h : 0 ≤ x.toInt) : ¬ x < 0 := by rw [Int32.lt_iff_toInt_lt, own_t0]; omega
theorem own_max (x : Int32) : 1 ≤ (if (1 : Int32) < (x &&& 3) - 1 then (x &&& 3) - 1 else 1).toInt ∧ (if (1 : Int32) < (x &&& 3) - 1 then (x &&& 3) - 1 else 1).toInt ≤ 2 := by
  have a := c_mask x 3 2 (by decide) (by decide)
  have b := c_isub (x &&& 3) 1
  have d := rng32 ((x &&& 3) - 1)
  rw [own_t1] at b
  split
  · rename_i q; rw [Int32.lt_iff_toInt_lt, own_t1] at q; omega
  · decide
theorem own_four (x : Int32) : x &&& 3 = 0 ∨ x &&& 3 = 1 ∨ x &&& 3 = 2 ∨ x &&& 3 = 3 := by
  have a := c_mask x 3 2 (by decide) (by decide)
  simp only [← Int32.toInt_inj, own_t0, own_t1, own_t2, own_t3]
  omega
theorem own_min (c x : Int32) (h : c.toInt ≤ x.toInt) : (if x < c then x else c) = c := by
  rw [if_neg]; rw [Int32.lt_iff_toInt_lt]; omega
theorem own_mn (y n : Int32) (h : n = 0 ∨ n = 1 ∨ n = 2 ∨ n = 3) : (if n < (y &&& 3) then n else (y &&& 3)).toInt ≤ n.toInt ∧ 0 ≤ (if n < (y &&& 3) then n else (y &&& 3)).toInt := by
  have a := c_mask y 3 2 (by decide) (by decide)
  split
  · rcases h with rfl | rfl | rfl | rfl <;> decide
  · rename_i q; rw [Int32.lt_iff_toInt_lt] at q; omega
theorem own_le0 {k : Int32} (h : k.toInt ≤ (0 : Int32).toInt ∧ 0 ≤ k.toInt) : k = 0 := by
  apply Int32.toInt_inj.mp; rw [own_t0] at *; omega
theorem own_le1 {k : Int32} (h : k.toInt ≤ (1 : Int32).toInt ∧ 0 ≤ k.toInt) : k = 0 ∨ k = 1 := by
  simp only [← Int32.toInt_inj, own_t0, own_t1] at *; omega
theorem own_le2 {k : Int32} (h : k.toInt ≤ (2 : Int32).toInt ∧ 0 ≤ k.toInt) : k = 0 ∨ k = 1 ∨ k = 2 := by
  simp only [← Int32.toInt_inj, own_t0, own_t1, own_t2] at *; omega
theorem own_le3 {k : Int32} (h : k.toInt ≤ (3 : Int32).toInt ∧ 0 ≤ k.toInt) : k = 0 ∨ k = 1 ∨ k = 2 ∨ k = 3 := by
  simp only [← Int32.toInt_inj, own_t0, own_t1, own_t2, own_t3] at *; omega

theorem d3_0 : decode jdk_29_method_65_code 0 = .ok (.iload_n 0, 1) := by decide +kernel
theorem d3_1 : decode jdk_29_method_65_code 1 = .ok (.iload_n 1, 1) := by decide +kernel
theorem d3_2 : decode jdk_29_method_65_code 2 = .ok (.if_icmp .lt 7, 3) := by decide +kernel
theorem d3_5 : decode jdk_29_method_65_code 5 = .ok (.iload_n 0, 1) := by decide +kernel
theorem d3_6 : decode jdk_29_method_65_code 6 = .ok (.goto 4, 3) := by decide +kernel
theorem d3_9 : decode jdk_29_method_65_code 9 = .ok (.iload_n 1, 1) := by decide +kernel
theorem d3_10 : decode jdk_29_method_65_code 10 = .ok (.ireturn, 1) := by decide +kernel
set_option maxRecDepth 65536 in
set_option maxHeartbeats 40000000 in
theorem m3 (l : Launch) (Z : State) (a0 : Array Value) (w : ∀ (i : Nat) {d : Jvm.Cond}, tables_1[i]? = some d → d.before a0 Z = true) (x0 : Int32) (x1 : Int32)  (h0 : Heap)  :
    Own.Met l Z (⟨"java/lang/Math", "max", "(II)I"⟩ : MethodName) jdk_29_method_65_code 2 (some .int) [] ({ frames := 0, cells := 0, slots := 0, locals := 0 } : Room) #[(.int x0), (.int x1)] h0 (fun v h L => v = some (.int (if x0 < x1 then x1 else x0)) ∧ h = h0 ∧ L = []) := by
  refine Own.Met.of (Jvm.Free.JP.mathPlain rfl (by decide +kernel)) ?_
  intro p e s m below meth c T0 hx hby hml hown hnm hret hlk hZ X0 e0
  have hown : s.vm.findClass "java/lang/Math" = some m.cls := hown
  have hml : c.maxLocals = 2 := hml
  have hnm : meth.name = "max" := hnm
  have ef : entryFrame m #[(.int x0), (.int x1)] 2 = mkF m 0 #[.val (.int x0), .val (.int x1)] [] := by first | (simp [entryFrame, mkF, argsToLocals, Value.category]; done) | rfl
  rw [ef]
  refine Own.iloadN 1 X0 hx (hb hby d3_0) rfl rfl ?_
  refine Own.iloadN 2 X0 hx (hb hby d3_1) rfl rfl ?_
  refine Own.icmp_lt 9 5 X0 hx (hb hby d3_2) (by decide) rfl (fun h1 => ?_) (fun h1 => ?_)
  ·
    refine Own.iloadN 10 X0 hx (hb hby d3_9) rfl rfl ?_
    refine Own.retInt X0 hx hlk hret (hb hby d3_10) (by decide) (by decide) ?_
    exact ⟨by rw [if_pos h1], e0, rfl⟩
  ·
    refine Own.iloadN 6 X0 hx (hb hby d3_5) rfl rfl ?_
    refine Own.goto 10 X0 hx (hb hby d3_6) (by decide) ?_
    refine Own.retInt X0 hx hlk hret (hb hby d3_10) (by decide) (by decide) ?_
    exact ⟨by rw [if_neg h1], e0, rfl⟩
theorem d6_0 : decode jdk_29_method_69_code 0 = .ok (.iload_n 0, 1) := by decide +kernel
theorem d6_1 : decode jdk_29_method_69_code 1 = .ok (.iload_n 1, 1) := by decide +kernel
theorem d6_2 : decode jdk_29_method_69_code 2 = .ok (.if_icmp .gt 7, 3) := by decide +kernel
theorem d6_5 : decode jdk_29_method_69_code 5 = .ok (.iload_n 0, 1) := by decide +kernel
theorem d6_6 : decode jdk_29_method_69_code 6 = .ok (.goto 4, 3) := by decide +kernel
theorem d6_9 : decode jdk_29_method_69_code 9 = .ok (.iload_n 1, 1) := by decide +kernel
theorem d6_10 : decode jdk_29_method_69_code 10 = .ok (.ireturn, 1) := by decide +kernel
set_option maxRecDepth 65536 in
set_option maxHeartbeats 40000000 in
theorem m6 (l : Launch) (Z : State) (a0 : Array Value) (w : ∀ (i : Nat) {d : Jvm.Cond}, tables_1[i]? = some d → d.before a0 Z = true) (x0 : Int32) (x1 : Int32)  (h0 : Heap)  :
    Own.Met l Z (⟨"java/lang/Math", "min", "(II)I"⟩ : MethodName) jdk_29_method_69_code 2 (some .int) [] ({ frames := 0, cells := 0, slots := 0, locals := 0 } : Room) #[(.int x0), (.int x1)] h0 (fun v h L => v = some (.int (if x1 < x0 then x1 else x0)) ∧ h = h0 ∧ L = []) := by
  refine Own.Met.of (Jvm.Free.JP.mathPlain rfl (by decide +kernel)) ?_
  intro p e s m below meth c T0 hx hby hml hown hnm hret hlk hZ X0 e0
  have hown : s.vm.findClass "java/lang/Math" = some m.cls := hown
  have hml : c.maxLocals = 2 := hml
  have hnm : meth.name = "min" := hnm
  have ef : entryFrame m #[(.int x0), (.int x1)] 2 = mkF m 0 #[.val (.int x0), .val (.int x1)] [] := by first | (simp [entryFrame, mkF, argsToLocals, Value.category]; done) | rfl
  rw [ef]
  refine Own.iloadN 1 X0 hx (hb hby d6_0) rfl rfl ?_
  refine Own.iloadN 2 X0 hx (hb hby d6_1) rfl rfl ?_
  refine Own.icmp_gt 9 5 X0 hx (hb hby d6_2) (by decide) rfl (fun h1 => ?_) (fun h1 => ?_)
  ·
    refine Own.iloadN 10 X0 hx (hb hby d6_9) rfl rfl ?_
    refine Own.retInt X0 hx hlk hret (hb hby d6_10) (by decide) (by decide) ?_
    exact ⟨by rw [if_pos h1], e0, rfl⟩
  ·
    refine Own.iloadN 6 X0 hx (hb hby d6_5) rfl rfl ?_
    refine Own.goto 10 X0 hx (hb hby d6_6) (by decide) ?_
    refine Own.retInt X0 hx hlk hret (hb hby d6_10) (by decide) (by decide) ?_
    exact ⟨by rw [if_neg h1], e0, rfl⟩
theorem d1_0 : decode prog_47_method_1_code 0 = .ok (.aload_n 0, 1) := by decide +kernel
theorem d1_1 : decode prog_47_method_1_code 1 = .ok (.invokespecial 1, 3) := by decide +kernel
theorem d1_4 : decode prog_47_method_1_code 4 = .ok (.aload_n 0, 1) := by decide +kernel
theorem d1_5 : decode prog_47_method_1_code 5 = .ok (.iconst 1, 1) := by decide +kernel
theorem d1_6 : decode prog_47_method_1_code 6 = .ok (.iload_n 1, 1) := by decide +kernel
theorem d1_7 : decode prog_47_method_1_code 7 = .ok (.invokestatic 7, 3) := by decide +kernel
theorem d1_10 : decode prog_47_method_1_code 10 = .ok (.newarray .long, 2) := by decide +kernel
theorem d1_12 : decode prog_47_method_1_code 12 = .ok (.putfield 13, 3) := by decide +kernel
theorem d1_15 : decode prog_47_method_1_code 15 = .ok (.aload_n 0, 1) := by decide +kernel
theorem d1_16 : decode prog_47_method_1_code 16 = .ok (.aload_n 0, 1) := by decide +kernel
theorem d1_17 : decode prog_47_method_1_code 17 = .ok (.getfield 13, 3) := by decide +kernel
theorem d1_20 : decode prog_47_method_1_code 20 = .ok (.arraylength, 1) := by decide +kernel
theorem d1_21 : decode prog_47_method_1_code 21 = .ok (.newarray .int, 2) := by decide +kernel
theorem d1_23 : decode prog_47_method_1_code 23 = .ok (.putfield 19, 3) := by decide +kernel
theorem d1_26 : decode prog_47_method_1_code 26 = .ok (.return_, 1) := by decide +kernel
set_option maxRecDepth 65536 in
set_option maxHeartbeats 40000000 in
theorem m1 (l : Launch) (Z : State) (a0 : Array Value) (w : ∀ (i : Nat) {d : Jvm.Cond}, tables_1[i]? = some d → d.before a0 Z = true) (a : Addr) (x2 : Int32) (x1 : Int32) (u1 u2 : Value) (n0 : Nat) (h0 : Heap) (hx1 : x2 = (x1 &&& 3) - 1) (Z0 : n0 ≤ h0.size) (E_a : Exa Z h0 a "com/example/leveler/leveler/leveling/DistanceQueue") (Fk : Fld Z h0 a "com/example/leveler/leveler/leveling/DistanceQueue" "keys" "[J" u1) (Fn : Fld Z h0 a "com/example/leveler/leveler/leveling/DistanceQueue" "nodes" "[I" u2) (Fs : Fld Z h0 a "com/example/leveler/leveler/leveling/DistanceQueue" "size" "I" (.int (0 : Int32))) (Fa : Fld Z h0 a "com/example/leveler/leveler/leveling/DistanceQueue" "added" "I" (.int (0 : Int32))) (Ft : Fld Z h0 a "com/example/leveler/leveler/leveling/DistanceQueue" "steps" "J" (.long (0 : Int64))) (g_a : n0 ≤ a) :
    Own.Met l Z (⟨"com/example/leveler/leveler/leveling/DistanceQueue", "<init>", "(I)V"⟩ : MethodName) prog_47_method_1_code 2 none [] ({ frames := 1, cells := 2, slots := 4, locals := 14 } : Room) #[(.ref a), (.int x2)] h0 (fun v h L => v = none ∧ Fr n0 L ∧ ∃ (kb nb : Addr) (c : Int32), own_DQ Z h n0 a kb nb c 0 ∧ 1 ≤ c.toInt ∧ c.toInt ≤ 2) := by
  refine Own.Met.of (plainFor_of_name (by first | (simp [plainName, overriddenIn]; done) | decide +kernel)) ?_
  intro p e s m below meth c T0 hx hby hml hown hnm hret hlk hZ X0 e0
  have hown : s.vm.findClass "com/example/leveler/leveler/leveling/DistanceQueue" = some m.cls := hown
  have hml : c.maxLocals = 2 := hml
  have hnm : meth.name = "<init>" := hnm
  have ef : entryFrame m #[(.ref a), (.int x2)] 2 = mkF m 0 #[.val (.ref a), .val (.int x2)] [] := by first | (simp [entryFrame, mkF, argsToLocals, Value.category]; done) | rfl
  rw [ef]
  have N0 := Fr.nil n0
  refine Own.aloadN 1 X0 hx (hb hby d1_0) rfl rfl rfl ?_
  refine Own.initObj 4 0 X0 hx hZ hown (w 6 rfl) (w 7 rfl) (w 8 rfl) e0 (by rw [hml]; rfl) (hb hby d1_1) rfl (by decide) (Nat.le_of_eq rfl) (by decide) ?_
  intro T1 X1 e1
  refine Own.aloadN 5 X1 hx (hb hby d1_4) rfl rfl rfl ?_
  refine Own.iconst 6 X1 hx ((1 : Int32)) (hb hby d1_5) rfl rfl ?_
  refine Own.iloadN 7 X1 hx (hb hby d1_6) rfl rfl ?_
  refine Own.callSt 10 1 [(.int (1 : Int32)), (.int x2)] [(.ref a)] X1 hx hZ hown (m3 l Z a0 w _ _ h0) (w 9 rfl) (w 10 rfl) (w 11 rfl) (w 12 rfl) (by decide) e1 (by decide) (by decide) (by decide) (by decide) (by rw [hml]; rfl) (lenOf pd_0 rfl) rfl (Nat.le_of_eq rfl) (hb hby d1_7) rfl ?_
  rintro vv T2 L2 X2 ⟨rfl, hh2, rfl⟩
  have N2 := Fr.app N0 (Fr.nil _)
  have hcc := own_max x1
  rw [← hx1] at hcc
  generalize (if (1 : Int32) < x2 then x2 else 1) = cc at *
  have hcl := own_cl (x := cc) (by omega)
  refine Own.axNew 12 2 X2 hx hZ (w 13 rfl) hh2 (own_nn (by omega)) (by omega) (by decide) (hb hby d1_10) rfl (by decide) (by decide) ?_
  intro T3 h3 kb z3 X3 e3 E3 A3
  have ne_a_kb : a ≠ kb := Nat.ne_of_lt (Nat.lt_of_lt_of_le E_a.lt (Nat.le_of_eq z3.symm))
  have g_kb : n0 ≤ kb := Nat.le_trans Z0 (Nat.le_of_eq z3.symm)
  have Ef_5 := E_a.ext E3
  have Ff_6 := Fk.ext E3
  have Ff_7 := Fn.ext E3
  have Ff_8 := Fs.ext E3
  have Ff_9 := Fa.ext E3
  have Ff_10 := Ft.ext E3
  have zl3 := Nat.le_trans Z0 E3.1
  have A_kb_3 : Own.Ax Z h3 kb .long cc := A3
  refine Own.putFld 15 X3 hx hZ hown (host := "") (Or.inl (w 14 rfl)) Via.refl e3 Ff_6 Ef_5 (Or.inl (w 15 rfl)) (w 1 rfl) (ty := (.array .long)) (by decide) rfl rfl (hb hby d1_12) rfl ?_
  intro T11 h11 X11 e11 W11
  have N11 := Fr.snoc X11 N2 g_a
  have Ef_13 := Ef_5.wr W11
  have Ff_14 := Ff_6.same W11
  have Ff_15 := Ff_7.other W11 (Or.inr (slot_ne (Or.inl (w 18 rfl)) (Or.inl (w 15 rfl)) (by decide) (t := (.array .int)) (t' := (.array .long)) (by decide) (by decide)))
  have Ff_16 := Ff_8.other W11 (Or.inr (slot_ne (Or.inl (w 25 rfl)) (Or.inl (w 15 rfl)) (by decide) (t := .int) (t' := (.array .long)) (by decide) (by decide)))
  have Ff_17 := Ff_9.other W11 (Or.inr (slot_ne (Or.inl (w 27 rfl)) (Or.inl (w 15 rfl)) (by decide) (t := .int) (t' := (.array .long)) (by decide) (by decide)))
  have Ff_18 := Ff_10.other W11 (Or.inr (slot_ne (Or.inl (w 29 rfl)) (Or.inl (w 15 rfl)) (by decide) (t := .long) (t' := (.array .long)) (by decide) (by decide)))
  have Af_19 := A_kb_3.other W11 (Ne.symm ne_a_kb)
  have zl11 := Nat.le_trans zl3 (Nat.le_of_eq W11.size.symm)
  refine Own.aloadN 16 X11 hx (hb hby d1_15) rfl rfl rfl ?_
  refine Own.aloadN 17 X11 hx (hb hby d1_16) rfl rfl rfl ?_
  refine Own.getFld 20 X11 hx hZ hown (host := "") (Or.inl (w 14 rfl)) Via.refl e11 Ff_14 (hb hby d1_17) rfl ?_
  intro T20 X20 e20
  refine Own.axLen 21 X20 hx hZ e20 Af_19 (hb hby d1_20) rfl ?_
  refine Own.axNew 23 2 X20 hx hZ (w 16 rfl) e20 (own_nn (by omega)) (by omega) (by decide) (hb hby d1_21) rfl (by decide) (by decide) ?_
  intro T21 h21 nb z21 X21 e21 E21 A21
  have ne_a_nb : a ≠ nb := Nat.ne_of_lt (Nat.lt_of_lt_of_le Ef_13.lt (Nat.le_of_eq z21.symm))
  have ne_kb_nb : kb ≠ nb := Nat.ne_of_lt (Nat.lt_of_lt_of_le Af_19.lt (Nat.le_of_eq z21.symm))
  have g_nb : n0 ≤ nb := Nat.le_trans zl11 (Nat.le_of_eq z21.symm)
  have Ef_23 := Ef_13.ext E21
  have Ff_24 := Ff_14.ext E21
  have Ff_25 := Ff_15.ext E21
  have Ff_26 := Ff_16.ext E21
  have Ff_27 := Ff_17.ext E21
  have Ff_28 := Ff_18.ext E21
  have Af_29 := Af_19.ext E21
  have zl21 := Nat.le_trans zl11 E21.1
  have A_nb_21 : Own.Ax Z h21 nb .int cc := A21
  refine Own.putFld 26 X21 hx hZ hown (host := "") (Or.inl (w 17 rfl)) Via.refl e21 Ff_25 Ef_23 (Or.inl (w 18 rfl)) (w 1 rfl) (ty := (.array .int)) (by decide) rfl rfl (hb hby d1_23) rfl ?_
  intro T30 h30 X30 e30 W30
  have N30 := Fr.snoc X30 N11 g_a
  have Ef_32 := Ef_23.wr W30
  have Ff_33 := Ff_24.other W30 (Or.inr (slot_ne (Or.inl (w 15 rfl)) (Or.inl (w 18 rfl)) (by decide) (t := (.array .long)) (t' := (.array .int)) (by decide) (by decide)))
  have Ff_34 := Ff_25.same W30
  have Ff_35 := Ff_26.other W30 (Or.inr (slot_ne (Or.inl (w 25 rfl)) (Or.inl (w 18 rfl)) (by decide) (t := .int) (t' := (.array .int)) (by decide) (by decide)))
  have Ff_36 := Ff_27.other W30 (Or.inr (slot_ne (Or.inl (w 27 rfl)) (Or.inl (w 18 rfl)) (by decide) (t := .int) (t' := (.array .int)) (by decide) (by decide)))
  have Ff_37 := Ff_28.other W30 (Or.inr (slot_ne (Or.inl (w 29 rfl)) (Or.inl (w 18 rfl)) (by decide) (t := .long) (t' := (.array .int)) (by decide) (by decide)))
  have Af_38 := Af_29.other W30 (Ne.symm ne_a_kb)
  have Af_39 := A_nb_21.other W30 (Ne.symm ne_a_nb)
  have zl30 := Nat.le_trans zl21 (Nat.le_of_eq W30.size.symm)
  refine Own.retVoid X30 hx hlk hret (hb hby d1_26) (by decide) (by decide) ?_
  rw [e30]
  exact ⟨rfl, N30, kb, nb, cc, ⟨Ef_32, Ff_33, Ff_34, Ff_35, ⟨_, Ff_36⟩, ⟨_, Ff_37⟩, Af_38, Af_39, ne_a_kb, ne_a_nb, ne_kb_nb, g_a, g_kb, g_nb⟩, hcc⟩
theorem d5_0 : decode jdk_65_method_124_code 0 = .ok (.iload_n 1, 1) := by decide +kernel
theorem d5_1 : decode jdk_65_method_124_code 1 = .ok (.aload_n 0, 1) := by decide +kernel
theorem d5_2 : decode jdk_65_method_124_code 2 = .ok (.arraylength, 1) := by decide +kernel
theorem d5_3 : decode jdk_65_method_124_code 3 = .ok (.if_icmp .ne 11, 3) := by decide +kernel
theorem d5_14 : decode jdk_65_method_124_code 14 = .ok (.iload_n 1, 1) := by decide +kernel
theorem d5_15 : decode jdk_65_method_124_code 15 = .ok (.newarray .long, 2) := by decide +kernel
theorem d5_17 : decode jdk_65_method_124_code 17 = .ok (.astore_n 2, 1) := by decide +kernel
theorem d5_18 : decode jdk_65_method_124_code 18 = .ok (.aload_n 0, 1) := by decide +kernel
theorem d5_19 : decode jdk_65_method_124_code 19 = .ok (.iconst 0, 1) := by decide +kernel
theorem d5_20 : decode jdk_65_method_124_code 20 = .ok (.aload_n 2, 1) := by decide +kernel
theorem d5_21 : decode jdk_65_method_124_code 21 = .ok (.iconst 0, 1) := by decide +kernel
theorem d5_22 : decode jdk_65_method_124_code 22 = .ok (.aload_n 0, 1) := by decide +kernel
theorem d5_23 : decode jdk_65_method_124_code 23 = .ok (.arraylength, 1) := by decide +kernel
theorem d5_24 : decode jdk_65_method_124_code 24 = .ok (.iload_n 1, 1) := by decide +kernel
theorem d5_25 : decode jdk_65_method_124_code 25 = .ok (.invokestatic 304, 3) := by decide +kernel
theorem d5_28 : decode jdk_65_method_124_code 28 = .ok (.invokestatic 150, 3) := by decide +kernel
theorem d5_31 : decode jdk_65_method_124_code 31 = .ok (.aload_n 2, 1) := by decide +kernel
theorem d5_32 : decode jdk_65_method_124_code 32 = .ok (.areturn, 1) := by decide +kernel
set_option maxRecDepth 65536 in
set_option maxHeartbeats 40000000 in
theorem m5 (l : Launch) (Z : State) (a0 : Array Value) (w : ∀ (i : Nat) {d : Jvm.Cond}, tables_1[i]? = some d → d.before a0 Z = true) (b : Addr) (x1 : Int32) (cp : Int32) (n0 : Nat) (h0 : Heap) (Z0 : n0 ≤ h0.size) (A_b : Own.Ax Z h0 b .long cp) (hc : 0 ≤ cp.toInt ∧ cp.toInt < x1.toInt ∧ x1.toInt ≤ 4) :
    Own.Met l Z (⟨"java/util/Arrays", "copyOf", "([JI)[J"⟩ : MethodName) jdk_65_method_124_code 3 (some (.array .long)) [] ({ frames := 1, cells := 1, slots := 4, locals := 18 } : Room) #[(.ref b), (.int x1)] h0 (fun v h L => ∃ r : Addr, v = some (.ref r) ∧ Fr n0 L ∧ Keep h0 h [] ∧ h0.size ≤ r ∧ n0 ≤ r ∧ Own.Ax Z h r .long x1) := by
  refine Own.Met.of (plainFor_of_name (by first | (simp [plainName, overriddenIn]; done) | decide +kernel)) ?_
  intro p e s m below meth c T0 hx hby hml hown hnm hret hlk hZ X0 e0
  have hown : s.vm.findClass "java/util/Arrays" = some m.cls := hown
  have hml : c.maxLocals = 3 := hml
  have hnm : meth.name = "copyOf" := hnm
  have ef : entryFrame m #[(.ref b), (.int x1)] 3 = mkF m 0 #[.val (.ref b), .val (.int x1), .unset] [] := by first | (simp [entryFrame, mkF, argsToLocals, Value.category]; done) | rfl
  rw [ef]
  have N0 := Fr.nil n0
  have hcl := own_cl (x := cp) (by omega)
  have hxl := own_cl (x := x1) (by omega)
  refine Own.iloadN 1 X0 hx (hb hby d5_0) rfl rfl ?_
  refine Own.aloadN 2 X0 hx (hb hby d5_1) rfl rfl rfl ?_
  refine Own.axLen 3 X0 hx hZ e0 A_b (hb hby d5_2) rfl ?_
  refine Own.icmp_ne 14 6 X0 hx (hb hby d5_3) (by decide) rfl (fun tk => ?_) (fun tk => absurd (congrArg Int32.toInt tk) (by omega))
  refine Own.iloadN 15 X0 hx (hb hby d5_14) rfl rfl ?_
  refine Own.axNew 17 4 X0 hx hZ (w 13 rfl) e0 (own_nn (by omega)) (by omega) (by decide) (hb hby d5_15) rfl (by decide) (by decide) ?_
  intro T1 h1 r z1 X1 e1 E1 A1
  have ne_b_r : b ≠ r := Nat.ne_of_lt (Nat.lt_of_lt_of_le A_b.lt (Nat.le_of_eq z1.symm))
  have g_r : n0 ≤ r := Nat.le_trans Z0 (Nat.le_of_eq z1.symm)
  have sz_r : h0.size ≤ r := Nat.le_trans (Keep.refl h0 []).1 (Nat.le_of_eq z1.symm)
  have K1 := (Keep.refl h0 []).ext E1
  have Af_3 := A_b.ext E1
  have zl1 := Nat.le_trans Z0 E1.1
  have A_r_1 : Own.Ax Z h1 r .long x1 := A1
  refine Own.astoreN 18 #[.val (.ref b), .val (.int x1), .val (.ref r)] X1 hx (hb hby d5_17) rfl rfl rfl ?_
  refine Own.aloadN 19 X1 hx (hb hby d5_18) rfl rfl rfl ?_
  refine Own.iconst 20 X1 hx ((0 : Int32)) (hb hby d5_19) rfl rfl ?_
  refine Own.aloadN 21 X1 hx (hb hby d5_20) rfl rfl rfl ?_
  refine Own.iconst 22 X1 hx ((0 : Int32)) (hb hby d5_21) rfl rfl ?_
  refine Own.aloadN 23 X1 hx (hb hby d5_22) rfl rfl rfl ?_
  refine Own.axLen 24 X1 hx hZ e1 Af_3 (hb hby d5_23) rfl ?_
  refine Own.iloadN 25 X1 hx (hb hby d5_24) rfl rfl ?_
  refine Own.callSt 28 4 [(.int cp), (.int x1)] [(.int (0 : Int32)), (.ref r), (.int (0 : Int32)), (.ref b)] X1 hx hZ hown (m6 l Z a0 w _ _ _) (w 34 rfl) (w 35 rfl) (w 11 rfl) (w 36 rfl) (by decide) e1 (by decide) (by decide) (by decide) (by decide) (by rw [hml]; rfl) (lenOf pd_0 rfl) rfl (Nat.le_of_eq rfl) (hb hby d5_25) rfl ?_
  rintro vv T4 L4 X4 ⟨rfl, hh4, rfl⟩
  have N4 := Fr.app N0 (Fr.nil _)
  rw [own_min cp x1 (by omega)]
  show Own.Ends p.tables e below s _ _ _ (T4.setTop (mkF m 28 #[.val (.ref b), .val (.int x1), .val (.ref r)] [(.int cp), (.int (0 : Int32)), (.ref r), (.int (0 : Int32)), (.ref b)]))
  refine Own.axCopy 31 0 X4 hx hZ hown (w 37 rfl) (w 40 rfl) (w 38 rfl) (w 39 rfl) hh4 Af_3 A_r_1 rfl (by decide) (by decide) (own_nn (by omega)) (by show 0 + _ ≤ _; omega) (by show 0 + _ ≤ _; omega) N4 g_r (by rw [hml]; rfl) (hb hby d5_28) rfl (by decide) (Nat.le_of_eq rfl) (by decide) ?_
  intro T5 h5 L5 X5 e5 N5 K5 A5
  have Af_7 := Af_3.keep K5 (ninS ne_b_r nin0)
  have KK5 := K1.trans K5 (allS (Or.inr sz_r) all0)
  have zl5 := Nat.le_trans zl1 K5.1
  refine Own.aloadN 32 X5 hx (hb hby d5_31) rfl rfl rfl ?_
  refine Own.retRef X5 hx hlk rfl hret rfl (hb hby d5_32) (by decide) (by decide) ?_
  rw [e5]
  exact ⟨r, rfl, N5, KK5, sz_r, g_r, A5⟩
theorem d7_0 : decode jdk_65_method_123_code 0 = .ok (.iload_n 1, 1) := by decide +kernel
theorem d7_1 : decode jdk_65_method_123_code 1 = .ok (.aload_n 0, 1) := by decide +kernel
theorem d7_2 : decode jdk_65_method_123_code 2 = .ok (.arraylength, 1) := by decide +kernel
theorem d7_3 : decode jdk_65_method_123_code 3 = .ok (.if_icmp .ne 11, 3) := by decide +kernel
theorem d7_14 : decode jdk_65_method_123_code 14 = .ok (.iload_n 1, 1) := by decide +kernel
theorem d7_15 : decode jdk_65_method_123_code 15 = .ok (.newarray .int, 2) := by decide +kernel
theorem d7_17 : decode jdk_65_method_123_code 17 = .ok (.astore_n 2, 1) := by decide +kernel
theorem d7_18 : decode jdk_65_method_123_code 18 = .ok (.aload_n 0, 1) := by decide +kernel
theorem d7_19 : decode jdk_65_method_123_code 19 = .ok (.iconst 0, 1) := by decide +kernel
theorem d7_20 : decode jdk_65_method_123_code 20 = .ok (.aload_n 2, 1) := by decide +kernel
theorem d7_21 : decode jdk_65_method_123_code 21 = .ok (.iconst 0, 1) := by decide +kernel
theorem d7_22 : decode jdk_65_method_123_code 22 = .ok (.aload_n 0, 1) := by decide +kernel
theorem d7_23 : decode jdk_65_method_123_code 23 = .ok (.arraylength, 1) := by decide +kernel
theorem d7_24 : decode jdk_65_method_123_code 24 = .ok (.iload_n 1, 1) := by decide +kernel
theorem d7_25 : decode jdk_65_method_123_code 25 = .ok (.invokestatic 304, 3) := by decide +kernel
theorem d7_28 : decode jdk_65_method_123_code 28 = .ok (.invokestatic 150, 3) := by decide +kernel
theorem d7_31 : decode jdk_65_method_123_code 31 = .ok (.aload_n 2, 1) := by decide +kernel
theorem d7_32 : decode jdk_65_method_123_code 32 = .ok (.areturn, 1) := by decide +kernel
set_option maxRecDepth 65536 in
set_option maxHeartbeats 40000000 in
theorem m7 (l : Launch) (Z : State) (a0 : Array Value) (w : ∀ (i : Nat) {d : Jvm.Cond}, tables_1[i]? = some d → d.before a0 Z = true) (b : Addr) (x1 : Int32) (cp : Int32) (n0 : Nat) (h0 : Heap) (Z0 : n0 ≤ h0.size) (A_b : Own.Ax Z h0 b .int cp) (hc : 0 ≤ cp.toInt ∧ cp.toInt < x1.toInt ∧ x1.toInt ≤ 4) :
    Own.Met l Z (⟨"java/util/Arrays", "copyOf", "([II)[I"⟩ : MethodName) jdk_65_method_123_code 3 (some (.array .int)) [] ({ frames := 1, cells := 1, slots := 4, locals := 18 } : Room) #[(.ref b), (.int x1)] h0 (fun v h L => ∃ r : Addr, v = some (.ref r) ∧ Fr n0 L ∧ Keep h0 h [] ∧ h0.size ≤ r ∧ n0 ≤ r ∧ Own.Ax Z h r .int x1) := by
  refine Own.Met.of (plainFor_of_name (by first | (simp [plainName, overriddenIn]; done) | decide +kernel)) ?_
  intro p e s m below meth c T0 hx hby hml hown hnm hret hlk hZ X0 e0
  have hown : s.vm.findClass "java/util/Arrays" = some m.cls := hown
  have hml : c.maxLocals = 3 := hml
  have hnm : meth.name = "copyOf" := hnm
  have ef : entryFrame m #[(.ref b), (.int x1)] 3 = mkF m 0 #[.val (.ref b), .val (.int x1), .unset] [] := by first | (simp [entryFrame, mkF, argsToLocals, Value.category]; done) | rfl
  rw [ef]
  have N0 := Fr.nil n0
  have hcl := own_cl (x := cp) (by omega)
  have hxl := own_cl (x := x1) (by omega)
  refine Own.iloadN 1 X0 hx (hb hby d7_0) rfl rfl ?_
  refine Own.aloadN 2 X0 hx (hb hby d7_1) rfl rfl rfl ?_
  refine Own.axLen 3 X0 hx hZ e0 A_b (hb hby d7_2) rfl ?_
  refine Own.icmp_ne 14 6 X0 hx (hb hby d7_3) (by decide) rfl (fun tk => ?_) (fun tk => absurd (congrArg Int32.toInt tk) (by omega))
  refine Own.iloadN 15 X0 hx (hb hby d7_14) rfl rfl ?_
  refine Own.axNew 17 4 X0 hx hZ (w 16 rfl) e0 (own_nn (by omega)) (by omega) (by decide) (hb hby d7_15) rfl (by decide) (by decide) ?_
  intro T1 h1 r z1 X1 e1 E1 A1
  have ne_b_r : b ≠ r := Nat.ne_of_lt (Nat.lt_of_lt_of_le A_b.lt (Nat.le_of_eq z1.symm))
  have g_r : n0 ≤ r := Nat.le_trans Z0 (Nat.le_of_eq z1.symm)
  have sz_r : h0.size ≤ r := Nat.le_trans (Keep.refl h0 []).1 (Nat.le_of_eq z1.symm)
  have K1 := (Keep.refl h0 []).ext E1
  have Af_3 := A_b.ext E1
  have zl1 := Nat.le_trans Z0 E1.1
  have A_r_1 : Own.Ax Z h1 r .int x1 := A1
  refine Own.astoreN 18 #[.val (.ref b), .val (.int x1), .val (.ref r)] X1 hx (hb hby d7_17) rfl rfl rfl ?_
  refine Own.aloadN 19 X1 hx (hb hby d7_18) rfl rfl rfl ?_
  refine Own.iconst 20 X1 hx ((0 : Int32)) (hb hby d7_19) rfl rfl ?_
  refine Own.aloadN 21 X1 hx (hb hby d7_20) rfl rfl rfl ?_
  refine Own.iconst 22 X1 hx ((0 : Int32)) (hb hby d7_21) rfl rfl ?_
  refine Own.aloadN 23 X1 hx (hb hby d7_22) rfl rfl rfl ?_
  refine Own.axLen 24 X1 hx hZ e1 Af_3 (hb hby d7_23) rfl ?_
  refine Own.iloadN 25 X1 hx (hb hby d7_24) rfl rfl ?_
  refine Own.callSt 28 4 [(.int cp), (.int x1)] [(.int (0 : Int32)), (.ref r), (.int (0 : Int32)), (.ref b)] X1 hx hZ hown (m6 l Z a0 w _ _ _) (w 34 rfl) (w 35 rfl) (w 11 rfl) (w 36 rfl) (by decide) e1 (by decide) (by decide) (by decide) (by decide) (by rw [hml]; rfl) (lenOf pd_0 rfl) rfl (Nat.le_of_eq rfl) (hb hby d7_25) rfl ?_
  rintro vv T4 L4 X4 ⟨rfl, hh4, rfl⟩
  have N4 := Fr.app N0 (Fr.nil _)
  rw [own_min cp x1 (by omega)]
  show Own.Ends p.tables e below s _ _ _ (T4.setTop (mkF m 28 #[.val (.ref b), .val (.int x1), .val (.ref r)] [(.int cp), (.int (0 : Int32)), (.ref r), (.int (0 : Int32)), (.ref b)]))
  refine Own.axCopy 31 0 X4 hx hZ hown (w 37 rfl) (w 40 rfl) (w 38 rfl) (w 39 rfl) hh4 Af_3 A_r_1 rfl (by decide) (by decide) (own_nn (by omega)) (by show 0 + _ ≤ _; omega) (by show 0 + _ ≤ _; omega) N4 g_r (by rw [hml]; rfl) (hb hby d7_28) rfl (by decide) (Nat.le_of_eq rfl) (by decide) ?_
  intro T5 h5 L5 X5 e5 N5 K5 A5
  have Af_7 := Af_3.keep K5 (ninS ne_b_r nin0)
  have KK5 := K1.trans K5 (allS (Or.inr sz_r) all0)
  have zl5 := Nat.le_trans zl1 K5.1
  refine Own.aloadN 32 X5 hx (hb hby d7_31) rfl rfl rfl ?_
  refine Own.retRef X5 hx hlk rfl hret rfl (hb hby d7_32) (by decide) (by decide) ?_
  rw [e5]
  exact ⟨r, rfl, N5, KK5, sz_r, g_r, A5⟩
theorem d4_0 : decode prog_47_method_5_code 0 = .ok (.aload_n 0, 1) := by decide +kernel
theorem d4_1 : decode prog_47_method_5_code 1 = .ok (.getfield 23, 3) := by decide +kernel
theorem d4_4 : decode prog_47_method_5_code 4 = .ok (.aload_n 0, 1) := by decide +kernel
theorem d4_5 : decode prog_47_method_5_code 5 = .ok (.getfield 13, 3) := by decide +kernel
theorem d4_8 : decode prog_47_method_5_code 8 = .ok (.arraylength, 1) := by decide +kernel
theorem d4_9 : decode prog_47_method_5_code 9 = .ok (.if_icmp .ne 37, 3) := by decide +kernel
theorem d4_46 : decode prog_47_method_5_code 46 = .ok (.iload_n 2, 1) := by decide +kernel
theorem d4_47 : decode prog_47_method_5_code 47 = .ok (.i2l, 1) := by decide +kernel
theorem d4_48 : decode prog_47_method_5_code 48 = .ok (.bipush 32, 2) := by decide +kernel
theorem d4_50 : decode prog_47_method_5_code 50 = .ok (.lshl, 1) := by decide +kernel
theorem d4_51 : decode prog_47_method_5_code 51 = .ok (.aload_n 0, 1) := by decide +kernel
theorem d4_52 : decode prog_47_method_5_code 52 = .ok (.dup, 1) := by decide +kernel
theorem d4_53 : decode prog_47_method_5_code 53 = .ok (.getfield 27, 3) := by decide +kernel
theorem d4_56 : decode prog_47_method_5_code 56 = .ok (.dup_x1, 1) := by decide +kernel
theorem d4_57 : decode prog_47_method_5_code 57 = .ok (.iconst 1, 1) := by decide +kernel
theorem d4_58 : decode prog_47_method_5_code 58 = .ok (.iadd, 1) := by decide +kernel
theorem d4_59 : decode prog_47_method_5_code 59 = .ok (.putfield 27, 3) := by decide +kernel
theorem d4_62 : decode prog_47_method_5_code 62 = .ok (.i2l, 1) := by decide +kernel
theorem d4_63 : decode prog_47_method_5_code 63 = .ok (.lor, 1) := by decide +kernel
theorem d4_64 : decode prog_47_method_5_code 64 = .ok (.lstore_n 3, 1) := by decide +kernel
theorem d4_65 : decode prog_47_method_5_code 65 = .ok (.aload_n 0, 1) := by decide +kernel
theorem d4_66 : decode prog_47_method_5_code 66 = .ok (.dup, 1) := by decide +kernel
theorem d4_67 : decode prog_47_method_5_code 67 = .ok (.getfield 30, 3) := by decide +kernel
theorem d4_70 : decode prog_47_method_5_code 70 = .ok (.lconst 1, 1) := by decide +kernel
theorem d4_71 : decode prog_47_method_5_code 71 = .ok (.ladd, 1) := by decide +kernel
theorem d4_72 : decode prog_47_method_5_code 72 = .ok (.putfield 30, 3) := by decide +kernel
theorem d4_75 : decode prog_47_method_5_code 75 = .ok (.aload_n 0, 1) := by decide +kernel
theorem d4_76 : decode prog_47_method_5_code 76 = .ok (.dup, 1) := by decide +kernel
theorem d4_77 : decode prog_47_method_5_code 77 = .ok (.getfield 23, 3) := by decide +kernel
theorem d4_80 : decode prog_47_method_5_code 80 = .ok (.dup_x1, 1) := by decide +kernel
theorem d4_81 : decode prog_47_method_5_code 81 = .ok (.iconst 1, 1) := by decide +kernel
theorem d4_82 : decode prog_47_method_5_code 82 = .ok (.iadd, 1) := by decide +kernel
theorem d4_83 : decode prog_47_method_5_code 83 = .ok (.putfield 23, 3) := by decide +kernel
theorem d4_86 : decode prog_47_method_5_code 86 = .ok (.istore 5, 2) := by decide +kernel
theorem d4_88 : decode prog_47_method_5_code 88 = .ok (.iload 5, 2) := by decide +kernel
theorem d4_90 : decode prog_47_method_5_code 90 = .ok (.ifCond .le 76, 3) := by decide +kernel
theorem d4_166 : decode prog_47_method_5_code 166 = .ok (.aload_n 0, 1) := by decide +kernel
theorem d4_167 : decode prog_47_method_5_code 167 = .ok (.getfield 13, 3) := by decide +kernel
theorem d4_170 : decode prog_47_method_5_code 170 = .ok (.iload 5, 2) := by decide +kernel
theorem d4_172 : decode prog_47_method_5_code 172 = .ok (.lload_n 3, 1) := by decide +kernel
theorem d4_173 : decode prog_47_method_5_code 173 = .ok (.lastore, 1) := by decide +kernel
theorem d4_174 : decode prog_47_method_5_code 174 = .ok (.aload_n 0, 1) := by decide +kernel
theorem d4_175 : decode prog_47_method_5_code 175 = .ok (.getfield 19, 3) := by decide +kernel
theorem d4_178 : decode prog_47_method_5_code 178 = .ok (.iload 5, 2) := by decide +kernel
theorem d4_180 : decode prog_47_method_5_code 180 = .ok (.iload_n 1, 1) := by decide +kernel
theorem d4_181 : decode prog_47_method_5_code 181 = .ok (.iastore, 1) := by decide +kernel
theorem d4_182 : decode prog_47_method_5_code 182 = .ok (.return_, 1) := by decide +kernel
set_option maxRecDepth 65536 in
set_option maxHeartbeats 40000000 in
theorem m4_0 (l : Launch) (Z : State) (a0 : Array Value) (w : ∀ (i : Nat) {d : Jvm.Cond}, tables_1[i]? = some d → d.before a0 Z = true) (a : Addr) (x1 : Int32) (x2 : Int32) (kb nb : Addr) (cp : Int32) (n0 : Nat) (h0 : Heap) (D : own_DQ Z h0 n0 a kb nb cp (0 : Int32)) (hc : 1 ≤ cp.toInt ∧ cp.toInt ≤ 2) :
    Own.Met l Z (⟨"com/example/leveler/leveler/leveling/DistanceQueue", "add", "(II)V"⟩ : MethodName) prog_47_method_5_code 6 none [] ({ frames := 0, cells := 0, slots := 0, locals := 0 } : Room) #[(.ref a), (.int x1), (.int x2)] h0 (fun v h L => v = none ∧ Fr n0 L ∧ ∃ (kb nb : Addr) (c : Int32), own_DQ Z h n0 a kb nb c (1 : Int32) ∧ 1 ≤ c.toInt ∧ c.toInt ≤ 2) := by
  refine Own.Met.of (plainFor_of_name (by first | (simp [plainName, overriddenIn]; done) | decide +kernel)) ?_
  intro p e s m below meth c T0 hx hby hml hown hnm hret hlk hZ X0 e0
  have hown : s.vm.findClass "com/example/leveler/leveler/leveling/DistanceQueue" = some m.cls := hown
  have hml : c.maxLocals = 6 := hml
  have hnm : meth.name = "add" := hnm
  have ef : entryFrame m #[(.ref a), (.int x1), (.int x2)] 6 = mkF m 0 #[.val (.ref a), .val (.int x1), .val (.int x2), .unset, .unset, .unset] [] := by first | (simp [entryFrame, mkF, argsToLocals, Value.category]; done) | rfl
  rw [ef]
  obtain ⟨E_a, Fk, Fn, Fs, ⟨ad, Fa⟩, ⟨st, Ft⟩, Ak, An, n1, n2, n3, g_a, g_k, g_n⟩ := D
  have N0 := Fr.nil n0
  have Z0 : n0 ≤ h0.size := Nat.le_trans g_a (Nat.le_of_lt E_a.lt)
  refine Own.aloadN 1 X0 hx (hb hby d4_0) rfl rfl rfl ?_
  refine Own.getFld 4 X0 hx hZ hown (host := "") (Or.inl (w 24 rfl)) Via.refl e0 Fs (hb hby d4_1) rfl ?_
  intro T1 X1 e1
  refine Own.aloadN 5 X1 hx (hb hby d4_4) rfl rfl rfl ?_
  refine Own.getFld 8 X1 hx hZ hown (host := "") (Or.inl (w 14 rfl)) Via.refl e1 Fk (hb hby d4_5) rfl ?_
  intro T2 X2 e2
  refine Own.axLen 9 X2 hx hZ e2 Ak (hb hby d4_8) rfl ?_
  refine Own.icmp_ne 46 12 X2 hx (hb hby d4_9) (by decide) rfl (fun tk => ?_) (fun tk => absurd (congrArg Int32.toInt tk) (by rw [own_t0]; omega))
  refine Own.iloadN 47 X2 hx (hb hby d4_46) rfl rfl ?_
  refine Own.i2l 48 X2 hx (hb hby d4_47) rfl rfl ?_
  refine Own.bipush 50 X2 hx ((32 : Int32)) (hb hby d4_48) rfl rfl ?_
  refine Own.lshl 51 X2 hx (hb hby d4_50) rfl rfl ?_
  refine Own.aloadN 52 X2 hx (hb hby d4_51) rfl rfl rfl ?_
  refine Own.dup 53 X2 hx (hb hby d4_52) rfl rfl ?_
  refine Own.getFld 56 X2 hx hZ hown (host := "") (Or.inl (w 26 rfl)) Via.refl e2 Fa (hb hby d4_53) rfl ?_
  intro T3 X3 e3
  refine Own.dupX1 57 X3 hx (hb hby d4_56) rfl rfl rfl ?_
  refine Own.iconst 58 X3 hx ((1 : Int32)) (hb hby d4_57) rfl rfl ?_
  refine Own.iadd 59 X3 hx (hb hby d4_58) rfl rfl ?_
  refine Own.putFld 62 X3 hx hZ hown (host := "") (Or.inl (w 26 rfl)) Via.refl e3 Fa E_a (Or.inl (w 27 rfl)) (w 1 rfl) (ty := .int) (by decide) rfl rfl (hb hby d4_59) rfl ?_
  intro T4 h4 X4 e4 W4
  have N4 := Fr.snoc X4 N0 g_a
  have Ef_6 := E_a.wr W4
  have Ff_7 := Fk.other W4 (Or.inr (slot_ne (Or.inl (w 15 rfl)) (Or.inl (w 27 rfl)) (by decide) (t := (.array .long)) (t' := .int) (by decide) (by decide)))
  have Ff_8 := Fn.other W4 (Or.inr (slot_ne (Or.inl (w 18 rfl)) (Or.inl (w 27 rfl)) (by decide) (t := (.array .int)) (t' := .int) (by decide) (by decide)))
  have Ff_9 := Fs.other W4 (Or.inr (slot_ne (Or.inl (w 25 rfl)) (Or.inl (w 27 rfl)) (by decide) (t := .int) (t' := .int) (by decide) (by decide)))
  have Ff_10 := Fa.same W4
  have Ff_11 := Ft.other W4 (Or.inr (slot_ne (Or.inl (w 29 rfl)) (Or.inl (w 27 rfl)) (by decide) (t := .long) (t' := .int) (by decide) (by decide)))
  have Af_12 := Ak.other W4 (Ne.symm n1)
  have Af_13 := An.other W4 (Ne.symm n2)
  have zl4 := Nat.le_trans Z0 (Nat.le_of_eq W4.size.symm)
  refine Own.i2l 63 X4 hx (hb hby d4_62) rfl rfl ?_
  refine Own.lor 64 X4 hx (hb hby d4_63) rfl rfl ?_
  refine Own.lstoreN 65 (fun key => #[.val (.ref a), .val (.int x1), .val (.int x2), .val (.long key), .second, .unset]) X4 hx (hb hby d4_64) rfl (fun _ => rfl) fun key hkey => ?_
  refine Own.aloadN 66 X4 hx (hb hby d4_65) rfl rfl rfl ?_
  refine Own.dup 67 X4 hx (hb hby d4_66) rfl rfl ?_
  refine Own.getFld 70 X4 hx hZ hown (host := "") (Or.inl (w 28 rfl)) Via.refl e4 Ff_11 (hb hby d4_67) rfl ?_
  intro T14 X14 e14
  refine Own.lconst 71 X14 hx ((1 : Int64)) (hb hby d4_70) rfl rfl ?_
  refine Own.ladd 72 X14 hx (hb hby d4_71) rfl rfl ?_
  refine Own.putFld 75 X14 hx hZ hown (host := "") (Or.inl (w 28 rfl)) Via.refl e14 Ff_11 Ef_6 (Or.inl (w 29 rfl)) (w 1 rfl) (ty := .long) (by decide) rfl rfl (hb hby d4_72) rfl ?_
  intro T15 h15 X15 e15 W15
  have N15 := Fr.snoc X15 N4 g_a
  have Ef_17 := Ef_6.wr W15
  have Ff_18 := Ff_7.other W15 (Or.inr (slot_ne (Or.inl (w 15 rfl)) (Or.inl (w 29 rfl)) (by decide) (t := (.array .long)) (t' := .long) (by decide) (by decide)))
  have Ff_19 := Ff_8.other W15 (Or.inr (slot_ne (Or.inl (w 18 rfl)) (Or.inl (w 29 rfl)) (by decide) (t := (.array .int)) (t' := .long) (by decide) (by decide)))
  have Ff_20 := Ff_9.other W15 (Or.inr (slot_ne (Or.inl (w 25 rfl)) (Or.inl (w 29 rfl)) (by decide) (t := .int) (t' := .long) (by decide) (by decide)))
  have Ff_21 := Ff_10.other W15 (Or.inr (slot_ne (Or.inl (w 27 rfl)) (Or.inl (w 29 rfl)) (by decide) (t := .int) (t' := .long) (by decide) (by decide)))
  have Ff_22 := Ff_11.same W15
  have Af_23 := Af_12.other W15 (Ne.symm n1)
  have Af_24 := Af_13.other W15 (Ne.symm n2)
  have zl15 := Nat.le_trans zl4 (Nat.le_of_eq W15.size.symm)
  refine Own.aloadN 76 X15 hx (hb hby d4_75) rfl rfl rfl ?_
  refine Own.dup 77 X15 hx (hb hby d4_76) rfl rfl ?_
  refine Own.getFld 80 X15 hx hZ hown (host := "") (Or.inl (w 24 rfl)) Via.refl e15 Ff_20 (hb hby d4_77) rfl ?_
  intro T25 X25 e25
  refine Own.dupX1 81 X25 hx (hb hby d4_80) rfl rfl rfl ?_
  refine Own.iconst 82 X25 hx ((1 : Int32)) (hb hby d4_81) rfl rfl ?_
  refine Own.iadd 83 X25 hx (hb hby d4_82) rfl (show ((0 : Int32) + (1 : Int32)) = (1 : Int32) by decide) ?_
  refine Own.putFld 86 X25 hx hZ hown (host := "") (Or.inl (w 24 rfl)) Via.refl e25 Ff_20 Ef_17 (Or.inl (w 25 rfl)) (w 1 rfl) (ty := .int) (by decide) rfl rfl (hb hby d4_83) rfl ?_
  intro T26 h26 X26 e26 W26
  have N26 := Fr.snoc X26 N15 g_a
  have Ef_28 := Ef_17.wr W26
  have Ff_29 := Ff_18.other W26 (Or.inr (slot_ne (Or.inl (w 15 rfl)) (Or.inl (w 25 rfl)) (by decide) (t := (.array .long)) (t' := .int) (by decide) (by decide)))
  have Ff_30 := Ff_19.other W26 (Or.inr (slot_ne (Or.inl (w 18 rfl)) (Or.inl (w 25 rfl)) (by decide) (t := (.array .int)) (t' := .int) (by decide) (by decide)))
  have Ff_31 := Ff_20.same W26
  have Ff_32 := Ff_21.other W26 (Or.inr (slot_ne (Or.inl (w 27 rfl)) (Or.inl (w 25 rfl)) (by decide) (t := .int) (t' := .int) (by decide) (by decide)))
  have Ff_33 := Ff_22.other W26 (Or.inr (slot_ne (Or.inl (w 29 rfl)) (Or.inl (w 25 rfl)) (by decide) (t := .long) (t' := .int) (by decide) (by decide)))
  have Af_34 := Af_23.other W26 (Ne.symm n1)
  have Af_35 := Af_24.other W26 (Ne.symm n2)
  have zl26 := Nat.le_trans zl15 (Nat.le_of_eq W26.size.symm)
  refine Own.istoreV 88 #[.val (.ref a), .val (.int x1), .val (.int x2), .val (.long key), .second, .val (.int (0 : Int32))] X26 hx (hb hby d4_86) rfl rfl ?_
  refine Own.iload 90 X26 hx (hb hby d4_88) rfl rfl ?_
  refine Own.if_le 166 93 X26 hx (hb hby d4_90) (by decide) rfl (fun tk => ?_) (fun tk => absurd tk (by decide))
  refine Own.aloadN 167 X26 hx (hb hby d4_166) rfl rfl rfl ?_
  refine Own.getFld 170 X26 hx hZ hown (host := "") (Or.inl (w 14 rfl)) Via.refl e26 Ff_29 (hb hby d4_167) rfl ?_
  intro T36 X36 e36
  refine Own.iload 172 X36 hx (hb hby d4_170) rfl rfl ?_
  refine Own.lloadN 173 X36 hx (hb hby d4_172) rfl rfl ?_
  refine Own.axStoreJ 174 X36 hx hZ e36 Af_34 (own_ix (j := (0 : Int32)) (c := cp) (by decide) (by rw [own_t0]; first | omega | decide)) (hb hby d4_173) rfl ?_
  intro T37 h37 X37 e37 W37 A37
  have N37 := Fr.snoc X37 N26 g_k
  have Ef_39 := Ef_28.wr W37
  have Ff_40 := Ff_29.other W37 (Or.inl n1)
  have Ff_41 := Ff_30.other W37 (Or.inl n1)
  have Ff_42 := Ff_31.other W37 (Or.inl n1)
  have Ff_43 := Ff_32.other W37 (Or.inl n1)
  have Ff_44 := Ff_33.other W37 (Or.inl n1)
  have Af_46 := Af_35.other W37 (Ne.symm n3)
  have zl37 := Nat.le_trans zl26 (Nat.le_of_eq W37.size.symm)
  refine Own.aloadN 175 X37 hx (hb hby d4_174) rfl rfl rfl ?_
  refine Own.getFld 178 X37 hx hZ hown (host := "") (Or.inl (w 17 rfl)) Via.refl e37 Ff_41 (hb hby d4_175) rfl ?_
  intro T47 X47 e47
  refine Own.iload 180 X47 hx (hb hby d4_178) rfl rfl ?_
  refine Own.iloadN 181 X47 hx (hb hby d4_180) rfl rfl ?_
  refine Own.axStoreI 182 X47 hx hZ e47 Af_46 (own_ix (j := (0 : Int32)) (c := cp) (by decide) (by rw [own_t0]; first | omega | decide)) (hb hby d4_181) rfl ?_
  intro T48 h48 X48 e48 W48 A48
  have N48 := Fr.snoc X48 N37 g_n
  have Ef_50 := Ef_39.wr W48
  have Ff_51 := Ff_40.other W48 (Or.inl n2)
  have Ff_52 := Ff_41.other W48 (Or.inl n2)
  have Ff_53 := Ff_42.other W48 (Or.inl n2)
  have Ff_54 := Ff_43.other W48 (Or.inl n2)
  have Ff_55 := Ff_44.other W48 (Or.inl n2)
  have Af_56 := A37.other W48 n3
  have zl48 := Nat.le_trans zl37 (Nat.le_of_eq W48.size.symm)
  refine Own.retVoid X48 hx hlk hret (hb hby d4_182) (by decide) (by decide) ?_
  rw [e48]
  exact ⟨rfl, N48, kb, nb, cp, ⟨Ef_50, Ff_51, Ff_52, Ff_53, ⟨_, Ff_54⟩, ⟨_, Ff_55⟩, Af_56, A48, n1, n2, n3, g_a, g_k, g_n⟩, by first | omega | decide, by first | omega | decide⟩
theorem d4_12 : decode prog_47_method_5_code 12 = .ok (.aload_n 0, 1) := by decide +kernel
theorem d4_13 : decode prog_47_method_5_code 13 = .ok (.aload_n 0, 1) := by decide +kernel
theorem d4_14 : decode prog_47_method_5_code 14 = .ok (.getfield 13, 3) := by decide +kernel
theorem d4_17 : decode prog_47_method_5_code 17 = .ok (.iconst 2, 1) := by decide +kernel
theorem d4_18 : decode prog_47_method_5_code 18 = .ok (.aload_n 0, 1) := by decide +kernel
theorem d4_19 : decode prog_47_method_5_code 19 = .ok (.getfield 23, 3) := by decide +kernel
theorem d4_22 : decode prog_47_method_5_code 22 = .ok (.imul, 1) := by decide +kernel
theorem d4_23 : decode prog_47_method_5_code 23 = .ok (.invokestatic 34, 3) := by decide +kernel
theorem d4_26 : decode prog_47_method_5_code 26 = .ok (.putfield 13, 3) := by decide +kernel
theorem d4_29 : decode prog_47_method_5_code 29 = .ok (.aload_n 0, 1) := by decide +kernel
theorem d4_30 : decode prog_47_method_5_code 30 = .ok (.aload_n 0, 1) := by decide +kernel
theorem d4_31 : decode prog_47_method_5_code 31 = .ok (.getfield 19, 3) := by decide +kernel
theorem d4_34 : decode prog_47_method_5_code 34 = .ok (.iconst 2, 1) := by decide +kernel
theorem d4_35 : decode prog_47_method_5_code 35 = .ok (.aload_n 0, 1) := by decide +kernel
theorem d4_36 : decode prog_47_method_5_code 36 = .ok (.getfield 23, 3) := by decide +kernel
theorem d4_39 : decode prog_47_method_5_code 39 = .ok (.imul, 1) := by decide +kernel
theorem d4_40 : decode prog_47_method_5_code 40 = .ok (.invokestatic 40, 3) := by decide +kernel
theorem d4_43 : decode prog_47_method_5_code 43 = .ok (.putfield 19, 3) := by decide +kernel
theorem d4_93 : decode prog_47_method_5_code 93 = .ok (.lload_n 3, 1) := by decide +kernel
theorem d4_94 : decode prog_47_method_5_code 94 = .ok (.aload_n 0, 1) := by decide +kernel
theorem d4_95 : decode prog_47_method_5_code 95 = .ok (.getfield 13, 3) := by decide +kernel
theorem d4_98 : decode prog_47_method_5_code 98 = .ok (.iload 5, 2) := by decide +kernel
theorem d4_100 : decode prog_47_method_5_code 100 = .ok (.iconst 1, 1) := by decide +kernel
theorem d4_101 : decode prog_47_method_5_code 101 = .ok (.isub, 1) := by decide +kernel
theorem d4_102 : decode prog_47_method_5_code 102 = .ok (.iconst 2, 1) := by decide +kernel
theorem d4_103 : decode prog_47_method_5_code 103 = .ok (.idiv, 1) := by decide +kernel
theorem d4_104 : decode prog_47_method_5_code 104 = .ok (.laload, 1) := by decide +kernel
theorem d4_105 : decode prog_47_method_5_code 105 = .ok (.lcmp, 1) := by decide +kernel
theorem d4_106 : decode prog_47_method_5_code 106 = .ok (.ifCond .ge 60, 3) := by decide +kernel
theorem d4_109 : decode prog_47_method_5_code 109 = .ok (.aload_n 0, 1) := by decide +kernel
theorem d4_110 : decode prog_47_method_5_code 110 = .ok (.dup, 1) := by decide +kernel
theorem d4_111 : decode prog_47_method_5_code 111 = .ok (.getfield 30, 3) := by decide +kernel
theorem d4_114 : decode prog_47_method_5_code 114 = .ok (.lconst 1, 1) := by decide +kernel
theorem d4_115 : decode prog_47_method_5_code 115 = .ok (.ladd, 1) := by decide +kernel
theorem d4_116 : decode prog_47_method_5_code 116 = .ok (.putfield 30, 3) := by decide +kernel
theorem d4_119 : decode prog_47_method_5_code 119 = .ok (.aload_n 0, 1) := by decide +kernel
theorem d4_120 : decode prog_47_method_5_code 120 = .ok (.getfield 13, 3) := by decide +kernel
theorem d4_123 : decode prog_47_method_5_code 123 = .ok (.iload 5, 2) := by decide +kernel
theorem d4_125 : decode prog_47_method_5_code 125 = .ok (.aload_n 0, 1) := by decide +kernel
theorem d4_126 : decode prog_47_method_5_code 126 = .ok (.getfield 13, 3) := by decide +kernel
theorem d4_129 : decode prog_47_method_5_code 129 = .ok (.iload 5, 2) := by decide +kernel
theorem d4_131 : decode prog_47_method_5_code 131 = .ok (.iconst 1, 1) := by decide +kernel
theorem d4_132 : decode prog_47_method_5_code 132 = .ok (.isub, 1) := by decide +kernel
theorem d4_133 : decode prog_47_method_5_code 133 = .ok (.iconst 2, 1) := by decide +kernel
theorem d4_134 : decode prog_47_method_5_code 134 = .ok (.idiv, 1) := by decide +kernel
theorem d4_135 : decode prog_47_method_5_code 135 = .ok (.laload, 1) := by decide +kernel
theorem d4_136 : decode prog_47_method_5_code 136 = .ok (.lastore, 1) := by decide +kernel
theorem d4_137 : decode prog_47_method_5_code 137 = .ok (.aload_n 0, 1) := by decide +kernel
theorem d4_138 : decode prog_47_method_5_code 138 = .ok (.getfield 19, 3) := by decide +kernel
theorem d4_141 : decode prog_47_method_5_code 141 = .ok (.iload 5, 2) := by decide +kernel
theorem d4_143 : decode prog_47_method_5_code 143 = .ok (.aload_n 0, 1) := by decide +kernel
theorem d4_144 : decode prog_47_method_5_code 144 = .ok (.getfield 19, 3) := by decide +kernel
theorem d4_147 : decode prog_47_method_5_code 147 = .ok (.iload 5, 2) := by decide +kernel
theorem d4_149 : decode prog_47_method_5_code 149 = .ok (.iconst 1, 1) := by decide +kernel
theorem d4_150 : decode prog_47_method_5_code 150 = .ok (.isub, 1) := by decide +kernel
theorem d4_151 : decode prog_47_method_5_code 151 = .ok (.iconst 2, 1) := by decide +kernel
theorem d4_152 : decode prog_47_method_5_code 152 = .ok (.idiv, 1) := by decide +kernel
theorem d4_153 : decode prog_47_method_5_code 153 = .ok (.iaload, 1) := by decide +kernel
theorem d4_154 : decode prog_47_method_5_code 154 = .ok (.iastore, 1) := by decide +kernel
theorem d4_155 : decode prog_47_method_5_code 155 = .ok (.iload 5, 2) := by decide +kernel
theorem d4_157 : decode prog_47_method_5_code 157 = .ok (.iconst 1, 1) := by decide +kernel
theorem d4_158 : decode prog_47_method_5_code 158 = .ok (.isub, 1) := by decide +kernel
theorem d4_159 : decode prog_47_method_5_code 159 = .ok (.iconst 2, 1) := by decide +kernel
theorem d4_160 : decode prog_47_method_5_code 160 = .ok (.idiv, 1) := by decide +kernel
theorem d4_161 : decode prog_47_method_5_code 161 = .ok (.istore 5, 2) := by decide +kernel
theorem d4_163 : decode prog_47_method_5_code 163 = .ok (.goto (-75), 3) := by decide +kernel
set_option maxRecDepth 65536 in
set_option maxHeartbeats 40000000 in
theorem m4_1 (l : Launch) (Z : State) (a0 : Array Value) (w : ∀ (i : Nat) {d : Jvm.Cond}, tables_1[i]? = some d → d.before a0 Z = true) (a : Addr) (x1 : Int32) (x2 : Int32) (kb nb : Addr) (cp : Int32) (n0 : Nat) (h0 : Heap) (D : own_DQ Z h0 n0 a kb nb cp (1 : Int32)) (hc : 1 ≤ cp.toInt ∧ cp.toInt ≤ 2) :
    Own.Met l Z (⟨"com/example/leveler/leveler/leveling/DistanceQueue", "add", "(II)V"⟩ : MethodName) prog_47_method_5_code 6 none [] ({ frames := 2, cells := 2, slots := 8, locals := 33 } : Room) #[(.ref a), (.int x1), (.int x2)] h0 (fun v h L => v = none ∧ Fr n0 L ∧ ∃ (kb nb : Addr) (c : Int32), own_DQ Z h n0 a kb nb c (2 : Int32) ∧ 2 ≤ c.toInt ∧ c.toInt ≤ 2) := by
  refine Own.Met.of (plainFor_of_name (by first | (simp [plainName, overriddenIn]; done) | decide +kernel)) ?_
  intro p e s m below meth c T0 hx hby hml hown hnm hret hlk hZ X0 e0
  have hown : s.vm.findClass "com/example/leveler/leveler/leveling/DistanceQueue" = some m.cls := hown
  have hml : c.maxLocals = 6 := hml
  have hnm : meth.name = "add" := hnm
  have ef : entryFrame m #[(.ref a), (.int x1), (.int x2)] 6 = mkF m 0 #[.val (.ref a), .val (.int x1), .val (.int x2), .unset, .unset, .unset] [] := by first | (simp [entryFrame, mkF, argsToLocals, Value.category]; done) | rfl
  rw [ef]
  obtain ⟨E_a, Fk, Fn, Fs, ⟨ad, Fa⟩, ⟨st, Ft⟩, Ak, An, n1, n2, n3, g_a, g_k, g_n⟩ := D
  have N0 := Fr.nil n0
  have Z0 : n0 ≤ h0.size := Nat.le_trans g_a (Nat.le_of_lt E_a.lt)
  refine Own.aloadN 1 X0 hx (hb hby d4_0) rfl rfl rfl ?_
  refine Own.getFld 4 X0 hx hZ hown (host := "") (Or.inl (w 24 rfl)) Via.refl e0 Fs (hb hby d4_1) rfl ?_
  intro T1 X1 e1
  refine Own.aloadN 5 X1 hx (hb hby d4_4) rfl rfl rfl ?_
  refine Own.getFld 8 X1 hx hZ hown (host := "") (Or.inl (w 14 rfl)) Via.refl e1 Fk (hb hby d4_5) rfl ?_
  intro T2 X2 e2
  refine Own.axLen 9 X2 hx hZ e2 Ak (hb hby d4_8) rfl ?_
  refine Own.icmp_ne 46 12 X2 hx (hb hby d4_9) (by decide) rfl (fun q1 => ?_) (fun q1 => ?_)
  ·
    have q2 : cp.toInt ≠ 1 := fun u => q1 (Int32.toInt_inj.mp (by rw [own_t1]; omega))
    refine Own.iloadN 47 X2 hx (hb hby d4_46) rfl rfl ?_
    refine Own.i2l 48 X2 hx (hb hby d4_47) rfl rfl ?_
    refine Own.bipush 50 X2 hx ((32 : Int32)) (hb hby d4_48) rfl rfl ?_
    refine Own.lshl 51 X2 hx (hb hby d4_50) rfl rfl ?_
    refine Own.aloadN 52 X2 hx (hb hby d4_51) rfl rfl rfl ?_
    refine Own.dup 53 X2 hx (hb hby d4_52) rfl rfl ?_
    refine Own.getFld 56 X2 hx hZ hown (host := "") (Or.inl (w 26 rfl)) Via.refl e2 Fa (hb hby d4_53) rfl ?_
    intro T3 X3 e3
    refine Own.dupX1 57 X3 hx (hb hby d4_56) rfl rfl rfl ?_
    refine Own.iconst 58 X3 hx ((1 : Int32)) (hb hby d4_57) rfl rfl ?_
    refine Own.iadd 59 X3 hx (hb hby d4_58) rfl rfl ?_
    refine Own.putFld 62 X3 hx hZ hown (host := "") (Or.inl (w 26 rfl)) Via.refl e3 Fa E_a (Or.inl (w 27 rfl)) (w 1 rfl) (ty := .int) (by decide) rfl rfl (hb hby d4_59) rfl ?_
    intro T4 h4 X4 e4 W4
    have N4 := Fr.snoc X4 N0 g_a
    have Ef_6 := E_a.wr W4
    have Ff_7 := Fk.other W4 (Or.inr (slot_ne (Or.inl (w 15 rfl)) (Or.inl (w 27 rfl)) (by decide) (t := (.array .long)) (t' := .int) (by decide) (by decide)))
    have Ff_8 := Fn.other W4 (Or.inr (slot_ne (Or.inl (w 18 rfl)) (Or.inl (w 27 rfl)) (by decide) (t := (.array .int)) (t' := .int) (by decide) (by decide)))
    have Ff_9 := Fs.other W4 (Or.inr (slot_ne (Or.inl (w 25 rfl)) (Or.inl (w 27 rfl)) (by decide) (t := .int) (t' := .int) (by decide) (by decide)))
    have Ff_10 := Fa.same W4
    have Ff_11 := Ft.other W4 (Or.inr (slot_ne (Or.inl (w 29 rfl)) (Or.inl (w 27 rfl)) (by decide) (t := .long) (t' := .int) (by decide) (by decide)))
    have Af_12 := Ak.other W4 (Ne.symm n1)
    have Af_13 := An.other W4 (Ne.symm n2)
    have zl4 := Nat.le_trans Z0 (Nat.le_of_eq W4.size.symm)
    refine Own.i2l 63 X4 hx (hb hby d4_62) rfl rfl ?_
    refine Own.lor 64 X4 hx (hb hby d4_63) rfl rfl ?_
    refine Own.lstoreN 65 (fun key => #[.val (.ref a), .val (.int x1), .val (.int x2), .val (.long key), .second, .unset]) X4 hx (hb hby d4_64) rfl (fun _ => rfl) fun key hkey => ?_
    refine Own.aloadN 66 X4 hx (hb hby d4_65) rfl rfl rfl ?_
    refine Own.dup 67 X4 hx (hb hby d4_66) rfl rfl ?_
    refine Own.getFld 70 X4 hx hZ hown (host := "") (Or.inl (w 28 rfl)) Via.refl e4 Ff_11 (hb hby d4_67) rfl ?_
    intro T14 X14 e14
    refine Own.lconst 71 X14 hx ((1 : Int64)) (hb hby d4_70) rfl rfl ?_
    refine Own.ladd 72 X14 hx (hb hby d4_71) rfl rfl ?_
    refine Own.putFld 75 X14 hx hZ hown (host := "") (Or.inl (w 28 rfl)) Via.refl e14 Ff_11 Ef_6 (Or.inl (w 29 rfl)) (w 1 rfl) (ty := .long) (by decide) rfl rfl (hb hby d4_72) rfl ?_
    intro T15 h15 X15 e15 W15
    have N15 := Fr.snoc X15 N4 g_a
    have Ef_17 := Ef_6.wr W15
    have Ff_18 := Ff_7.other W15 (Or.inr (slot_ne (Or.inl (w 15 rfl)) (Or.inl (w 29 rfl)) (by decide) (t := (.array .long)) (t' := .long) (by decide) (by decide)))
    have Ff_19 := Ff_8.other W15 (Or.inr (slot_ne (Or.inl (w 18 rfl)) (Or.inl (w 29 rfl)) (by decide) (t := (.array .int)) (t' := .long) (by decide) (by decide)))
    have Ff_20 := Ff_9.other W15 (Or.inr (slot_ne (Or.inl (w 25 rfl)) (Or.inl (w 29 rfl)) (by decide) (t := .int) (t' := .long) (by decide) (by decide)))
    have Ff_21 := Ff_10.other W15 (Or.inr (slot_ne (Or.inl (w 27 rfl)) (Or.inl (w 29 rfl)) (by decide) (t := .int) (t' := .long) (by decide) (by decide)))
    have Ff_22 := Ff_11.same W15
    have Af_23 := Af_12.other W15 (Ne.symm n1)
    have Af_24 := Af_13.other W15 (Ne.symm n2)
    have zl15 := Nat.le_trans zl4 (Nat.le_of_eq W15.size.symm)
    refine Own.aloadN 76 X15 hx (hb hby d4_75) rfl rfl rfl ?_
    refine Own.dup 77 X15 hx (hb hby d4_76) rfl rfl ?_
    refine Own.getFld 80 X15 hx hZ hown (host := "") (Or.inl (w 24 rfl)) Via.refl e15 Ff_20 (hb hby d4_77) rfl ?_
    intro T25 X25 e25
    refine Own.dupX1 81 X25 hx (hb hby d4_80) rfl rfl rfl ?_
    refine Own.iconst 82 X25 hx ((1 : Int32)) (hb hby d4_81) rfl rfl ?_
    refine Own.iadd 83 X25 hx (hb hby d4_82) rfl (show ((1 : Int32) + (1 : Int32)) = (2 : Int32) by decide) ?_
    refine Own.putFld 86 X25 hx hZ hown (host := "") (Or.inl (w 24 rfl)) Via.refl e25 Ff_20 Ef_17 (Or.inl (w 25 rfl)) (w 1 rfl) (ty := .int) (by decide) rfl rfl (hb hby d4_83) rfl ?_
    intro T26 h26 X26 e26 W26
    have N26 := Fr.snoc X26 N15 g_a
    have Ef_28 := Ef_17.wr W26
    have Ff_29 := Ff_18.other W26 (Or.inr (slot_ne (Or.inl (w 15 rfl)) (Or.inl (w 25 rfl)) (by decide) (t := (.array .long)) (t' := .int) (by decide) (by decide)))
    have Ff_30 := Ff_19.other W26 (Or.inr (slot_ne (Or.inl (w 18 rfl)) (Or.inl (w 25 rfl)) (by decide) (t := (.array .int)) (t' := .int) (by decide) (by decide)))
    have Ff_31 := Ff_20.same W26
    have Ff_32 := Ff_21.other W26 (Or.inr (slot_ne (Or.inl (w 27 rfl)) (Or.inl (w 25 rfl)) (by decide) (t := .int) (t' := .int) (by decide) (by decide)))
    have Ff_33 := Ff_22.other W26 (Or.inr (slot_ne (Or.inl (w 29 rfl)) (Or.inl (w 25 rfl)) (by decide) (t := .long) (t' := .int) (by decide) (by decide)))
    have Af_34 := Af_23.other W26 (Ne.symm n1)
    have Af_35 := Af_24.other W26 (Ne.symm n2)
    have zl26 := Nat.le_trans zl15 (Nat.le_of_eq W26.size.symm)
    refine Own.istoreV 88 #[.val (.ref a), .val (.int x1), .val (.int x2), .val (.long key), .second, .val (.int (1 : Int32))] X26 hx (hb hby d4_86) rfl rfl ?_
    refine Own.iload 90 X26 hx (hb hby d4_88) rfl rfl ?_
    refine Own.if_le 166 93 X26 hx (hb hby d4_90) (by decide) rfl (fun tk => absurd tk (by decide)) (fun tk => ?_)
    refine Own.lloadN 94 X26 hx (hb hby d4_93) rfl rfl ?_
    refine Own.aloadN 95 X26 hx (hb hby d4_94) rfl rfl rfl ?_
    refine Own.getFld 98 X26 hx hZ hown (host := "") (Or.inl (w 14 rfl)) Via.refl e26 Ff_29 (hb hby d4_95) rfl ?_
    intro T36 X36 e36
    refine Own.iload 100 X36 hx (hb hby d4_98) rfl rfl ?_
    refine Own.iconst 101 X36 hx ((1 : Int32)) (hb hby d4_100) rfl rfl ?_
    refine Own.isub 102 X36 hx (hb hby d4_101) rfl (show ((1 : Int32) - (1 : Int32)) = (0 : Int32) by decide) ?_
    refine Own.iconst 103 X36 hx ((2 : Int32)) (hb hby d4_102) rfl rfl ?_
    refine Own.idiv 104 X36 hx (hb hby d4_103) rfl (by decide) (show ((0 : Int32) / (2 : Int32)) = (0 : Int32) by decide) ?_
    refine Own.axLoadJ 105 X36 hx hZ e36 Af_34 (own_ix (j := (0 : Int32)) (c := cp) (by decide) (by rw [own_t0]; first | omega | decide)) (hb hby d4_104) rfl fun kv => ?_
    refine Own.lif_ge 166 109 X36 hx (hb hby d4_105) rfl (hb hby d4_106) (by decide) rfl (fun b1 => ?_) (fun b1 => ?_)
    ·
      refine Own.aloadN 167 X36 hx (hb hby d4_166) rfl rfl rfl ?_
      refine Own.getFld 170 X36 hx hZ hown (host := "") (Or.inl (w 14 rfl)) Via.refl e36 Ff_29 (hb hby d4_167) rfl ?_
      intro T37 X37 e37
      refine Own.iload 172 X37 hx (hb hby d4_170) rfl rfl ?_
      refine Own.lloadN 173 X37 hx (hb hby d4_172) rfl rfl ?_
      refine Own.axStoreJ 174 X37 hx hZ e37 Af_34 (own_ix (j := (1 : Int32)) (c := cp) (by decide) (by rw [own_t1]; first | omega | decide)) (hb hby d4_173) rfl ?_
      intro T38 h38 X38 e38 W38 A38
      have N38 := Fr.snoc X38 N26 g_k
      have Ef_40 := Ef_28.wr W38
      have Ff_41 := Ff_29.other W38 (Or.inl n1)
      have Ff_42 := Ff_30.other W38 (Or.inl n1)
      have Ff_43 := Ff_31.other W38 (Or.inl n1)
      have Ff_44 := Ff_32.other W38 (Or.inl n1)
      have Ff_45 := Ff_33.other W38 (Or.inl n1)
      have Af_47 := Af_35.other W38 (Ne.symm n3)
      have zl38 := Nat.le_trans zl26 (Nat.le_of_eq W38.size.symm)
      refine Own.aloadN 175 X38 hx (hb hby d4_174) rfl rfl rfl ?_
      refine Own.getFld 178 X38 hx hZ hown (host := "") (Or.inl (w 17 rfl)) Via.refl e38 Ff_42 (hb hby d4_175) rfl ?_
      intro T48 X48 e48
      refine Own.iload 180 X48 hx (hb hby d4_178) rfl rfl ?_
      refine Own.iloadN 181 X48 hx (hb hby d4_180) rfl rfl ?_
      refine Own.axStoreI 182 X48 hx hZ e48 Af_47 (own_ix (j := (1 : Int32)) (c := cp) (by decide) (by rw [own_t1]; first | omega | decide)) (hb hby d4_181) rfl ?_
      intro T49 h49 X49 e49 W49 A49
      have N49 := Fr.snoc X49 N38 g_n
      have Ef_51 := Ef_40.wr W49
      have Ff_52 := Ff_41.other W49 (Or.inl n2)
      have Ff_53 := Ff_42.other W49 (Or.inl n2)
      have Ff_54 := Ff_43.other W49 (Or.inl n2)
      have Ff_55 := Ff_44.other W49 (Or.inl n2)
      have Ff_56 := Ff_45.other W49 (Or.inl n2)
      have Af_57 := A38.other W49 n3
      have zl49 := Nat.le_trans zl38 (Nat.le_of_eq W49.size.symm)
      refine Own.retVoid X49 hx hlk hret (hb hby d4_182) (by decide) (by decide) ?_
      rw [e49]
      exact ⟨rfl, N49, kb, nb, cp, ⟨Ef_51, Ff_52, Ff_53, Ff_54, ⟨_, Ff_55⟩, ⟨_, Ff_56⟩, Af_57, A49, n1, n2, n3, g_a, g_k, g_n⟩, by first | omega | decide, by first | omega | decide⟩
    ·
      refine Own.aloadN 110 X36 hx (hb hby d4_109) rfl rfl rfl ?_
      refine Own.dup 111 X36 hx (hb hby d4_110) rfl rfl ?_
      refine Own.getFld 114 X36 hx hZ hown (host := "") (Or.inl (w 28 rfl)) Via.refl e36 Ff_33 (hb hby d4_111) rfl ?_
      intro T59 X59 e59
      refine Own.lconst 115 X59 hx ((1 : Int64)) (hb hby d4_114) rfl rfl ?_
      refine Own.ladd 116 X59 hx (hb hby d4_115) rfl rfl ?_
      refine Own.putFld 119 X59 hx hZ hown (host := "") (Or.inl (w 28 rfl)) Via.refl e59 Ff_33 Ef_28 (Or.inl (w 29 rfl)) (w 1 rfl) (ty := .long) (by decide) rfl rfl (hb hby d4_116) rfl ?_
      intro T60 h60 X60 e60 W60
      have N60 := Fr.snoc X60 N26 g_a
      have Ef_62 := Ef_28.wr W60
      have Ff_63 := Ff_29.other W60 (Or.inr (slot_ne (Or.inl (w 15 rfl)) (Or.inl (w 29 rfl)) (by decide) (t := (.array .long)) (t' := .long) (by decide) (by decide)))
      have Ff_64 := Ff_30.other W60 (Or.inr (slot_ne (Or.inl (w 18 rfl)) (Or.inl (w 29 rfl)) (by decide) (t := (.array .int)) (t' := .long) (by decide) (by decide)))
      have Ff_65 := Ff_31.other W60 (Or.inr (slot_ne (Or.inl (w 25 rfl)) (Or.inl (w 29 rfl)) (by decide) (t := .int) (t' := .long) (by decide) (by decide)))
      have Ff_66 := Ff_32.other W60 (Or.inr (slot_ne (Or.inl (w 27 rfl)) (Or.inl (w 29 rfl)) (by decide) (t := .int) (t' := .long) (by decide) (by decide)))
      have Ff_67 := Ff_33.same W60
      have Af_68 := Af_34.other W60 (Ne.symm n1)
      have Af_69 := Af_35.other W60 (Ne.symm n2)
      have zl60 := Nat.le_trans zl26 (Nat.le_of_eq W60.size.symm)
      refine Own.aloadN 120 X60 hx (hb hby d4_119) rfl rfl rfl ?_
      refine Own.getFld 123 X60 hx hZ hown (host := "") (Or.inl (w 14 rfl)) Via.refl e60 Ff_63 (hb hby d4_120) rfl ?_
      intro T70 X70 e70
      refine Own.iload 125 X70 hx (hb hby d4_123) rfl rfl ?_
      refine Own.aloadN 126 X70 hx (hb hby d4_125) rfl rfl rfl ?_
      refine Own.getFld 129 X70 hx hZ hown (host := "") (Or.inl (w 14 rfl)) Via.refl e70 Ff_63 (hb hby d4_126) rfl ?_
      intro T71 X71 e71
      refine Own.iload 131 X71 hx (hb hby d4_129) rfl rfl ?_
      refine Own.iconst 132 X71 hx ((1 : Int32)) (hb hby d4_131) rfl rfl ?_
      refine Own.isub 133 X71 hx (hb hby d4_132) rfl (show ((1 : Int32) - (1 : Int32)) = (0 : Int32) by decide) ?_
      refine Own.iconst 134 X71 hx ((2 : Int32)) (hb hby d4_133) rfl rfl ?_
      refine Own.idiv 135 X71 hx (hb hby d4_134) rfl (by decide) (show ((0 : Int32) / (2 : Int32)) = (0 : Int32) by decide) ?_
      refine Own.axLoadJ 136 X71 hx hZ e71 Af_68 (own_ix (j := (0 : Int32)) (c := cp) (by decide) (by rw [own_t0]; first | omega | decide)) (hb hby d4_135) rfl fun kv2 => ?_
      refine Own.axStoreJ 137 X71 hx hZ e71 Af_68 (own_ix (j := (1 : Int32)) (c := cp) (by decide) (by rw [own_t1]; first | omega | decide)) (hb hby d4_136) rfl ?_
      intro T72 h72 X72 e72 W72 A72
      have N72 := Fr.snoc X72 N60 g_k
      have Ef_74 := Ef_62.wr W72
      have Ff_75 := Ff_63.other W72 (Or.inl n1)
      have Ff_76 := Ff_64.other W72 (Or.inl n1)
      have Ff_77 := Ff_65.other W72 (Or.inl n1)
      have Ff_78 := Ff_66.other W72 (Or.inl n1)
      have Ff_79 := Ff_67.other W72 (Or.inl n1)
      have Af_81 := Af_69.other W72 (Ne.symm n3)
      have zl72 := Nat.le_trans zl60 (Nat.le_of_eq W72.size.symm)
      refine Own.aloadN 138 X72 hx (hb hby d4_137) rfl rfl rfl ?_
      refine Own.getFld 141 X72 hx hZ hown (host := "") (Or.inl (w 17 rfl)) Via.refl e72 Ff_76 (hb hby d4_138) rfl ?_
      intro T82 X82 e82
      refine Own.iload 143 X82 hx (hb hby d4_141) rfl rfl ?_
      refine Own.aloadN 144 X82 hx (hb hby d4_143) rfl rfl rfl ?_
      refine Own.getFld 147 X82 hx hZ hown (host := "") (Or.inl (w 17 rfl)) Via.refl e82 Ff_76 (hb hby d4_144) rfl ?_
      intro T83 X83 e83
      refine Own.iload 149 X83 hx (hb hby d4_147) rfl rfl ?_
      refine Own.iconst 150 X83 hx ((1 : Int32)) (hb hby d4_149) rfl rfl ?_
      refine Own.isub 151 X83 hx (hb hby d4_150) rfl (show ((1 : Int32) - (1 : Int32)) = (0 : Int32) by decide) ?_
      refine Own.iconst 152 X83 hx ((2 : Int32)) (hb hby d4_151) rfl rfl ?_
      refine Own.idiv 153 X83 hx (hb hby d4_152) rfl (by decide) (show ((0 : Int32) / (2 : Int32)) = (0 : Int32) by decide) ?_
      refine Own.axLoadI 154 X83 hx hZ e83 Af_81 (own_ix (j := (0 : Int32)) (c := cp) (by decide) (by rw [own_t0]; first | omega | decide)) (hb hby d4_153) rfl fun nv2 => ?_
      refine Own.axStoreI 155 X83 hx hZ e83 Af_81 (own_ix (j := (1 : Int32)) (c := cp) (by decide) (by rw [own_t1]; first | omega | decide)) (hb hby d4_154) rfl ?_
      intro T84 h84 X84 e84 W84 A84
      have N84 := Fr.snoc X84 N72 g_n
      have Ef_86 := Ef_74.wr W84
      have Ff_87 := Ff_75.other W84 (Or.inl n2)
      have Ff_88 := Ff_76.other W84 (Or.inl n2)
      have Ff_89 := Ff_77.other W84 (Or.inl n2)
      have Ff_90 := Ff_78.other W84 (Or.inl n2)
      have Ff_91 := Ff_79.other W84 (Or.inl n2)
      have Af_92 := A72.other W84 n3
      have zl84 := Nat.le_trans zl72 (Nat.le_of_eq W84.size.symm)
      refine Own.iload 157 X84 hx (hb hby d4_155) rfl rfl ?_
      refine Own.iconst 158 X84 hx ((1 : Int32)) (hb hby d4_157) rfl rfl ?_
      refine Own.isub 159 X84 hx (hb hby d4_158) rfl (show ((1 : Int32) - (1 : Int32)) = (0 : Int32) by decide) ?_
      refine Own.iconst 160 X84 hx ((2 : Int32)) (hb hby d4_159) rfl rfl ?_
      refine Own.idiv 161 X84 hx (hb hby d4_160) rfl (by decide) (show ((0 : Int32) / (2 : Int32)) = (0 : Int32) by decide) ?_
      refine Own.istoreV 163 #[.val (.ref a), .val (.int x1), .val (.int x2), .val (.long key), .second, .val (.int (0 : Int32))] X84 hx (hb hby d4_161) rfl rfl ?_
      refine Own.goto 88 X84 hx (hb hby d4_163) (by decide) ?_
      refine Own.iload 90 X84 hx (hb hby d4_88) rfl rfl ?_
      refine Own.if_le 166 93 X84 hx (hb hby d4_90) (by decide) rfl (fun tk => ?_) (fun tk => absurd tk (by decide))
      refine Own.aloadN 167 X84 hx (hb hby d4_166) rfl rfl rfl ?_
      refine Own.getFld 170 X84 hx hZ hown (host := "") (Or.inl (w 14 rfl)) Via.refl e84 Ff_87 (hb hby d4_167) rfl ?_
      intro T94 X94 e94
      refine Own.iload 172 X94 hx (hb hby d4_170) rfl rfl ?_
      refine Own.lloadN 173 X94 hx (hb hby d4_172) rfl rfl ?_
      refine Own.axStoreJ 174 X94 hx hZ e94 Af_92 (own_ix (j := (0 : Int32)) (c := cp) (by decide) (by rw [own_t0]; first | omega | decide)) (hb hby d4_173) rfl ?_
      intro T95 h95 X95 e95 W95 A95
      have N95 := Fr.snoc X95 N84 g_k
      have Ef_97 := Ef_86.wr W95
      have Ff_98 := Ff_87.other W95 (Or.inl n1)
      have Ff_99 := Ff_88.other W95 (Or.inl n1)
      have Ff_100 := Ff_89.other W95 (Or.inl n1)
      have Ff_101 := Ff_90.other W95 (Or.inl n1)
      have Ff_102 := Ff_91.other W95 (Or.inl n1)
      have Af_104 := A84.other W95 (Ne.symm n3)
      have zl95 := Nat.le_trans zl84 (Nat.le_of_eq W95.size.symm)
      refine Own.aloadN 175 X95 hx (hb hby d4_174) rfl rfl rfl ?_
      refine Own.getFld 178 X95 hx hZ hown (host := "") (Or.inl (w 17 rfl)) Via.refl e95 Ff_99 (hb hby d4_175) rfl ?_
      intro T105 X105 e105
      refine Own.iload 180 X105 hx (hb hby d4_178) rfl rfl ?_
      refine Own.iloadN 181 X105 hx (hb hby d4_180) rfl rfl ?_
      refine Own.axStoreI 182 X105 hx hZ e105 Af_104 (own_ix (j := (0 : Int32)) (c := cp) (by decide) (by rw [own_t0]; first | omega | decide)) (hb hby d4_181) rfl ?_
      intro T106 h106 X106 e106 W106 A106
      have N106 := Fr.snoc X106 N95 g_n
      have Ef_108 := Ef_97.wr W106
      have Ff_109 := Ff_98.other W106 (Or.inl n2)
      have Ff_110 := Ff_99.other W106 (Or.inl n2)
      have Ff_111 := Ff_100.other W106 (Or.inl n2)
      have Ff_112 := Ff_101.other W106 (Or.inl n2)
      have Ff_113 := Ff_102.other W106 (Or.inl n2)
      have Af_114 := A95.other W106 n3
      have zl106 := Nat.le_trans zl95 (Nat.le_of_eq W106.size.symm)
      refine Own.retVoid X106 hx hlk hret (hb hby d4_182) (by decide) (by decide) ?_
      rw [e106]
      exact ⟨rfl, N106, kb, nb, cp, ⟨Ef_108, Ff_109, Ff_110, Ff_111, ⟨_, Ff_112⟩, ⟨_, Ff_113⟩, Af_114, A106, n1, n2, n3, g_a, g_k, g_n⟩, by first | omega | decide, by first | omega | decide⟩
  ·
    subst q1
    refine Own.aloadN 13 X2 hx (hb hby d4_12) rfl rfl rfl ?_
    refine Own.aloadN 14 X2 hx (hb hby d4_13) rfl rfl rfl ?_
    refine Own.getFld 17 X2 hx hZ hown (host := "") (Or.inl (w 14 rfl)) Via.refl e2 Fk (hb hby d4_14) rfl ?_
    intro T116 X116 e116
    refine Own.iconst 18 X116 hx ((2 : Int32)) (hb hby d4_17) rfl rfl ?_
    refine Own.aloadN 19 X116 hx (hb hby d4_18) rfl rfl rfl ?_
    refine Own.getFld 22 X116 hx hZ hown (host := "") (Or.inl (w 24 rfl)) Via.refl e116 Fs (hb hby d4_19) rfl ?_
    intro T117 X117 e117
    refine Own.imul 23 X117 hx (hb hby d4_22) rfl (show ((2 : Int32) * (1 : Int32)) = (2 : Int32) by decide) ?_
    refine Own.callSt 26 1 [(.ref kb), (.int (2 : Int32))] [(.ref a)] X117 hx hZ hown (m5 l Z a0 w kb (2 : Int32) _ n0 _ Z0 Ak (by decide)) (w 30 rfl) (w 31 rfl) (w 32 rfl) (w 33 rfl) (by decide) e117 (by decide) (by decide) (by decide) (by decide) (by rw [hml]; rfl) (lenOf pd_1 rfl) rfl (Nat.le_of_eq rfl) (hb hby d4_23) rfl ?_
    rintro vv T118 L118 X118 ⟨k2, rfl, N118q, K118, sz118, g_k2, A_k2⟩
    have ne_a_k2 : a ≠ k2 := Nat.ne_of_lt (Nat.lt_of_lt_of_le E_a.lt sz118)
    have ne_kb_k2 : kb ≠ k2 := Nat.ne_of_lt (Nat.lt_of_lt_of_le Ak.lt sz118)
    have ne_nb_k2 : nb ≠ k2 := Nat.ne_of_lt (Nat.lt_of_lt_of_le An.lt sz118)
    have Ef_120 := E_a.keep K118
    have Ff_121 := Fk.keep K118 nin0
    have Ff_122 := Fn.keep K118 nin0
    have Ff_123 := Fs.keep K118 nin0
    have Ff_124 := Fa.keep K118 nin0
    have Ff_125 := Ft.keep K118 nin0
    have Af_126 := Ak.keep K118 nin0
    have Af_127 := An.keep K118 nin0
    have N118 := Fr.app N0 N118q
    have zl118 := Nat.le_trans Z0 K118.1
    refine Own.putFld 29 X118 hx hZ hown (host := "") (Or.inl (w 14 rfl)) Via.refl rfl Ff_121 Ef_120 (Or.inl (w 15 rfl)) (w 1 rfl) (ty := (.array .long)) (by decide) rfl rfl (hb hby d4_26) rfl ?_
    intro T128 h128 X128 e128 W128
    have N128 := Fr.snoc X128 N118 g_a
    have Ef_130 := Ef_120.wr W128
    have Ff_131 := Ff_121.same W128
    have Ff_132 := Ff_122.other W128 (Or.inr (slot_ne (Or.inl (w 18 rfl)) (Or.inl (w 15 rfl)) (by decide) (t := (.array .int)) (t' := (.array .long)) (by decide) (by decide)))
    have Ff_133 := Ff_123.other W128 (Or.inr (slot_ne (Or.inl (w 25 rfl)) (Or.inl (w 15 rfl)) (by decide) (t := .int) (t' := (.array .long)) (by decide) (by decide)))
    have Ff_134 := Ff_124.other W128 (Or.inr (slot_ne (Or.inl (w 27 rfl)) (Or.inl (w 15 rfl)) (by decide) (t := .int) (t' := (.array .long)) (by decide) (by decide)))
    have Ff_135 := Ff_125.other W128 (Or.inr (slot_ne (Or.inl (w 29 rfl)) (Or.inl (w 15 rfl)) (by decide) (t := .long) (t' := (.array .long)) (by decide) (by decide)))
    have Af_136 := Af_126.other W128 (Ne.symm n1)
    have Af_137 := Af_127.other W128 (Ne.symm n2)
    have Af_138 := A_k2.other W128 (Ne.symm ne_a_k2)
    have zl128 := Nat.le_trans zl118 (Nat.le_of_eq W128.size.symm)
    refine Own.aloadN 30 X128 hx (hb hby d4_29) rfl rfl rfl ?_
    refine Own.aloadN 31 X128 hx (hb hby d4_30) rfl rfl rfl ?_
    refine Own.getFld 34 X128 hx hZ hown (host := "") (Or.inl (w 17 rfl)) Via.refl e128 Ff_132 (hb hby d4_31) rfl ?_
    intro T139 X139 e139
    refine Own.iconst 35 X139 hx ((2 : Int32)) (hb hby d4_34) rfl rfl ?_
    refine Own.aloadN 36 X139 hx (hb hby d4_35) rfl rfl rfl ?_
    refine Own.getFld 39 X139 hx hZ hown (host := "") (Or.inl (w 24 rfl)) Via.refl e139 Ff_133 (hb hby d4_36) rfl ?_
    intro T140 X140 e140
    refine Own.imul 40 X140 hx (hb hby d4_39) rfl (show ((2 : Int32) * (1 : Int32)) = (2 : Int32) by decide) ?_
    refine Own.callSt 43 1 [(.ref nb), (.int (2 : Int32))] [(.ref a)] X140 hx hZ hown (m7 l Z a0 w nb (2 : Int32) _ n0 _ zl128 Af_137 (by decide)) (w 41 rfl) (w 42 rfl) (w 32 rfl) (w 43 rfl) (by decide) e140 (by decide) (by decide) (by decide) (by decide) (by rw [hml]; rfl) (lenOf pd_2 rfl) rfl (Nat.le_of_eq rfl) (hb hby d4_40) rfl ?_
    rintro vv T141 L141 X141 ⟨nn, rfl, N141q, K141, sz141, g_nn, A_nn⟩
    have ne_a_nn : a ≠ nn := Nat.ne_of_lt (Nat.lt_of_lt_of_le Ef_130.lt sz141)
    have ne_kb_nn : kb ≠ nn := Nat.ne_of_lt (Nat.lt_of_lt_of_le Af_136.lt sz141)
    have ne_nb_nn : nb ≠ nn := Nat.ne_of_lt (Nat.lt_of_lt_of_le Af_137.lt sz141)
    have ne_k2_nn : k2 ≠ nn := Nat.ne_of_lt (Nat.lt_of_lt_of_le Af_138.lt sz141)
    have Ef_143 := Ef_130.keep K141
    have Ff_144 := Ff_131.keep K141 nin0
    have Ff_145 := Ff_132.keep K141 nin0
    have Ff_146 := Ff_133.keep K141 nin0
    have Ff_147 := Ff_134.keep K141 nin0
    have Ff_148 := Ff_135.keep K141 nin0
    have Af_149 := Af_136.keep K141 nin0
    have Af_150 := Af_137.keep K141 nin0
    have Af_151 := Af_138.keep K141 nin0
    have N141 := Fr.app N128 N141q
    have zl141 := Nat.le_trans zl128 K141.1
    refine Own.putFld 46 X141 hx hZ hown (host := "") (Or.inl (w 17 rfl)) Via.refl rfl Ff_145 Ef_143 (Or.inl (w 18 rfl)) (w 1 rfl) (ty := (.array .int)) (by decide) rfl rfl (hb hby d4_43) rfl ?_
    intro T152 h152 X152 e152 W152
    have N152 := Fr.snoc X152 N141 g_a
    have Ef_154 := Ef_143.wr W152
    have Ff_155 := Ff_144.other W152 (Or.inr (slot_ne (Or.inl (w 15 rfl)) (Or.inl (w 18 rfl)) (by decide) (t := (.array .long)) (t' := (.array .int)) (by decide) (by decide)))
    have Ff_156 := Ff_145.same W152
    have Ff_157 := Ff_146.other W152 (Or.inr (slot_ne (Or.inl (w 25 rfl)) (Or.inl (w 18 rfl)) (by decide) (t := .int) (t' := (.array .int)) (by decide) (by decide)))
    have Ff_158 := Ff_147.other W152 (Or.inr (slot_ne (Or.inl (w 27 rfl)) (Or.inl (w 18 rfl)) (by decide) (t := .int) (t' := (.array .int)) (by decide) (by decide)))
    have Ff_159 := Ff_148.other W152 (Or.inr (slot_ne (Or.inl (w 29 rfl)) (Or.inl (w 18 rfl)) (by decide) (t := .long) (t' := (.array .int)) (by decide) (by decide)))
    have Af_160 := Af_149.other W152 (Ne.symm n1)
    have Af_161 := Af_150.other W152 (Ne.symm n2)
    have Af_162 := Af_151.other W152 (Ne.symm ne_a_k2)
    have Af_163 := A_nn.other W152 (Ne.symm ne_a_nn)
    have zl152 := Nat.le_trans zl141 (Nat.le_of_eq W152.size.symm)
    refine Own.iloadN 47 X152 hx (hb hby d4_46) rfl rfl ?_
    refine Own.i2l 48 X152 hx (hb hby d4_47) rfl rfl ?_
    refine Own.bipush 50 X152 hx ((32 : Int32)) (hb hby d4_48) rfl rfl ?_
    refine Own.lshl 51 X152 hx (hb hby d4_50) rfl rfl ?_
    refine Own.aloadN 52 X152 hx (hb hby d4_51) rfl rfl rfl ?_
    refine Own.dup 53 X152 hx (hb hby d4_52) rfl rfl ?_
    refine Own.getFld 56 X152 hx hZ hown (host := "") (Or.inl (w 26 rfl)) Via.refl e152 Ff_158 (hb hby d4_53) rfl ?_
    intro T164 X164 e164
    refine Own.dupX1 57 X164 hx (hb hby d4_56) rfl rfl rfl ?_
    refine Own.iconst 58 X164 hx ((1 : Int32)) (hb hby d4_57) rfl rfl ?_
    refine Own.iadd 59 X164 hx (hb hby d4_58) rfl rfl ?_
    refine Own.putFld 62 X164 hx hZ hown (host := "") (Or.inl (w 26 rfl)) Via.refl e164 Ff_158 Ef_154 (Or.inl (w 27 rfl)) (w 1 rfl) (ty := .int) (by decide) rfl rfl (hb hby d4_59) rfl ?_
    intro T165 h165 X165 e165 W165
    have N165 := Fr.snoc X165 N152 g_a
    have Ef_167 := Ef_154.wr W165
    have Ff_168 := Ff_155.other W165 (Or.inr (slot_ne (Or.inl (w 15 rfl)) (Or.inl (w 27 rfl)) (by decide) (t := (.array .long)) (t' := .int) (by decide) (by decide)))
    have Ff_169 := Ff_156.other W165 (Or.inr (slot_ne (Or.inl (w 18 rfl)) (Or.inl (w 27 rfl)) (by decide) (t := (.array .int)) (t' := .int) (by decide) (by decide)))
    have Ff_170 := Ff_157.other W165 (Or.inr (slot_ne (Or.inl (w 25 rfl)) (Or.inl (w 27 rfl)) (by decide) (t := .int) (t' := .int) (by decide) (by decide)))
    have Ff_171 := Ff_158.same W165
    have Ff_172 := Ff_159.other W165 (Or.inr (slot_ne (Or.inl (w 29 rfl)) (Or.inl (w 27 rfl)) (by decide) (t := .long) (t' := .int) (by decide) (by decide)))
    have Af_173 := Af_160.other W165 (Ne.symm n1)
    have Af_174 := Af_161.other W165 (Ne.symm n2)
    have Af_175 := Af_162.other W165 (Ne.symm ne_a_k2)
    have Af_176 := Af_163.other W165 (Ne.symm ne_a_nn)
    have zl165 := Nat.le_trans zl152 (Nat.le_of_eq W165.size.symm)
    refine Own.i2l 63 X165 hx (hb hby d4_62) rfl rfl ?_
    refine Own.lor 64 X165 hx (hb hby d4_63) rfl rfl ?_
    refine Own.lstoreN 65 (fun key => #[.val (.ref a), .val (.int x1), .val (.int x2), .val (.long key), .second, .unset]) X165 hx (hb hby d4_64) rfl (fun _ => rfl) fun key hkey => ?_
    refine Own.aloadN 66 X165 hx (hb hby d4_65) rfl rfl rfl ?_
    refine Own.dup 67 X165 hx (hb hby d4_66) rfl rfl ?_
    refine Own.getFld 70 X165 hx hZ hown (host := "") (Or.inl (w 28 rfl)) Via.refl e165 Ff_172 (hb hby d4_67) rfl ?_
    intro T177 X177 e177
    refine Own.lconst 71 X177 hx ((1 : Int64)) (hb hby d4_70) rfl rfl ?_
    refine Own.ladd 72 X177 hx (hb hby d4_71) rfl rfl ?_
    refine Own.putFld 75 X177 hx hZ hown (host := "") (Or.inl (w 28 rfl)) Via.refl e177 Ff_172 Ef_167 (Or.inl (w 29 rfl)) (w 1 rfl) (ty := .long) (by decide) rfl rfl (hb hby d4_72) rfl ?_
    intro T178 h178 X178 e178 W178
    have N178 := Fr.snoc X178 N165 g_a
    have Ef_180 := Ef_167.wr W178
    have Ff_181 := Ff_168.other W178 (Or.inr (slot_ne (Or.inl (w 15 rfl)) (Or.inl (w 29 rfl)) (by decide) (t := (.array .long)) (t' := .long) (by decide) (by decide)))
    have Ff_182 := Ff_169.other W178 (Or.inr (slot_ne (Or.inl (w 18 rfl)) (Or.inl (w 29 rfl)) (by decide) (t := (.array .int)) (t' := .long) (by decide) (by decide)))
    have Ff_183 := Ff_170.other W178 (Or.inr (slot_ne (Or.inl (w 25 rfl)) (Or.inl (w 29 rfl)) (by decide) (t := .int) (t' := .long) (by decide) (by decide)))
    have Ff_184 := Ff_171.other W178 (Or.inr (slot_ne (Or.inl (w 27 rfl)) (Or.inl (w 29 rfl)) (by decide) (t := .int) (t' := .long) (by decide) (by decide)))
    have Ff_185 := Ff_172.same W178
    have Af_186 := Af_173.other W178 (Ne.symm n1)
    have Af_187 := Af_174.other W178 (Ne.symm n2)
    have Af_188 := Af_175.other W178 (Ne.symm ne_a_k2)
    have Af_189 := Af_176.other W178 (Ne.symm ne_a_nn)
    have zl178 := Nat.le_trans zl165 (Nat.le_of_eq W178.size.symm)
    refine Own.aloadN 76 X178 hx (hb hby d4_75) rfl rfl rfl ?_
    refine Own.dup 77 X178 hx (hb hby d4_76) rfl rfl ?_
    refine Own.getFld 80 X178 hx hZ hown (host := "") (Or.inl (w 24 rfl)) Via.refl e178 Ff_183 (hb hby d4_77) rfl ?_
    intro T190 X190 e190
    refine Own.dupX1 81 X190 hx (hb hby d4_80) rfl rfl rfl ?_
    refine Own.iconst 82 X190 hx ((1 : Int32)) (hb hby d4_81) rfl rfl ?_
    refine Own.iadd 83 X190 hx (hb hby d4_82) rfl (show ((1 : Int32) + (1 : Int32)) = (2 : Int32) by decide) ?_
    refine Own.putFld 86 X190 hx hZ hown (host := "") (Or.inl (w 24 rfl)) Via.refl e190 Ff_183 Ef_180 (Or.inl (w 25 rfl)) (w 1 rfl) (ty := .int) (by decide) rfl rfl (hb hby d4_83) rfl ?_
    intro T191 h191 X191 e191 W191
    have N191 := Fr.snoc X191 N178 g_a
    have Ef_193 := Ef_180.wr W191
    have Ff_194 := Ff_181.other W191 (Or.inr (slot_ne (Or.inl (w 15 rfl)) (Or.inl (w 25 rfl)) (by decide) (t := (.array .long)) (t' := .int) (by decide) (by decide)))
    have Ff_195 := Ff_182.other W191 (Or.inr (slot_ne (Or.inl (w 18 rfl)) (Or.inl (w 25 rfl)) (by decide) (t := (.array .int)) (t' := .int) (by decide) (by decide)))
    have Ff_196 := Ff_183.same W191
    have Ff_197 := Ff_184.other W191 (Or.inr (slot_ne (Or.inl (w 27 rfl)) (Or.inl (w 25 rfl)) (by decide) (t := .int) (t' := .int) (by decide) (by decide)))
    have Ff_198 := Ff_185.other W191 (Or.inr (slot_ne (Or.inl (w 29 rfl)) (Or.inl (w 25 rfl)) (by decide) (t := .long) (t' := .int) (by decide) (by decide)))
    have Af_199 := Af_186.other W191 (Ne.symm n1)
    have Af_200 := Af_187.other W191 (Ne.symm n2)
    have Af_201 := Af_188.other W191 (Ne.symm ne_a_k2)
    have Af_202 := Af_189.other W191 (Ne.symm ne_a_nn)
    have zl191 := Nat.le_trans zl178 (Nat.le_of_eq W191.size.symm)
    refine Own.istoreV 88 #[.val (.ref a), .val (.int x1), .val (.int x2), .val (.long key), .second, .val (.int (1 : Int32))] X191 hx (hb hby d4_86) rfl rfl ?_
    refine Own.iload 90 X191 hx (hb hby d4_88) rfl rfl ?_
    refine Own.if_le 166 93 X191 hx (hb hby d4_90) (by decide) rfl (fun tk => absurd tk (by decide)) (fun tk => ?_)
    refine Own.lloadN 94 X191 hx (hb hby d4_93) rfl rfl ?_
    refine Own.aloadN 95 X191 hx (hb hby d4_94) rfl rfl rfl ?_
    refine Own.getFld 98 X191 hx hZ hown (host := "") (Or.inl (w 14 rfl)) Via.refl e191 Ff_194 (hb hby d4_95) rfl ?_
    intro T203 X203 e203
    refine Own.iload 100 X203 hx (hb hby d4_98) rfl rfl ?_
    refine Own.iconst 101 X203 hx ((1 : Int32)) (hb hby d4_100) rfl rfl ?_
    refine Own.isub 102 X203 hx (hb hby d4_101) rfl (show ((1 : Int32) - (1 : Int32)) = (0 : Int32) by decide) ?_
    refine Own.iconst 103 X203 hx ((2 : Int32)) (hb hby d4_102) rfl rfl ?_
    refine Own.idiv 104 X203 hx (hb hby d4_103) rfl (by decide) (show ((0 : Int32) / (2 : Int32)) = (0 : Int32) by decide) ?_
    refine Own.axLoadJ 105 X203 hx hZ e203 Af_201 (own_ix (j := (0 : Int32)) (c := (2 : Int32)) (by decide) (by rw [own_t0]; first | omega | decide)) (hb hby d4_104) rfl fun kv => ?_
    refine Own.lif_ge 166 109 X203 hx (hb hby d4_105) rfl (hb hby d4_106) (by decide) rfl (fun b1 => ?_) (fun b1 => ?_)
    ·
      refine Own.aloadN 167 X203 hx (hb hby d4_166) rfl rfl rfl ?_
      refine Own.getFld 170 X203 hx hZ hown (host := "") (Or.inl (w 14 rfl)) Via.refl e203 Ff_194 (hb hby d4_167) rfl ?_
      intro T204 X204 e204
      refine Own.iload 172 X204 hx (hb hby d4_170) rfl rfl ?_
      refine Own.lloadN 173 X204 hx (hb hby d4_172) rfl rfl ?_
      refine Own.axStoreJ 174 X204 hx hZ e204 Af_201 (own_ix (j := (1 : Int32)) (c := (2 : Int32)) (by decide) (by rw [own_t1]; first | omega | decide)) (hb hby d4_173) rfl ?_
      intro T205 h205 X205 e205 W205 A205
      have N205 := Fr.snoc X205 N191 g_k2
      have Ef_207 := Ef_193.wr W205
      have Ff_208 := Ff_194.other W205 (Or.inl ne_a_k2)
      have Ff_209 := Ff_195.other W205 (Or.inl ne_a_k2)
      have Ff_210 := Ff_196.other W205 (Or.inl ne_a_k2)
      have Ff_211 := Ff_197.other W205 (Or.inl ne_a_k2)
      have Ff_212 := Ff_198.other W205 (Or.inl ne_a_k2)
      have Af_213 := Af_199.other W205 ne_kb_k2
      have Af_214 := Af_200.other W205 ne_nb_k2
      have Af_216 := Af_202.other W205 (Ne.symm ne_k2_nn)
      have zl205 := Nat.le_trans zl191 (Nat.le_of_eq W205.size.symm)
      refine Own.aloadN 175 X205 hx (hb hby d4_174) rfl rfl rfl ?_
      refine Own.getFld 178 X205 hx hZ hown (host := "") (Or.inl (w 17 rfl)) Via.refl e205 Ff_209 (hb hby d4_175) rfl ?_
      intro T217 X217 e217
      refine Own.iload 180 X217 hx (hb hby d4_178) rfl rfl ?_
      refine Own.iloadN 181 X217 hx (hb hby d4_180) rfl rfl ?_
      refine Own.axStoreI 182 X217 hx hZ e217 Af_216 (own_ix (j := (1 : Int32)) (c := (2 : Int32)) (by decide) (by rw [own_t1]; first | omega | decide)) (hb hby d4_181) rfl ?_
      intro T218 h218 X218 e218 W218 A218
      have N218 := Fr.snoc X218 N205 g_nn
      have Ef_220 := Ef_207.wr W218
      have Ff_221 := Ff_208.other W218 (Or.inl ne_a_nn)
      have Ff_222 := Ff_209.other W218 (Or.inl ne_a_nn)
      have Ff_223 := Ff_210.other W218 (Or.inl ne_a_nn)
      have Ff_224 := Ff_211.other W218 (Or.inl ne_a_nn)
      have Ff_225 := Ff_212.other W218 (Or.inl ne_a_nn)
      have Af_226 := Af_213.other W218 ne_kb_nn
      have Af_227 := Af_214.other W218 ne_nb_nn
      have Af_228 := A205.other W218 ne_k2_nn
      have zl218 := Nat.le_trans zl205 (Nat.le_of_eq W218.size.symm)
      refine Own.retVoid X218 hx hlk hret (hb hby d4_182) (by decide) (by decide) ?_
      rw [e218]
      exact ⟨rfl, N218, k2, nn, (2 : Int32), ⟨Ef_220, Ff_221, Ff_222, Ff_223, ⟨_, Ff_224⟩, ⟨_, Ff_225⟩, Af_228, A218, ne_a_k2, ne_a_nn, ne_k2_nn, g_a, g_k2, g_nn⟩, by first | omega | decide, by first | omega | decide⟩
    ·
      refine Own.aloadN 110 X203 hx (hb hby d4_109) rfl rfl rfl ?_
      refine Own.dup 111 X203 hx (hb hby d4_110) rfl rfl ?_
      refine Own.getFld 114 X203 hx hZ hown (host := "") (Or.inl (w 28 rfl)) Via.refl e203 Ff_198 (hb hby d4_111) rfl ?_
      intro T230 X230 e230
      refine Own.lconst 115 X230 hx ((1 : Int64)) (hb hby d4_114) rfl rfl ?_
      refine Own.ladd 116 X230 hx (hb hby d4_115) rfl rfl ?_
      refine Own.putFld 119 X230 hx hZ hown (host := "") (Or.inl (w 28 rfl)) Via.refl e230 Ff_198 Ef_193 (Or.inl (w 29 rfl)) (w 1 rfl) (ty := .long) (by decide) rfl rfl (hb hby d4_116) rfl ?_
      intro T231 h231 X231 e231 W231
      have N231 := Fr.snoc X231 N191 g_a
      have Ef_233 := Ef_193.wr W231
      have Ff_234 := Ff_194.other W231 (Or.inr (slot_ne (Or.inl (w 15 rfl)) (Or.inl (w 29 rfl)) (by decide) (t := (.array .long)) (t' := .long) (by decide) (by decide)))
      have Ff_235 := Ff_195.other W231 (Or.inr (slot_ne (Or.inl (w 18 rfl)) (Or.inl (w 29 rfl)) (by decide) (t := (.array .int)) (t' := .long) (by decide) (by decide)))
      have Ff_236 := Ff_196.other W231 (Or.inr (slot_ne (Or.inl (w 25 rfl)) (Or.inl (w 29 rfl)) (by decide) (t := .int) (t' := .long) (by decide) (by decide)))
      have Ff_237 := Ff_197.other W231 (Or.inr (slot_ne (Or.inl (w 27 rfl)) (Or.inl (w 29 rfl)) (by decide) (t := .int) (t' := .long) (by decide) (by decide)))
      have Ff_238 := Ff_198.same W231
      have Af_239 := Af_199.other W231 (Ne.symm n1)
      have Af_240 := Af_200.other W231 (Ne.symm n2)
      have Af_241 := Af_201.other W231 (Ne.symm ne_a_k2)
      have Af_242 := Af_202.other W231 (Ne.symm ne_a_nn)
      have zl231 := Nat.le_trans zl191 (Nat.le_of_eq W231.size.symm)
      refine Own.aloadN 120 X231 hx (hb hby d4_119) rfl rfl rfl ?_
      refine Own.getFld 123 X231 hx hZ hown (host := "") (Or.inl (w 14 rfl)) Via.refl e231 Ff_234 (hb hby d4_120) rfl ?_
      intro T243 X243 e243
      refine Own.iload 125 X243 hx (hb hby d4_123) rfl rfl ?_
      refine Own.aloadN 126 X243 hx (hb hby d4_125) rfl rfl rfl ?_
      refine Own.getFld 129 X243 hx hZ hown (host := "") (Or.inl (w 14 rfl)) Via.refl e243 Ff_234 (hb hby d4_126) rfl ?_
      intro T244 X244 e244
      refine Own.iload 131 X244 hx (hb hby d4_129) rfl rfl ?_
      refine Own.iconst 132 X244 hx ((1 : Int32)) (hb hby d4_131) rfl rfl ?_
      refine Own.isub 133 X244 hx (hb hby d4_132) rfl (show ((1 : Int32) - (1 : Int32)) = (0 : Int32) by decide) ?_
      refine Own.iconst 134 X244 hx ((2 : Int32)) (hb hby d4_133) rfl rfl ?_
      refine Own.idiv 135 X244 hx (hb hby d4_134) rfl (by decide) (show ((0 : Int32) / (2 : Int32)) = (0 : Int32) by decide) ?_
      refine Own.axLoadJ 136 X244 hx hZ e244 Af_241 (own_ix (j := (0 : Int32)) (c := (2 : Int32)) (by decide) (by rw [own_t0]; first | omega | decide)) (hb hby d4_135) rfl fun kv2 => ?_
      refine Own.axStoreJ 137 X244 hx hZ e244 Af_241 (own_ix (j := (1 : Int32)) (c := (2 : Int32)) (by decide) (by rw [own_t1]; first | omega | decide)) (hb hby d4_136) rfl ?_
      intro T245 h245 X245 e245 W245 A245
      have N245 := Fr.snoc X245 N231 g_k2
      have Ef_247 := Ef_233.wr W245
      have Ff_248 := Ff_234.other W245 (Or.inl ne_a_k2)
      have Ff_249 := Ff_235.other W245 (Or.inl ne_a_k2)
      have Ff_250 := Ff_236.other W245 (Or.inl ne_a_k2)
      have Ff_251 := Ff_237.other W245 (Or.inl ne_a_k2)
      have Ff_252 := Ff_238.other W245 (Or.inl ne_a_k2)
      have Af_253 := Af_239.other W245 ne_kb_k2
      have Af_254 := Af_240.other W245 ne_nb_k2
      have Af_256 := Af_242.other W245 (Ne.symm ne_k2_nn)
      have zl245 := Nat.le_trans zl231 (Nat.le_of_eq W245.size.symm)
      refine Own.aloadN 138 X245 hx (hb hby d4_137) rfl rfl rfl ?_
      refine Own.getFld 141 X245 hx hZ hown (host := "") (Or.inl (w 17 rfl)) Via.refl e245 Ff_249 (hb hby d4_138) rfl ?_
      intro T257 X257 e257
      refine Own.iload 143 X257 hx (hb hby d4_141) rfl rfl ?_
      refine Own.aloadN 144 X257 hx (hb hby d4_143) rfl rfl rfl ?_
      refine Own.getFld 147 X257 hx hZ hown (host := "") (Or.inl (w 17 rfl)) Via.refl e257 Ff_249 (hb hby d4_144) rfl ?_
      intro T258 X258 e258
      refine Own.iload 149 X258 hx (hb hby d4_147) rfl rfl ?_
      refine Own.iconst 150 X258 hx ((1 : Int32)) (hb hby d4_149) rfl rfl ?_
      refine Own.isub 151 X258 hx (hb hby d4_150) rfl (show ((1 : Int32) - (1 : Int32)) = (0 : Int32) by decide) ?_
      refine Own.iconst 152 X258 hx ((2 : Int32)) (hb hby d4_151) rfl rfl ?_
      refine Own.idiv 153 X258 hx (hb hby d4_152) rfl (by decide) (show ((0 : Int32) / (2 : Int32)) = (0 : Int32) by decide) ?_
      refine Own.axLoadI 154 X258 hx hZ e258 Af_256 (own_ix (j := (0 : Int32)) (c := (2 : Int32)) (by decide) (by rw [own_t0]; first | omega | decide)) (hb hby d4_153) rfl fun nv2 => ?_
      refine Own.axStoreI 155 X258 hx hZ e258 Af_256 (own_ix (j := (1 : Int32)) (c := (2 : Int32)) (by decide) (by rw [own_t1]; first | omega | decide)) (hb hby d4_154) rfl ?_
      intro T259 h259 X259 e259 W259 A259
      have N259 := Fr.snoc X259 N245 g_nn
      have Ef_261 := Ef_247.wr W259
      have Ff_262 := Ff_248.other W259 (Or.inl ne_a_nn)
      have Ff_263 := Ff_249.other W259 (Or.inl ne_a_nn)
      have Ff_264 := Ff_250.other W259 (Or.inl ne_a_nn)
      have Ff_265 := Ff_251.other W259 (Or.inl ne_a_nn)
      have Ff_266 := Ff_252.other W259 (Or.inl ne_a_nn)
      have Af_267 := Af_253.other W259 ne_kb_nn
      have Af_268 := Af_254.other W259 ne_nb_nn
      have Af_269 := A245.other W259 ne_k2_nn
      have zl259 := Nat.le_trans zl245 (Nat.le_of_eq W259.size.symm)
      refine Own.iload 157 X259 hx (hb hby d4_155) rfl rfl ?_
      refine Own.iconst 158 X259 hx ((1 : Int32)) (hb hby d4_157) rfl rfl ?_
      refine Own.isub 159 X259 hx (hb hby d4_158) rfl (show ((1 : Int32) - (1 : Int32)) = (0 : Int32) by decide) ?_
      refine Own.iconst 160 X259 hx ((2 : Int32)) (hb hby d4_159) rfl rfl ?_
      refine Own.idiv 161 X259 hx (hb hby d4_160) rfl (by decide) (show ((0 : Int32) / (2 : Int32)) = (0 : Int32) by decide) ?_
      refine Own.istoreV 163 #[.val (.ref a), .val (.int x1), .val (.int x2), .val (.long key), .second, .val (.int (0 : Int32))] X259 hx (hb hby d4_161) rfl rfl ?_
      refine Own.goto 88 X259 hx (hb hby d4_163) (by decide) ?_
      refine Own.iload 90 X259 hx (hb hby d4_88) rfl rfl ?_
      refine Own.if_le 166 93 X259 hx (hb hby d4_90) (by decide) rfl (fun tk => ?_) (fun tk => absurd tk (by decide))
      refine Own.aloadN 167 X259 hx (hb hby d4_166) rfl rfl rfl ?_
      refine Own.getFld 170 X259 hx hZ hown (host := "") (Or.inl (w 14 rfl)) Via.refl e259 Ff_262 (hb hby d4_167) rfl ?_
      intro T271 X271 e271
      refine Own.iload 172 X271 hx (hb hby d4_170) rfl rfl ?_
      refine Own.lloadN 173 X271 hx (hb hby d4_172) rfl rfl ?_
      refine Own.axStoreJ 174 X271 hx hZ e271 Af_269 (own_ix (j := (0 : Int32)) (c := (2 : Int32)) (by decide) (by rw [own_t0]; first | omega | decide)) (hb hby d4_173) rfl ?_
      intro T272 h272 X272 e272 W272 A272
      have N272 := Fr.snoc X272 N259 g_k2
      have Ef_274 := Ef_261.wr W272
      have Ff_275 := Ff_262.other W272 (Or.inl ne_a_k2)
      have Ff_276 := Ff_263.other W272 (Or.inl ne_a_k2)
      have Ff_277 := Ff_264.other W272 (Or.inl ne_a_k2)
      have Ff_278 := Ff_265.other W272 (Or.inl ne_a_k2)
      have Ff_279 := Ff_266.other W272 (Or.inl ne_a_k2)
      have Af_280 := Af_267.other W272 ne_kb_k2
      have Af_281 := Af_268.other W272 ne_nb_k2
      have Af_283 := A259.other W272 (Ne.symm ne_k2_nn)
      have zl272 := Nat.le_trans zl259 (Nat.le_of_eq W272.size.symm)
      refine Own.aloadN 175 X272 hx (hb hby d4_174) rfl rfl rfl ?_
      refine Own.getFld 178 X272 hx hZ hown (host := "") (Or.inl (w 17 rfl)) Via.refl e272 Ff_276 (hb hby d4_175) rfl ?_
      intro T284 X284 e284
      refine Own.iload 180 X284 hx (hb hby d4_178) rfl rfl ?_
      refine Own.iloadN 181 X284 hx (hb hby d4_180) rfl rfl ?_
      refine Own.axStoreI 182 X284 hx hZ e284 Af_283 (own_ix (j := (0 : Int32)) (c := (2 : Int32)) (by decide) (by rw [own_t0]; first | omega | decide)) (hb hby d4_181) rfl ?_
      intro T285 h285 X285 e285 W285 A285
      have N285 := Fr.snoc X285 N272 g_nn
      have Ef_287 := Ef_274.wr W285
      have Ff_288 := Ff_275.other W285 (Or.inl ne_a_nn)
      have Ff_289 := Ff_276.other W285 (Or.inl ne_a_nn)
      have Ff_290 := Ff_277.other W285 (Or.inl ne_a_nn)
      have Ff_291 := Ff_278.other W285 (Or.inl ne_a_nn)
      have Ff_292 := Ff_279.other W285 (Or.inl ne_a_nn)
      have Af_293 := Af_280.other W285 ne_kb_nn
      have Af_294 := Af_281.other W285 ne_nb_nn
      have Af_295 := A272.other W285 ne_k2_nn
      have zl285 := Nat.le_trans zl272 (Nat.le_of_eq W285.size.symm)
      refine Own.retVoid X285 hx hlk hret (hb hby d4_182) (by decide) (by decide) ?_
      rw [e285]
      exact ⟨rfl, N285, k2, nn, (2 : Int32), ⟨Ef_287, Ff_288, Ff_289, Ff_290, ⟨_, Ff_291⟩, ⟨_, Ff_292⟩, Af_295, A285, ne_a_k2, ne_a_nn, ne_k2_nn, g_a, g_k2, g_nn⟩, by first | omega | decide, by first | omega | decide⟩
set_option maxRecDepth 65536 in
set_option maxHeartbeats 40000000 in
theorem m4_2 (l : Launch) (Z : State) (a0 : Array Value) (w : ∀ (i : Nat) {d : Jvm.Cond}, tables_1[i]? = some d → d.before a0 Z = true) (a : Addr) (x1 : Int32) (x2 : Int32) (kb nb : Addr) (cp : Int32) (n0 : Nat) (h0 : Heap) (D : own_DQ Z h0 n0 a kb nb cp (2 : Int32)) (hc : 2 ≤ cp.toInt ∧ cp.toInt ≤ 2) :
    Own.Met l Z (⟨"com/example/leveler/leveler/leveling/DistanceQueue", "add", "(II)V"⟩ : MethodName) prog_47_method_5_code 6 none [] ({ frames := 2, cells := 2, slots := 8, locals := 33 } : Room) #[(.ref a), (.int x1), (.int x2)] h0 (fun v h L => v = none ∧ Fr n0 L ∧ ∃ (kb nb : Addr) (c : Int32), own_DQ Z h n0 a kb nb c (3 : Int32) ∧ 3 ≤ c.toInt ∧ c.toInt ≤ 4) := by
  refine Own.Met.of (plainFor_of_name (by first | (simp [plainName, overriddenIn]; done) | decide +kernel)) ?_
  intro p e s m below meth c T0 hx hby hml hown hnm hret hlk hZ X0 e0
  have hown : s.vm.findClass "com/example/leveler/leveler/leveling/DistanceQueue" = some m.cls := hown
  have hml : c.maxLocals = 6 := hml
  have hnm : meth.name = "add" := hnm
  have ef : entryFrame m #[(.ref a), (.int x1), (.int x2)] 6 = mkF m 0 #[.val (.ref a), .val (.int x1), .val (.int x2), .unset, .unset, .unset] [] := by first | (simp [entryFrame, mkF, argsToLocals, Value.category]; done) | rfl
  rw [ef]
  obtain ⟨E_a, Fk, Fn, Fs, ⟨ad, Fa⟩, ⟨st, Ft⟩, Ak, An, n1, n2, n3, g_a, g_k, g_n⟩ := D
  have N0 := Fr.nil n0
  have Z0 : n0 ≤ h0.size := Nat.le_trans g_a (Nat.le_of_lt E_a.lt)
  refine Own.aloadN 1 X0 hx (hb hby d4_0) rfl rfl rfl ?_
  refine Own.getFld 4 X0 hx hZ hown (host := "") (Or.inl (w 24 rfl)) Via.refl e0 Fs (hb hby d4_1) rfl ?_
  intro T1 X1 e1
  refine Own.aloadN 5 X1 hx (hb hby d4_4) rfl rfl rfl ?_
  refine Own.getFld 8 X1 hx hZ hown (host := "") (Or.inl (w 14 rfl)) Via.refl e1 Fk (hb hby d4_5) rfl ?_
  intro T2 X2 e2
  refine Own.axLen 9 X2 hx hZ e2 Ak (hb hby d4_8) rfl ?_
  obtain rfl : cp = 2 := Int32.toInt_inj.mp (by rw [own_t2]; omega)
  refine Own.icmp_ne 46 12 X2 hx (hb hby d4_9) (by decide) rfl (fun tk => absurd rfl tk) (fun tk => ?_)
  refine Own.aloadN 13 X2 hx (hb hby d4_12) rfl rfl rfl ?_
  refine Own.aloadN 14 X2 hx (hb hby d4_13) rfl rfl rfl ?_
  refine Own.getFld 17 X2 hx hZ hown (host := "") (Or.inl (w 14 rfl)) Via.refl e2 Fk (hb hby d4_14) rfl ?_
  intro T3 X3 e3
  refine Own.iconst 18 X3 hx ((2 : Int32)) (hb hby d4_17) rfl rfl ?_
  refine Own.aloadN 19 X3 hx (hb hby d4_18) rfl rfl rfl ?_
  refine Own.getFld 22 X3 hx hZ hown (host := "") (Or.inl (w 24 rfl)) Via.refl e3 Fs (hb hby d4_19) rfl ?_
  intro T4 X4 e4
  refine Own.imul 23 X4 hx (hb hby d4_22) rfl (show ((2 : Int32) * (2 : Int32)) = (4 : Int32) by decide) ?_
  refine Own.callSt 26 1 [(.ref kb), (.int (4 : Int32))] [(.ref a)] X4 hx hZ hown (m5 l Z a0 w kb (4 : Int32) _ n0 _ Z0 Ak (by decide)) (w 30 rfl) (w 31 rfl) (w 32 rfl) (w 33 rfl) (by decide) e4 (by decide) (by decide) (by decide) (by decide) (by rw [hml]; rfl) (lenOf pd_1 rfl) rfl (Nat.le_of_eq rfl) (hb hby d4_23) rfl ?_
  rintro vv T5 L5 X5 ⟨k2, rfl, N5q, K5, sz5, g_k2, A_k2⟩
  have ne_a_k2 : a ≠ k2 := Nat.ne_of_lt (Nat.lt_of_lt_of_le E_a.lt sz5)
  have ne_kb_k2 : kb ≠ k2 := Nat.ne_of_lt (Nat.lt_of_lt_of_le Ak.lt sz5)
  have ne_nb_k2 : nb ≠ k2 := Nat.ne_of_lt (Nat.lt_of_lt_of_le An.lt sz5)
  have Ef_7 := E_a.keep K5
  have Ff_8 := Fk.keep K5 nin0
  have Ff_9 := Fn.keep K5 nin0
  have Ff_10 := Fs.keep K5 nin0
  have Ff_11 := Fa.keep K5 nin0
  have Ff_12 := Ft.keep K5 nin0
  have Af_13 := Ak.keep K5 nin0
  have Af_14 := An.keep K5 nin0
  have N5 := Fr.app N0 N5q
  have zl5 := Nat.le_trans Z0 K5.1
  refine Own.putFld 29 X5 hx hZ hown (host := "") (Or.inl (w 14 rfl)) Via.refl rfl Ff_8 Ef_7 (Or.inl (w 15 rfl)) (w 1 rfl) (ty := (.array .long)) (by decide) rfl rfl (hb hby d4_26) rfl ?_
  intro T15 h15 X15 e15 W15
  have N15 := Fr.snoc X15 N5 g_a
  have Ef_17 := Ef_7.wr W15
  have Ff_18 := Ff_8.same W15
  have Ff_19 := Ff_9.other W15 (Or.inr (slot_ne (Or.inl (w 18 rfl)) (Or.inl (w 15 rfl)) (by decide) (t := (.array .int)) (t' := (.array .long)) (by decide) (by decide)))
  have Ff_20 := Ff_10.other W15 (Or.inr (slot_ne (Or.inl (w 25 rfl)) (Or.inl (w 15 rfl)) (by decide) (t := .int) (t' := (.array .long)) (by decide) (by decide)))
  have Ff_21 := Ff_11.other W15 (Or.inr (slot_ne (Or.inl (w 27 rfl)) (Or.inl (w 15 rfl)) (by decide) (t := .int) (t' := (.array .long)) (by decide) (by decide)))
  have Ff_22 := Ff_12.other W15 (Or.inr (slot_ne (Or.inl (w 29 rfl)) (Or.inl (w 15 rfl)) (by decide) (t := .long) (t' := (.array .long)) (by decide) (by decide)))
  have Af_23 := Af_13.other W15 (Ne.symm n1)
  have Af_24 := Af_14.other W15 (Ne.symm n2)
  have Af_25 := A_k2.other W15 (Ne.symm ne_a_k2)
  have zl15 := Nat.le_trans zl5 (Nat.le_of_eq W15.size.symm)
  refine Own.aloadN 30 X15 hx (hb hby d4_29) rfl rfl rfl ?_
  refine Own.aloadN 31 X15 hx (hb hby d4_30) rfl rfl rfl ?_
  refine Own.getFld 34 X15 hx hZ hown (host := "") (Or.inl (w 17 rfl)) Via.refl e15 Ff_19 (hb hby d4_31) rfl ?_
  intro T26 X26 e26
  refine Own.iconst 35 X26 hx ((2 : Int32)) (hb hby d4_34) rfl rfl ?_
  refine Own.aloadN 36 X26 hx (hb hby d4_35) rfl rfl rfl ?_
  refine Own.getFld 39 X26 hx hZ hown (host := "") (Or.inl (w 24 rfl)) Via.refl e26 Ff_20 (hb hby d4_36) rfl ?_
  intro T27 X27 e27
  refine Own.imul 40 X27 hx (hb hby d4_39) rfl (show ((2 : Int32) * (2 : Int32)) = (4 : Int32) by decide) ?_
  refine Own.callSt 43 1 [(.ref nb), (.int (4 : Int32))] [(.ref a)] X27 hx hZ hown (m7 l Z a0 w nb (4 : Int32) _ n0 _ zl15 Af_24 (by decide)) (w 41 rfl) (w 42 rfl) (w 32 rfl) (w 43 rfl) (by decide) e27 (by decide) (by decide) (by decide) (by decide) (by rw [hml]; rfl) (lenOf pd_2 rfl) rfl (Nat.le_of_eq rfl) (hb hby d4_40) rfl ?_
  rintro vv T28 L28 X28 ⟨nn, rfl, N28q, K28, sz28, g_nn, A_nn⟩
  have ne_a_nn : a ≠ nn := Nat.ne_of_lt (Nat.lt_of_lt_of_le Ef_17.lt sz28)
  have ne_kb_nn : kb ≠ nn := Nat.ne_of_lt (Nat.lt_of_lt_of_le Af_23.lt sz28)
  have ne_nb_nn : nb ≠ nn := Nat.ne_of_lt (Nat.lt_of_lt_of_le Af_24.lt sz28)
  have ne_k2_nn : k2 ≠ nn := Nat.ne_of_lt (Nat.lt_of_lt_of_le Af_25.lt sz28)
  have Ef_30 := Ef_17.keep K28
  have Ff_31 := Ff_18.keep K28 nin0
  have Ff_32 := Ff_19.keep K28 nin0
  have Ff_33 := Ff_20.keep K28 nin0
  have Ff_34 := Ff_21.keep K28 nin0
  have Ff_35 := Ff_22.keep K28 nin0
  have Af_36 := Af_23.keep K28 nin0
  have Af_37 := Af_24.keep K28 nin0
  have Af_38 := Af_25.keep K28 nin0
  have N28 := Fr.app N15 N28q
  have zl28 := Nat.le_trans zl15 K28.1
  refine Own.putFld 46 X28 hx hZ hown (host := "") (Or.inl (w 17 rfl)) Via.refl rfl Ff_32 Ef_30 (Or.inl (w 18 rfl)) (w 1 rfl) (ty := (.array .int)) (by decide) rfl rfl (hb hby d4_43) rfl ?_
  intro T39 h39 X39 e39 W39
  have N39 := Fr.snoc X39 N28 g_a
  have Ef_41 := Ef_30.wr W39
  have Ff_42 := Ff_31.other W39 (Or.inr (slot_ne (Or.inl (w 15 rfl)) (Or.inl (w 18 rfl)) (by decide) (t := (.array .long)) (t' := (.array .int)) (by decide) (by decide)))
  have Ff_43 := Ff_32.same W39
  have Ff_44 := Ff_33.other W39 (Or.inr (slot_ne (Or.inl (w 25 rfl)) (Or.inl (w 18 rfl)) (by decide) (t := .int) (t' := (.array .int)) (by decide) (by decide)))
  have Ff_45 := Ff_34.other W39 (Or.inr (slot_ne (Or.inl (w 27 rfl)) (Or.inl (w 18 rfl)) (by decide) (t := .int) (t' := (.array .int)) (by decide) (by decide)))
  have Ff_46 := Ff_35.other W39 (Or.inr (slot_ne (Or.inl (w 29 rfl)) (Or.inl (w 18 rfl)) (by decide) (t := .long) (t' := (.array .int)) (by decide) (by decide)))
  have Af_47 := Af_36.other W39 (Ne.symm n1)
  have Af_48 := Af_37.other W39 (Ne.symm n2)
  have Af_49 := Af_38.other W39 (Ne.symm ne_a_k2)
  have Af_50 := A_nn.other W39 (Ne.symm ne_a_nn)
  have zl39 := Nat.le_trans zl28 (Nat.le_of_eq W39.size.symm)
  refine Own.iloadN 47 X39 hx (hb hby d4_46) rfl rfl ?_
  refine Own.i2l 48 X39 hx (hb hby d4_47) rfl rfl ?_
  refine Own.bipush 50 X39 hx ((32 : Int32)) (hb hby d4_48) rfl rfl ?_
  refine Own.lshl 51 X39 hx (hb hby d4_50) rfl rfl ?_
  refine Own.aloadN 52 X39 hx (hb hby d4_51) rfl rfl rfl ?_
  refine Own.dup 53 X39 hx (hb hby d4_52) rfl rfl ?_
  refine Own.getFld 56 X39 hx hZ hown (host := "") (Or.inl (w 26 rfl)) Via.refl e39 Ff_45 (hb hby d4_53) rfl ?_
  intro T51 X51 e51
  refine Own.dupX1 57 X51 hx (hb hby d4_56) rfl rfl rfl ?_
  refine Own.iconst 58 X51 hx ((1 : Int32)) (hb hby d4_57) rfl rfl ?_
  refine Own.iadd 59 X51 hx (hb hby d4_58) rfl rfl ?_
  refine Own.putFld 62 X51 hx hZ hown (host := "") (Or.inl (w 26 rfl)) Via.refl e51 Ff_45 Ef_41 (Or.inl (w 27 rfl)) (w 1 rfl) (ty := .int) (by decide) rfl rfl (hb hby d4_59) rfl ?_
  intro T52 h52 X52 e52 W52
  have N52 := Fr.snoc X52 N39 g_a
  have Ef_54 := Ef_41.wr W52
  have Ff_55 := Ff_42.other W52 (Or.inr (slot_ne (Or.inl (w 15 rfl)) (Or.inl (w 27 rfl)) (by decide) (t := (.array .long)) (t' := .int) (by decide) (by decide)))
  have Ff_56 := Ff_43.other W52 (Or.inr (slot_ne (Or.inl (w 18 rfl)) (Or.inl (w 27 rfl)) (by decide) (t := (.array .int)) (t' := .int) (by decide) (by decide)))
  have Ff_57 := Ff_44.other W52 (Or.inr (slot_ne (Or.inl (w 25 rfl)) (Or.inl (w 27 rfl)) (by decide) (t := .int) (t' := .int) (by decide) (by decide)))
  have Ff_58 := Ff_45.same W52
  have Ff_59 := Ff_46.other W52 (Or.inr (slot_ne (Or.inl (w 29 rfl)) (Or.inl (w 27 rfl)) (by decide) (t := .long) (t' := .int) (by decide) (by decide)))
  have Af_60 := Af_47.other W52 (Ne.symm n1)
  have Af_61 := Af_48.other W52 (Ne.symm n2)
  have Af_62 := Af_49.other W52 (Ne.symm ne_a_k2)
  have Af_63 := Af_50.other W52 (Ne.symm ne_a_nn)
  have zl52 := Nat.le_trans zl39 (Nat.le_of_eq W52.size.symm)
  refine Own.i2l 63 X52 hx (hb hby d4_62) rfl rfl ?_
  refine Own.lor 64 X52 hx (hb hby d4_63) rfl rfl ?_
  refine Own.lstoreN 65 (fun key => #[.val (.ref a), .val (.int x1), .val (.int x2), .val (.long key), .second, .unset]) X52 hx (hb hby d4_64) rfl (fun _ => rfl) fun key hkey => ?_
  refine Own.aloadN 66 X52 hx (hb hby d4_65) rfl rfl rfl ?_
  refine Own.dup 67 X52 hx (hb hby d4_66) rfl rfl ?_
  refine Own.getFld 70 X52 hx hZ hown (host := "") (Or.inl (w 28 rfl)) Via.refl e52 Ff_59 (hb hby d4_67) rfl ?_
  intro T64 X64 e64
  refine Own.lconst 71 X64 hx ((1 : Int64)) (hb hby d4_70) rfl rfl ?_
  refine Own.ladd 72 X64 hx (hb hby d4_71) rfl rfl ?_
  refine Own.putFld 75 X64 hx hZ hown (host := "") (Or.inl (w 28 rfl)) Via.refl e64 Ff_59 Ef_54 (Or.inl (w 29 rfl)) (w 1 rfl) (ty := .long) (by decide) rfl rfl (hb hby d4_72) rfl ?_
  intro T65 h65 X65 e65 W65
  have N65 := Fr.snoc X65 N52 g_a
  have Ef_67 := Ef_54.wr W65
  have Ff_68 := Ff_55.other W65 (Or.inr (slot_ne (Or.inl (w 15 rfl)) (Or.inl (w 29 rfl)) (by decide) (t := (.array .long)) (t' := .long) (by decide) (by decide)))
  have Ff_69 := Ff_56.other W65 (Or.inr (slot_ne (Or.inl (w 18 rfl)) (Or.inl (w 29 rfl)) (by decide) (t := (.array .int)) (t' := .long) (by decide) (by decide)))
  have Ff_70 := Ff_57.other W65 (Or.inr (slot_ne (Or.inl (w 25 rfl)) (Or.inl (w 29 rfl)) (by decide) (t := .int) (t' := .long) (by decide) (by decide)))
  have Ff_71 := Ff_58.other W65 (Or.inr (slot_ne (Or.inl (w 27 rfl)) (Or.inl (w 29 rfl)) (by decide) (t := .int) (t' := .long) (by decide) (by decide)))
  have Ff_72 := Ff_59.same W65
  have Af_73 := Af_60.other W65 (Ne.symm n1)
  have Af_74 := Af_61.other W65 (Ne.symm n2)
  have Af_75 := Af_62.other W65 (Ne.symm ne_a_k2)
  have Af_76 := Af_63.other W65 (Ne.symm ne_a_nn)
  have zl65 := Nat.le_trans zl52 (Nat.le_of_eq W65.size.symm)
  refine Own.aloadN 76 X65 hx (hb hby d4_75) rfl rfl rfl ?_
  refine Own.dup 77 X65 hx (hb hby d4_76) rfl rfl ?_
  refine Own.getFld 80 X65 hx hZ hown (host := "") (Or.inl (w 24 rfl)) Via.refl e65 Ff_70 (hb hby d4_77) rfl ?_
  intro T77 X77 e77
  refine Own.dupX1 81 X77 hx (hb hby d4_80) rfl rfl rfl ?_
  refine Own.iconst 82 X77 hx ((1 : Int32)) (hb hby d4_81) rfl rfl ?_
  refine Own.iadd 83 X77 hx (hb hby d4_82) rfl (show ((2 : Int32) + (1 : Int32)) = (3 : Int32) by decide) ?_
  refine Own.putFld 86 X77 hx hZ hown (host := "") (Or.inl (w 24 rfl)) Via.refl e77 Ff_70 Ef_67 (Or.inl (w 25 rfl)) (w 1 rfl) (ty := .int) (by decide) rfl rfl (hb hby d4_83) rfl ?_
  intro T78 h78 X78 e78 W78
  have N78 := Fr.snoc X78 N65 g_a
  have Ef_80 := Ef_67.wr W78
  have Ff_81 := Ff_68.other W78 (Or.inr (slot_ne (Or.inl (w 15 rfl)) (Or.inl (w 25 rfl)) (by decide) (t := (.array .long)) (t' := .int) (by decide) (by decide)))
  have Ff_82 := Ff_69.other W78 (Or.inr (slot_ne (Or.inl (w 18 rfl)) (Or.inl (w 25 rfl)) (by decide) (t := (.array .int)) (t' := .int) (by decide) (by decide)))
  have Ff_83 := Ff_70.same W78
  have Ff_84 := Ff_71.other W78 (Or.inr (slot_ne (Or.inl (w 27 rfl)) (Or.inl (w 25 rfl)) (by decide) (t := .int) (t' := .int) (by decide) (by decide)))
  have Ff_85 := Ff_72.other W78 (Or.inr (slot_ne (Or.inl (w 29 rfl)) (Or.inl (w 25 rfl)) (by decide) (t := .long) (t' := .int) (by decide) (by decide)))
  have Af_86 := Af_73.other W78 (Ne.symm n1)
  have Af_87 := Af_74.other W78 (Ne.symm n2)
  have Af_88 := Af_75.other W78 (Ne.symm ne_a_k2)
  have Af_89 := Af_76.other W78 (Ne.symm ne_a_nn)
  have zl78 := Nat.le_trans zl65 (Nat.le_of_eq W78.size.symm)
  refine Own.istoreV 88 #[.val (.ref a), .val (.int x1), .val (.int x2), .val (.long key), .second, .val (.int (2 : Int32))] X78 hx (hb hby d4_86) rfl rfl ?_
  refine Own.iload 90 X78 hx (hb hby d4_88) rfl rfl ?_
  refine Own.if_le 166 93 X78 hx (hb hby d4_90) (by decide) rfl (fun tk => absurd tk (by decide)) (fun tk => ?_)
  refine Own.lloadN 94 X78 hx (hb hby d4_93) rfl rfl ?_
  refine Own.aloadN 95 X78 hx (hb hby d4_94) rfl rfl rfl ?_
  refine Own.getFld 98 X78 hx hZ hown (host := "") (Or.inl (w 14 rfl)) Via.refl e78 Ff_81 (hb hby d4_95) rfl ?_
  intro T90 X90 e90
  refine Own.iload 100 X90 hx (hb hby d4_98) rfl rfl ?_
  refine Own.iconst 101 X90 hx ((1 : Int32)) (hb hby d4_100) rfl rfl ?_
  refine Own.isub 102 X90 hx (hb hby d4_101) rfl (show ((2 : Int32) - (1 : Int32)) = (1 : Int32) by decide) ?_
  refine Own.iconst 103 X90 hx ((2 : Int32)) (hb hby d4_102) rfl rfl ?_
  refine Own.idiv 104 X90 hx (hb hby d4_103) rfl (by decide) (show ((1 : Int32) / (2 : Int32)) = (0 : Int32) by decide) ?_
  refine Own.axLoadJ 105 X90 hx hZ e90 Af_88 (own_ix (j := (0 : Int32)) (c := (4 : Int32)) (by decide) (by rw [own_t0]; first | omega | decide)) (hb hby d4_104) rfl fun kv => ?_
  refine Own.lif_ge 166 109 X90 hx (hb hby d4_105) rfl (hb hby d4_106) (by decide) rfl (fun b1 => ?_) (fun b1 => ?_)
  ·
    refine Own.aloadN 167 X90 hx (hb hby d4_166) rfl rfl rfl ?_
    refine Own.getFld 170 X90 hx hZ hown (host := "") (Or.inl (w 14 rfl)) Via.refl e90 Ff_81 (hb hby d4_167) rfl ?_
    intro T91 X91 e91
    refine Own.iload 172 X91 hx (hb hby d4_170) rfl rfl ?_
    refine Own.lloadN 173 X91 hx (hb hby d4_172) rfl rfl ?_
    refine Own.axStoreJ 174 X91 hx hZ e91 Af_88 (own_ix (j := (2 : Int32)) (c := (4 : Int32)) (by decide) (by rw [own_t2]; first | omega | decide)) (hb hby d4_173) rfl ?_
    intro T92 h92 X92 e92 W92 A92
    have N92 := Fr.snoc X92 N78 g_k2
    have Ef_94 := Ef_80.wr W92
    have Ff_95 := Ff_81.other W92 (Or.inl ne_a_k2)
    have Ff_96 := Ff_82.other W92 (Or.inl ne_a_k2)
    have Ff_97 := Ff_83.other W92 (Or.inl ne_a_k2)
    have Ff_98 := Ff_84.other W92 (Or.inl ne_a_k2)
    have Ff_99 := Ff_85.other W92 (Or.inl ne_a_k2)
    have Af_100 := Af_86.other W92 ne_kb_k2
    have Af_101 := Af_87.other W92 ne_nb_k2
    have Af_103 := Af_89.other W92 (Ne.symm ne_k2_nn)
    have zl92 := Nat.le_trans zl78 (Nat.le_of_eq W92.size.symm)
    refine Own.aloadN 175 X92 hx (hb hby d4_174) rfl rfl rfl ?_
    refine Own.getFld 178 X92 hx hZ hown (host := "") (Or.inl (w 17 rfl)) Via.refl e92 Ff_96 (hb hby d4_175) rfl ?_
    intro T104 X104 e104
    refine Own.iload 180 X104 hx (hb hby d4_178) rfl rfl ?_
    refine Own.iloadN 181 X104 hx (hb hby d4_180) rfl rfl ?_
    refine Own.axStoreI 182 X104 hx hZ e104 Af_103 (own_ix (j := (2 : Int32)) (c := (4 : Int32)) (by decide) (by rw [own_t2]; first | omega | decide)) (hb hby d4_181) rfl ?_
    intro T105 h105 X105 e105 W105 A105
    have N105 := Fr.snoc X105 N92 g_nn
    have Ef_107 := Ef_94.wr W105
    have Ff_108 := Ff_95.other W105 (Or.inl ne_a_nn)
    have Ff_109 := Ff_96.other W105 (Or.inl ne_a_nn)
    have Ff_110 := Ff_97.other W105 (Or.inl ne_a_nn)
    have Ff_111 := Ff_98.other W105 (Or.inl ne_a_nn)
    have Ff_112 := Ff_99.other W105 (Or.inl ne_a_nn)
    have Af_113 := Af_100.other W105 ne_kb_nn
    have Af_114 := Af_101.other W105 ne_nb_nn
    have Af_115 := A92.other W105 ne_k2_nn
    have zl105 := Nat.le_trans zl92 (Nat.le_of_eq W105.size.symm)
    refine Own.retVoid X105 hx hlk hret (hb hby d4_182) (by decide) (by decide) ?_
    rw [e105]
    exact ⟨rfl, N105, k2, nn, (4 : Int32), ⟨Ef_107, Ff_108, Ff_109, Ff_110, ⟨_, Ff_111⟩, ⟨_, Ff_112⟩, Af_115, A105, ne_a_k2, ne_a_nn, ne_k2_nn, g_a, g_k2, g_nn⟩, by first | omega | decide, by first | omega | decide⟩
  ·
    refine Own.aloadN 110 X90 hx (hb hby d4_109) rfl rfl rfl ?_
    refine Own.dup 111 X90 hx (hb hby d4_110) rfl rfl ?_
    refine Own.getFld 114 X90 hx hZ hown (host := "") (Or.inl (w 28 rfl)) Via.refl e90 Ff_85 (hb hby d4_111) rfl ?_
    intro T117 X117 e117
    refine Own.lconst 115 X117 hx ((1 : Int64)) (hb hby d4_114) rfl rfl ?_
    refine Own.ladd 116 X117 hx (hb hby d4_115) rfl rfl ?_
    refine Own.putFld 119 X117 hx hZ hown (host := "") (Or.inl (w 28 rfl)) Via.refl e117 Ff_85 Ef_80 (Or.inl (w 29 rfl)) (w 1 rfl) (ty := .long) (by decide) rfl rfl (hb hby d4_116) rfl ?_
    intro T118 h118 X118 e118 W118
    have N118 := Fr.snoc X118 N78 g_a
    have Ef_120 := Ef_80.wr W118
    have Ff_121 := Ff_81.other W118 (Or.inr (slot_ne (Or.inl (w 15 rfl)) (Or.inl (w 29 rfl)) (by decide) (t := (.array .long)) (t' := .long) (by decide) (by decide)))
    have Ff_122 := Ff_82.other W118 (Or.inr (slot_ne (Or.inl (w 18 rfl)) (Or.inl (w 29 rfl)) (by decide) (t := (.array .int)) (t' := .long) (by decide) (by decide)))
    have Ff_123 := Ff_83.other W118 (Or.inr (slot_ne (Or.inl (w 25 rfl)) (Or.inl (w 29 rfl)) (by decide) (t := .int) (t' := .long) (by decide) (by decide)))
    have Ff_124 := Ff_84.other W118 (Or.inr (slot_ne (Or.inl (w 27 rfl)) (Or.inl (w 29 rfl)) (by decide) (t := .int) (t' := .long) (by decide) (by decide)))
    have Ff_125 := Ff_85.same W118
    have Af_126 := Af_86.other W118 (Ne.symm n1)
    have Af_127 := Af_87.other W118 (Ne.symm n2)
    have Af_128 := Af_88.other W118 (Ne.symm ne_a_k2)
    have Af_129 := Af_89.other W118 (Ne.symm ne_a_nn)
    have zl118 := Nat.le_trans zl78 (Nat.le_of_eq W118.size.symm)
    refine Own.aloadN 120 X118 hx (hb hby d4_119) rfl rfl rfl ?_
    refine Own.getFld 123 X118 hx hZ hown (host := "") (Or.inl (w 14 rfl)) Via.refl e118 Ff_121 (hb hby d4_120) rfl ?_
    intro T130 X130 e130
    refine Own.iload 125 X130 hx (hb hby d4_123) rfl rfl ?_
    refine Own.aloadN 126 X130 hx (hb hby d4_125) rfl rfl rfl ?_
    refine Own.getFld 129 X130 hx hZ hown (host := "") (Or.inl (w 14 rfl)) Via.refl e130 Ff_121 (hb hby d4_126) rfl ?_
    intro T131 X131 e131
    refine Own.iload 131 X131 hx (hb hby d4_129) rfl rfl ?_
    refine Own.iconst 132 X131 hx ((1 : Int32)) (hb hby d4_131) rfl rfl ?_
    refine Own.isub 133 X131 hx (hb hby d4_132) rfl (show ((2 : Int32) - (1 : Int32)) = (1 : Int32) by decide) ?_
    refine Own.iconst 134 X131 hx ((2 : Int32)) (hb hby d4_133) rfl rfl ?_
    refine Own.idiv 135 X131 hx (hb hby d4_134) rfl (by decide) (show ((1 : Int32) / (2 : Int32)) = (0 : Int32) by decide) ?_
    refine Own.axLoadJ 136 X131 hx hZ e131 Af_128 (own_ix (j := (0 : Int32)) (c := (4 : Int32)) (by decide) (by rw [own_t0]; first | omega | decide)) (hb hby d4_135) rfl fun kv2 => ?_
    refine Own.axStoreJ 137 X131 hx hZ e131 Af_128 (own_ix (j := (2 : Int32)) (c := (4 : Int32)) (by decide) (by rw [own_t2]; first | omega | decide)) (hb hby d4_136) rfl ?_
    intro T132 h132 X132 e132 W132 A132
    have N132 := Fr.snoc X132 N118 g_k2
    have Ef_134 := Ef_120.wr W132
    have Ff_135 := Ff_121.other W132 (Or.inl ne_a_k2)
    have Ff_136 := Ff_122.other W132 (Or.inl ne_a_k2)
    have Ff_137 := Ff_123.other W132 (Or.inl ne_a_k2)
    have Ff_138 := Ff_124.other W132 (Or.inl ne_a_k2)
    have Ff_139 := Ff_125.other W132 (Or.inl ne_a_k2)
    have Af_140 := Af_126.other W132 ne_kb_k2
    have Af_141 := Af_127.other W132 ne_nb_k2
    have Af_143 := Af_129.other W132 (Ne.symm ne_k2_nn)
    have zl132 := Nat.le_trans zl118 (Nat.le_of_eq W132.size.symm)
    refine Own.aloadN 138 X132 hx (hb hby d4_137) rfl rfl rfl ?_
    refine Own.getFld 141 X132 hx hZ hown (host := "") (Or.inl (w 17 rfl)) Via.refl e132 Ff_136 (hb hby d4_138) rfl ?_
    intro T144 X144 e144
    refine Own.iload 143 X144 hx (hb hby d4_141) rfl rfl ?_
    refine Own.aloadN 144 X144 hx (hb hby d4_143) rfl rfl rfl ?_
    refine Own.getFld 147 X144 hx hZ hown (host := "") (Or.inl (w 17 rfl)) Via.refl e144 Ff_136 (hb hby d4_144) rfl ?_
    intro T145 X145 e145
    refine Own.iload 149 X145 hx (hb hby d4_147) rfl rfl ?_
    refine Own.iconst 150 X145 hx ((1 : Int32)) (hb hby d4_149) rfl rfl ?_
    refine Own.isub 151 X145 hx (hb hby d4_150) rfl (show ((2 : Int32) - (1 : Int32)) = (1 : Int32) by decide) ?_
    refine Own.iconst 152 X145 hx ((2 : Int32)) (hb hby d4_151) rfl rfl ?_
    refine Own.idiv 153 X145 hx (hb hby d4_152) rfl (by decide) (show ((1 : Int32) / (2 : Int32)) = (0 : Int32) by decide) ?_
    refine Own.axLoadI 154 X145 hx hZ e145 Af_143 (own_ix (j := (0 : Int32)) (c := (4 : Int32)) (by decide) (by rw [own_t0]; first | omega | decide)) (hb hby d4_153) rfl fun nv2 => ?_
    refine Own.axStoreI 155 X145 hx hZ e145 Af_143 (own_ix (j := (2 : Int32)) (c := (4 : Int32)) (by decide) (by rw [own_t2]; first | omega | decide)) (hb hby d4_154) rfl ?_
    intro T146 h146 X146 e146 W146 A146
    have N146 := Fr.snoc X146 N132 g_nn
    have Ef_148 := Ef_134.wr W146
    have Ff_149 := Ff_135.other W146 (Or.inl ne_a_nn)
    have Ff_150 := Ff_136.other W146 (Or.inl ne_a_nn)
    have Ff_151 := Ff_137.other W146 (Or.inl ne_a_nn)
    have Ff_152 := Ff_138.other W146 (Or.inl ne_a_nn)
    have Ff_153 := Ff_139.other W146 (Or.inl ne_a_nn)
    have Af_154 := Af_140.other W146 ne_kb_nn
    have Af_155 := Af_141.other W146 ne_nb_nn
    have Af_156 := A132.other W146 ne_k2_nn
    have zl146 := Nat.le_trans zl132 (Nat.le_of_eq W146.size.symm)
    refine Own.iload 157 X146 hx (hb hby d4_155) rfl rfl ?_
    refine Own.iconst 158 X146 hx ((1 : Int32)) (hb hby d4_157) rfl rfl ?_
    refine Own.isub 159 X146 hx (hb hby d4_158) rfl (show ((2 : Int32) - (1 : Int32)) = (1 : Int32) by decide) ?_
    refine Own.iconst 160 X146 hx ((2 : Int32)) (hb hby d4_159) rfl rfl ?_
    refine Own.idiv 161 X146 hx (hb hby d4_160) rfl (by decide) (show ((1 : Int32) / (2 : Int32)) = (0 : Int32) by decide) ?_
    refine Own.istoreV 163 #[.val (.ref a), .val (.int x1), .val (.int x2), .val (.long key), .second, .val (.int (0 : Int32))] X146 hx (hb hby d4_161) rfl rfl ?_
    refine Own.goto 88 X146 hx (hb hby d4_163) (by decide) ?_
    refine Own.iload 90 X146 hx (hb hby d4_88) rfl rfl ?_
    refine Own.if_le 166 93 X146 hx (hb hby d4_90) (by decide) rfl (fun tk => ?_) (fun tk => absurd tk (by decide))
    refine Own.aloadN 167 X146 hx (hb hby d4_166) rfl rfl rfl ?_
    refine Own.getFld 170 X146 hx hZ hown (host := "") (Or.inl (w 14 rfl)) Via.refl e146 Ff_149 (hb hby d4_167) rfl ?_
    intro T158 X158 e158
    refine Own.iload 172 X158 hx (hb hby d4_170) rfl rfl ?_
    refine Own.lloadN 173 X158 hx (hb hby d4_172) rfl rfl ?_
    refine Own.axStoreJ 174 X158 hx hZ e158 Af_156 (own_ix (j := (0 : Int32)) (c := (4 : Int32)) (by decide) (by rw [own_t0]; first | omega | decide)) (hb hby d4_173) rfl ?_
    intro T159 h159 X159 e159 W159 A159
    have N159 := Fr.snoc X159 N146 g_k2
    have Ef_161 := Ef_148.wr W159
    have Ff_162 := Ff_149.other W159 (Or.inl ne_a_k2)
    have Ff_163 := Ff_150.other W159 (Or.inl ne_a_k2)
    have Ff_164 := Ff_151.other W159 (Or.inl ne_a_k2)
    have Ff_165 := Ff_152.other W159 (Or.inl ne_a_k2)
    have Ff_166 := Ff_153.other W159 (Or.inl ne_a_k2)
    have Af_167 := Af_154.other W159 ne_kb_k2
    have Af_168 := Af_155.other W159 ne_nb_k2
    have Af_170 := A146.other W159 (Ne.symm ne_k2_nn)
    have zl159 := Nat.le_trans zl146 (Nat.le_of_eq W159.size.symm)
    refine Own.aloadN 175 X159 hx (hb hby d4_174) rfl rfl rfl ?_
    refine Own.getFld 178 X159 hx hZ hown (host := "") (Or.inl (w 17 rfl)) Via.refl e159 Ff_163 (hb hby d4_175) rfl ?_
    intro T171 X171 e171
    refine Own.iload 180 X171 hx (hb hby d4_178) rfl rfl ?_
    refine Own.iloadN 181 X171 hx (hb hby d4_180) rfl rfl ?_
    refine Own.axStoreI 182 X171 hx hZ e171 Af_170 (own_ix (j := (0 : Int32)) (c := (4 : Int32)) (by decide) (by rw [own_t0]; first | omega | decide)) (hb hby d4_181) rfl ?_
    intro T172 h172 X172 e172 W172 A172
    have N172 := Fr.snoc X172 N159 g_nn
    have Ef_174 := Ef_161.wr W172
    have Ff_175 := Ff_162.other W172 (Or.inl ne_a_nn)
    have Ff_176 := Ff_163.other W172 (Or.inl ne_a_nn)
    have Ff_177 := Ff_164.other W172 (Or.inl ne_a_nn)
    have Ff_178 := Ff_165.other W172 (Or.inl ne_a_nn)
    have Ff_179 := Ff_166.other W172 (Or.inl ne_a_nn)
    have Af_180 := Af_167.other W172 ne_kb_nn
    have Af_181 := Af_168.other W172 ne_nb_nn
    have Af_182 := A159.other W172 ne_k2_nn
    have zl172 := Nat.le_trans zl159 (Nat.le_of_eq W172.size.symm)
    refine Own.retVoid X172 hx hlk hret (hb hby d4_182) (by decide) (by decide) ?_
    rw [e172]
    exact ⟨rfl, N172, k2, nn, (4 : Int32), ⟨Ef_174, Ff_175, Ff_176, Ff_177, ⟨_, Ff_178⟩, ⟨_, Ff_179⟩, Af_182, A172, ne_a_k2, ne_a_nn, ne_k2_nn, g_a, g_k2, g_nn⟩, by first | omega | decide, by first | omega | decide⟩
theorem d8_0 : decode prog_47_method_3_code 0 = .ok (.aload_n 0, 1) := by decide +kernel
theorem d8_1 : decode prog_47_method_3_code 1 = .ok (.getfield 23, 3) := by decide +kernel
theorem d8_4 : decode prog_47_method_3_code 4 = .ok (.ifCond .ne 7, 3) := by decide +kernel
theorem d8_7 : decode prog_47_method_3_code 7 = .ok (.iconst 1, 1) := by decide +kernel
theorem d8_8 : decode prog_47_method_3_code 8 = .ok (.goto 4, 3) := by decide +kernel
theorem d8_11 : decode prog_47_method_3_code 11 = .ok (.iconst 0, 1) := by decide +kernel
theorem d8_12 : decode prog_47_method_3_code 12 = .ok (.ireturn, 1) := by decide +kernel
set_option maxRecDepth 65536 in
set_option maxHeartbeats 40000000 in
theorem m8 (l : Launch) (Z : State) (a0 : Array Value) (w : ∀ (i : Nat) {d : Jvm.Cond}, tables_1[i]? = some d → d.before a0 Z = true) (a : Addr) (sz : Int32) (h0 : Heap) (Fs : Fld Z h0 a "com/example/leveler/leveler/leveling/DistanceQueue" "size" "I" (.int sz)) :
    Own.Met l Z (⟨"com/example/leveler/leveler/leveling/DistanceQueue", "isEmpty", "()Z"⟩ : MethodName) prog_47_method_3_code 1 (some .boolean) [] ({ frames := 0, cells := 0, slots := 0, locals := 0 } : Room) #[(.ref a)] h0 (fun v h L => v = some (.int (if sz = 0 then 1 else 0)) ∧ h = h0 ∧ L = []) := by
  refine Own.Met.of (plainFor_of_name (by first | (simp [plainName, overriddenIn]; done) | decide +kernel)) ?_
  intro p e s m below meth c T0 hx hby hml hown hnm hret hlk hZ X0 e0
  have hown : s.vm.findClass "com/example/leveler/leveler/leveling/DistanceQueue" = some m.cls := hown
  have hml : c.maxLocals = 1 := hml
  have hnm : meth.name = "isEmpty" := hnm
  have ef : entryFrame m #[(.ref a)] 1 = mkF m 0 #[.val (.ref a)] [] := by first | (simp [entryFrame, mkF, argsToLocals, Value.category]; done) | rfl
  rw [ef]
  refine Own.aloadN 1 X0 hx (hb hby d8_0) rfl rfl rfl ?_
  refine Own.getFld 4 X0 hx hZ hown (host := "") (Or.inl (w 24 rfl)) Via.refl e0 Fs (hb hby d8_1) rfl ?_
  intro T1 X1 e1
  refine Own.if_ne 11 7 X1 hx (hb hby d8_4) (by decide) rfl (fun h1 => ?_) (fun h1 => ?_)
  ·
    refine Own.iconst 12 X1 hx ((0 : Int32)) (hb hby d8_11) rfl rfl ?_
    refine Own.retBool X1 hx hlk hret (hb hby d8_12) (by decide) (by decide) ?_
    exact ⟨by rw [if_neg h1]; rfl, e1, rfl⟩
  ·
    refine Own.iconst 8 X1 hx ((1 : Int32)) (hb hby d8_7) rfl rfl ?_
    refine Own.goto 12 X1 hx (hb hby d8_8) (by decide) ?_
    refine Own.retBool X1 hx hlk hret (hb hby d8_12) (by decide) (by decide) ?_
    exact ⟨by rw [if_pos h1]; rfl, e1, rfl⟩
theorem d10_0 : decode prog_47_method_9_code 0 = .ok (.aload_n 0, 1) := by decide +kernel
theorem d10_1 : decode prog_47_method_9_code 1 = .ok (.getfield 23, 3) := by decide +kernel
theorem d10_4 : decode prog_47_method_9_code 4 = .ok (.ifCond .ne 13, 3) := by decide +kernel
theorem d10_17 : decode prog_47_method_9_code 17 = .ok (.return_, 1) := by decide +kernel
set_option maxRecDepth 65536 in
set_option maxHeartbeats 40000000 in
theorem m10 (l : Launch) (Z : State) (a0 : Array Value) (w : ∀ (i : Nat) {d : Jvm.Cond}, tables_1[i]? = some d → d.before a0 Z = true) (a : Addr) (sz : Int32) (h0 : Heap) (Fs : Fld Z h0 a "com/example/leveler/leveler/leveling/DistanceQueue" "size" "I" (.int sz)) (hsz : ¬ sz = 0) :
    Own.Met l Z (⟨"com/example/leveler/leveler/leveling/DistanceQueue", "requireEntry", "()V"⟩ : MethodName) prog_47_method_9_code 1 none [] ({ frames := 0, cells := 0, slots := 0, locals := 0 } : Room) #[(.ref a)] h0 (fun v h L => v = none ∧ h = h0 ∧ L = []) := by
  refine Own.Met.of (plainFor_of_name (by first | (simp [plainName, overriddenIn]; done) | decide +kernel)) ?_
  intro p e s m below meth c T0 hx hby hml hown hnm hret hlk hZ X0 e0
  have hown : s.vm.findClass "com/example/leveler/leveler/leveling/DistanceQueue" = some m.cls := hown
  have hml : c.maxLocals = 1 := hml
  have hnm : meth.name = "requireEntry" := hnm
  have ef : entryFrame m #[(.ref a)] 1 = mkF m 0 #[.val (.ref a)] [] := by first | (simp [entryFrame, mkF, argsToLocals, Value.category]; done) | rfl
  rw [ef]
  refine Own.aloadN 1 X0 hx (hb hby d10_0) rfl rfl rfl ?_
  refine Own.getFld 4 X0 hx hZ hown (host := "") (Or.inl (w 24 rfl)) Via.refl e0 Fs (hb hby d10_1) rfl ?_
  intro T1 X1 e1
  refine Own.if_ne 17 7 X1 hx (hb hby d10_4) (by decide) rfl (fun tk => ?_) (fun tk => absurd tk hsz)
  refine Own.retVoid X1 hx hlk hret (hb hby d10_17) (by decide) (by decide) ?_
  exact ⟨rfl, e1, rfl⟩
theorem d9_0 : decode prog_47_method_8_code 0 = .ok (.aload_n 0, 1) := by decide +kernel
theorem d9_1 : decode prog_47_method_8_code 1 = .ok (.invokevirtual 43, 3) := by decide +kernel
theorem d9_4 : decode prog_47_method_8_code 4 = .ok (.aload_n 0, 1) := by decide +kernel
theorem d9_5 : decode prog_47_method_8_code 5 = .ok (.getfield 19, 3) := by decide +kernel
theorem d9_8 : decode prog_47_method_8_code 8 = .ok (.iconst 0, 1) := by decide +kernel
theorem d9_9 : decode prog_47_method_8_code 9 = .ok (.iaload, 1) := by decide +kernel
theorem d9_10 : decode prog_47_method_8_code 10 = .ok (.istore_n 1, 1) := by decide +kernel
theorem d9_11 : decode prog_47_method_8_code 11 = .ok (.aload_n 0, 1) := by decide +kernel
theorem d9_12 : decode prog_47_method_8_code 12 = .ok (.getfield 13, 3) := by decide +kernel
theorem d9_15 : decode prog_47_method_8_code 15 = .ok (.aload_n 0, 1) := by decide +kernel
theorem d9_16 : decode prog_47_method_8_code 16 = .ok (.dup, 1) := by decide +kernel
theorem d9_17 : decode prog_47_method_8_code 17 = .ok (.getfield 23, 3) := by decide +kernel
theorem d9_20 : decode prog_47_method_8_code 20 = .ok (.iconst 1, 1) := by decide +kernel
theorem d9_21 : decode prog_47_method_8_code 21 = .ok (.isub, 1) := by decide +kernel
theorem d9_22 : decode prog_47_method_8_code 22 = .ok (.dup_x1, 1) := by decide +kernel
theorem d9_23 : decode prog_47_method_8_code 23 = .ok (.putfield 23, 3) := by decide +kernel
theorem d9_26 : decode prog_47_method_8_code 26 = .ok (.laload, 1) := by decide +kernel
theorem d9_27 : decode prog_47_method_8_code 27 = .ok (.lstore_n 2, 1) := by decide +kernel
theorem d9_28 : decode prog_47_method_8_code 28 = .ok (.aload_n 0, 1) := by decide +kernel
theorem d9_29 : decode prog_47_method_8_code 29 = .ok (.getfield 19, 3) := by decide +kernel
theorem d9_32 : decode prog_47_method_8_code 32 = .ok (.aload_n 0, 1) := by decide +kernel
theorem d9_33 : decode prog_47_method_8_code 33 = .ok (.getfield 23, 3) := by decide +kernel
theorem d9_36 : decode prog_47_method_8_code 36 = .ok (.iaload, 1) := by decide +kernel
theorem d9_37 : decode prog_47_method_8_code 37 = .ok (.istore 4, 2) := by decide +kernel
theorem d9_39 : decode prog_47_method_8_code 39 = .ok (.aload_n 0, 1) := by decide +kernel
theorem d9_40 : decode prog_47_method_8_code 40 = .ok (.dup, 1) := by decide +kernel
theorem d9_41 : decode prog_47_method_8_code 41 = .ok (.getfield 30, 3) := by decide +kernel
theorem d9_44 : decode prog_47_method_8_code 44 = .ok (.lconst 1, 1) := by decide +kernel
theorem d9_45 : decode prog_47_method_8_code 45 = .ok (.ladd, 1) := by decide +kernel
theorem d9_46 : decode prog_47_method_8_code 46 = .ok (.putfield 30, 3) := by decide +kernel
theorem d9_49 : decode prog_47_method_8_code 49 = .ok (.iconst 0, 1) := by decide +kernel
theorem d9_50 : decode prog_47_method_8_code 50 = .ok (.istore 5, 2) := by decide +kernel
theorem d9_52 : decode prog_47_method_8_code 52 = .ok (.iconst 2, 1) := by decide +kernel
theorem d9_53 : decode prog_47_method_8_code 53 = .ok (.iload 5, 2) := by decide +kernel
theorem d9_55 : decode prog_47_method_8_code 55 = .ok (.imul, 1) := by decide +kernel
theorem d9_56 : decode prog_47_method_8_code 56 = .ok (.iconst 1, 1) := by decide +kernel
theorem d9_57 : decode prog_47_method_8_code 57 = .ok (.iadd, 1) := by decide +kernel
theorem d9_58 : decode prog_47_method_8_code 58 = .ok (.aload_n 0, 1) := by decide +kernel
theorem d9_59 : decode prog_47_method_8_code 59 = .ok (.getfield 23, 3) := by decide +kernel
theorem d9_62 : decode prog_47_method_8_code 62 = .ok (.if_icmp .ge 105, 3) := by decide +kernel
theorem d9_167 : decode prog_47_method_8_code 167 = .ok (.aload_n 0, 1) := by decide +kernel
theorem d9_168 : decode prog_47_method_8_code 168 = .ok (.getfield 13, 3) := by decide +kernel
theorem d9_171 : decode prog_47_method_8_code 171 = .ok (.iload 5, 2) := by decide +kernel
theorem d9_173 : decode prog_47_method_8_code 173 = .ok (.lload_n 2, 1) := by decide +kernel
theorem d9_174 : decode prog_47_method_8_code 174 = .ok (.lastore, 1) := by decide +kernel
theorem d9_175 : decode prog_47_method_8_code 175 = .ok (.aload_n 0, 1) := by decide +kernel
theorem d9_176 : decode prog_47_method_8_code 176 = .ok (.getfield 19, 3) := by decide +kernel
theorem d9_179 : decode prog_47_method_8_code 179 = .ok (.iload 5, 2) := by decide +kernel
theorem d9_181 : decode prog_47_method_8_code 181 = .ok (.iload 4, 2) := by decide +kernel
theorem d9_183 : decode prog_47_method_8_code 183 = .ok (.iastore, 1) := by decide +kernel
theorem d9_184 : decode prog_47_method_8_code 184 = .ok (.iload_n 1, 1) := by decide +kernel
theorem d9_185 : decode prog_47_method_8_code 185 = .ok (.ireturn, 1) := by decide +kernel
set_option maxRecDepth 65536 in
set_option maxHeartbeats 40000000 in
theorem m9_1 (l : Launch) (Z : State) (a0 : Array Value) (w : ∀ (i : Nat) {d : Jvm.Cond}, tables_1[i]? = some d → d.before a0 Z = true) (a : Addr) (kb nb : Addr) (cp : Int32) (n0 : Nat) (h0 : Heap) (D : own_DQ Z h0 n0 a kb nb cp (1 : Int32)) (hc : 1 ≤ cp.toInt) :
    Own.Met l Z (⟨"com/example/leveler/leveler/leveling/DistanceQueue", "take", "()I"⟩ : MethodName) prog_47_method_8_code 7 (some .int) [] ({ frames := 1, cells := 0, slots := 0, locals := 12 } : Room) #[(.ref a)] h0 (fun v h L => ∃ r : Int32, v = some (.int r) ∧ Fr n0 L ∧ own_DQ Z h n0 a kb nb cp (0 : Int32)) := by
  refine Own.Met.of (plainFor_of_name (by first | (simp [plainName, overriddenIn]; done) | decide +kernel)) ?_
  intro p e s m below meth c T0 hx hby hml hown hnm hret hlk hZ X0 e0
  have hown : s.vm.findClass "com/example/leveler/leveler/leveling/DistanceQueue" = some m.cls := hown
  have hml : c.maxLocals = 7 := hml
  have hnm : meth.name = "take" := hnm
  have ef : entryFrame m #[(.ref a)] 7 = mkF m 0 #[.val (.ref a), .unset, .unset, .unset, .unset, .unset, .unset] [] := by first | (simp [entryFrame, mkF, argsToLocals, Value.category]; done) | rfl
  rw [ef]
  obtain ⟨E_a, Fk, Fn, Fs, ⟨ad, Fa⟩, ⟨st, Ft⟩, Ak, An, n1, n2, n3, g_a, g_k, g_n⟩ := D
  have N0 := Fr.nil n0
  have Z0 : n0 ≤ h0.size := Nat.le_trans g_a (Nat.le_of_lt E_a.lt)
  refine Own.aloadN 1 X0 hx (hb hby d9_0) rfl rfl rfl ?_
  refine Own.callPr 4 0 a [] [] X0 hx hZ hown (m10 l Z a0 w a (1 : Int32) h0 Fs (by decide)) E_a (w 55 rfl) (w 57 rfl) (w 1 rfl) (w 56 rfl) (w 2 rfl) (w 58 rfl) (by decide) e0 (by decide) (by decide) (by decide) (by decide) (by rw [hml]; rfl) (lenOf pd_3 rfl) rfl (Nat.le_of_eq rfl) (hb hby d9_1) rfl ?_
  rintro vv T1 L1 X1 ⟨rfl, hh1, rfl⟩
  have N1 := Fr.app N0 (Fr.nil _)
  refine Own.aloadN 5 X1 hx (hb hby d9_4) rfl rfl rfl ?_
  refine Own.getFld 8 X1 hx hZ hown (host := "") (Or.inl (w 17 rfl)) Via.refl hh1 Fn (hb hby d9_5) rfl ?_
  intro T2 X2 e2
  refine Own.iconst 9 X2 hx ((0 : Int32)) (hb hby d9_8) rfl rfl ?_
  refine Own.axLoadI 10 X2 hx hZ e2 An (own_ix (j := (0 : Int32)) (c := cp) (by decide) (by rw [own_t0]; first | omega | decide)) (hb hby d9_9) rfl fun res => ?_
  refine Own.istoreNV 11 #[.val (.ref a), .val (.int res), .unset, .unset, .unset, .unset, .unset] X2 hx (hb hby d9_10) rfl rfl ?_
  refine Own.aloadN 12 X2 hx (hb hby d9_11) rfl rfl rfl ?_
  refine Own.getFld 15 X2 hx hZ hown (host := "") (Or.inl (w 14 rfl)) Via.refl e2 Fk (hb hby d9_12) rfl ?_
  intro T3 X3 e3
  refine Own.aloadN 16 X3 hx (hb hby d9_15) rfl rfl rfl ?_
  refine Own.dup 17 X3 hx (hb hby d9_16) rfl rfl ?_
  refine Own.getFld 20 X3 hx hZ hown (host := "") (Or.inl (w 24 rfl)) Via.refl e3 Fs (hb hby d9_17) rfl ?_
  intro T4 X4 e4
  refine Own.iconst 21 X4 hx ((1 : Int32)) (hb hby d9_20) rfl rfl ?_
  refine Own.isub 22 X4 hx (hb hby d9_21) rfl (show ((1 : Int32) - (1 : Int32)) = (0 : Int32) by decide) ?_
  refine Own.dupX1 23 X4 hx (hb hby d9_22) rfl rfl rfl ?_
  refine Own.putFld 26 X4 hx hZ hown (host := "") (Or.inl (w 24 rfl)) Via.refl e4 Fs E_a (Or.inl (w 25 rfl)) (w 1 rfl) (ty := .int) (by decide) rfl rfl (hb hby d9_23) rfl ?_
  intro T5 h5 X5 e5 W5
  have N5 := Fr.snoc X5 N1 g_a
  have Ef_7 := E_a.wr W5
  have Ff_8 := Fk.other W5 (Or.inr (slot_ne (Or.inl (w 15 rfl)) (Or.inl (w 25 rfl)) (by decide) (t := (.array .long)) (t' := .int) (by decide) (by decide)))
  have Ff_9 := Fn.other W5 (Or.inr (slot_ne (Or.inl (w 18 rfl)) (Or.inl (w 25 rfl)) (by decide) (t := (.array .int)) (t' := .int) (by decide) (by decide)))
  have Ff_10 := Fs.same W5
  have Ff_11 := Fa.other W5 (Or.inr (slot_ne (Or.inl (w 27 rfl)) (Or.inl (w 25 rfl)) (by decide) (t := .int) (t' := .int) (by decide) (by decide)))
  have Ff_12 := Ft.other W5 (Or.inr (slot_ne (Or.inl (w 29 rfl)) (Or.inl (w 25 rfl)) (by decide) (t := .long) (t' := .int) (by decide) (by decide)))
  have Af_13 := Ak.other W5 (Ne.symm n1)
  have Af_14 := An.other W5 (Ne.symm n2)
  have zl5 := Nat.le_trans Z0 (Nat.le_of_eq W5.size.symm)
  refine Own.axLoadJ 27 X5 hx hZ e5 Af_13 (own_ix (j := (0 : Int32)) (c := cp) (by decide) (by rw [own_t0]; first | omega | decide)) (hb hby d9_26) rfl fun last => ?_
  refine Own.lstoreNV 28 #[.val (.ref a), .val (.int res), .val (.long last), .second, .unset, .unset, .unset] X5 hx (hb hby d9_27) rfl rfl ?_
  refine Own.aloadN 29 X5 hx (hb hby d9_28) rfl rfl rfl ?_
  refine Own.getFld 32 X5 hx hZ hown (host := "") (Or.inl (w 17 rfl)) Via.refl e5 Ff_9 (hb hby d9_29) rfl ?_
  intro T15 X15 e15
  refine Own.aloadN 33 X15 hx (hb hby d9_32) rfl rfl rfl ?_
  refine Own.getFld 36 X15 hx hZ hown (host := "") (Or.inl (w 24 rfl)) Via.refl e15 Ff_10 (hb hby d9_33) rfl ?_
  intro T16 X16 e16
  refine Own.axLoadI 37 X16 hx hZ e16 Af_14 (own_ix (j := (0 : Int32)) (c := cp) (by decide) (by rw [own_t0]; first | omega | decide)) (hb hby d9_36) rfl fun lnode => ?_
  refine Own.istoreV 39 #[.val (.ref a), .val (.int res), .val (.long last), .second, .val (.int lnode), .unset, .unset] X16 hx (hb hby d9_37) rfl rfl ?_
  refine Own.aloadN 40 X16 hx (hb hby d9_39) rfl rfl rfl ?_
  refine Own.dup 41 X16 hx (hb hby d9_40) rfl rfl ?_
  refine Own.getFld 44 X16 hx hZ hown (host := "") (Or.inl (w 28 rfl)) Via.refl e16 Ff_12 (hb hby d9_41) rfl ?_
  intro T17 X17 e17
  refine Own.lconst 45 X17 hx ((1 : Int64)) (hb hby d9_44) rfl rfl ?_
  refine Own.ladd 46 X17 hx (hb hby d9_45) rfl rfl ?_
  refine Own.putFld 49 X17 hx hZ hown (host := "") (Or.inl (w 28 rfl)) Via.refl e17 Ff_12 Ef_7 (Or.inl (w 29 rfl)) (w 1 rfl) (ty := .long) (by decide) rfl rfl (hb hby d9_46) rfl ?_
  intro T18 h18 X18 e18 W18
  have N18 := Fr.snoc X18 N5 g_a
  have Ef_20 := Ef_7.wr W18
  have Ff_21 := Ff_8.other W18 (Or.inr (slot_ne (Or.inl (w 15 rfl)) (Or.inl (w 29 rfl)) (by decide) (t := (.array .long)) (t' := .long) (by decide) (by decide)))
  have Ff_22 := Ff_9.other W18 (Or.inr (slot_ne (Or.inl (w 18 rfl)) (Or.inl (w 29 rfl)) (by decide) (t := (.array .int)) (t' := .long) (by decide) (by decide)))
  have Ff_23 := Ff_10.other W18 (Or.inr (slot_ne (Or.inl (w 25 rfl)) (Or.inl (w 29 rfl)) (by decide) (t := .int) (t' := .long) (by decide) (by decide)))
  have Ff_24 := Ff_11.other W18 (Or.inr (slot_ne (Or.inl (w 27 rfl)) (Or.inl (w 29 rfl)) (by decide) (t := .int) (t' := .long) (by decide) (by decide)))
  have Ff_25 := Ff_12.same W18
  have Af_26 := Af_13.other W18 (Ne.symm n1)
  have Af_27 := Af_14.other W18 (Ne.symm n2)
  have zl18 := Nat.le_trans zl5 (Nat.le_of_eq W18.size.symm)
  refine Own.iconst 50 X18 hx ((0 : Int32)) (hb hby d9_49) rfl rfl ?_
  refine Own.istoreV 52 #[.val (.ref a), .val (.int res), .val (.long last), .second, .val (.int lnode), .val (.int (0 : Int32)), .unset] X18 hx (hb hby d9_50) rfl rfl ?_
  refine Own.iconst 53 X18 hx ((2 : Int32)) (hb hby d9_52) rfl rfl ?_
  refine Own.iload 55 X18 hx (hb hby d9_53) rfl rfl ?_
  refine Own.imul 56 X18 hx (hb hby d9_55) rfl (show ((2 : Int32) * (0 : Int32)) = (0 : Int32) by decide) ?_
  refine Own.iconst 57 X18 hx ((1 : Int32)) (hb hby d9_56) rfl rfl ?_
  refine Own.iadd 58 X18 hx (hb hby d9_57) rfl (show ((0 : Int32) + (1 : Int32)) = (1 : Int32) by decide) ?_
  refine Own.aloadN 59 X18 hx (hb hby d9_58) rfl rfl rfl ?_
  refine Own.getFld 62 X18 hx hZ hown (host := "") (Or.inl (w 24 rfl)) Via.refl e18 Ff_23 (hb hby d9_59) rfl ?_
  intro T28 X28 e28
  refine Own.icmp_ge 167 65 X28 hx (hb hby d9_62) (by decide) rfl (fun tk => ?_) (fun tk => absurd tk (by decide))
  refine Own.aloadN 168 X28 hx (hb hby d9_167) rfl rfl rfl ?_
  refine Own.getFld 171 X28 hx hZ hown (host := "") (Or.inl (w 14 rfl)) Via.refl e28 Ff_21 (hb hby d9_168) rfl ?_
  intro T29 X29 e29
  refine Own.iload 173 X29 hx (hb hby d9_171) rfl rfl ?_
  refine Own.lloadN 174 X29 hx (hb hby d9_173) rfl rfl ?_
  refine Own.axStoreJ 175 X29 hx hZ e29 Af_26 (own_ix (j := (0 : Int32)) (c := cp) (by decide) (by rw [own_t0]; first | omega | decide)) (hb hby d9_174) rfl ?_
  intro T30 h30 X30 e30 W30 A30
  have N30 := Fr.snoc X30 N18 g_k
  have Ef_32 := Ef_20.wr W30
  have Ff_33 := Ff_21.other W30 (Or.inl n1)
  have Ff_34 := Ff_22.other W30 (Or.inl n1)
  have Ff_35 := Ff_23.other W30 (Or.inl n1)
  have Ff_36 := Ff_24.other W30 (Or.inl n1)
  have Ff_37 := Ff_25.other W30 (Or.inl n1)
  have Af_39 := Af_27.other W30 (Ne.symm n3)
  have zl30 := Nat.le_trans zl18 (Nat.le_of_eq W30.size.symm)
  refine Own.aloadN 176 X30 hx (hb hby d9_175) rfl rfl rfl ?_
  refine Own.getFld 179 X30 hx hZ hown (host := "") (Or.inl (w 17 rfl)) Via.refl e30 Ff_34 (hb hby d9_176) rfl ?_
  intro T40 X40 e40
  refine Own.iload 181 X40 hx (hb hby d9_179) rfl rfl ?_
  refine Own.iload 183 X40 hx (hb hby d9_181) rfl rfl ?_
  refine Own.axStoreI 184 X40 hx hZ e40 Af_39 (own_ix (j := (0 : Int32)) (c := cp) (by decide) (by rw [own_t0]; first | omega | decide)) (hb hby d9_183) rfl ?_
  intro T41 h41 X41 e41 W41 A41
  have N41 := Fr.snoc X41 N30 g_n
  have Ef_43 := Ef_32.wr W41
  have Ff_44 := Ff_33.other W41 (Or.inl n2)
  have Ff_45 := Ff_34.other W41 (Or.inl n2)
  have Ff_46 := Ff_35.other W41 (Or.inl n2)
  have Ff_47 := Ff_36.other W41 (Or.inl n2)
  have Ff_48 := Ff_37.other W41 (Or.inl n2)
  have Af_49 := A30.other W41 n3
  have zl41 := Nat.le_trans zl30 (Nat.le_of_eq W41.size.symm)
  refine Own.iloadN 185 X41 hx (hb hby d9_184) rfl rfl ?_
  refine Own.retInt X41 hx hlk hret (hb hby d9_185) (by decide) (by decide) ?_
  rw [e41]
  exact ⟨res, rfl, N41, ⟨Ef_43, Ff_44, Ff_45, Ff_46, ⟨_, Ff_47⟩, ⟨_, Ff_48⟩, Af_49, A41, n1, n2, n3, g_a, g_k, g_n⟩⟩
set_option maxRecDepth 65536 in
set_option maxHeartbeats 40000000 in
theorem m9_2 (l : Launch) (Z : State) (a0 : Array Value) (w : ∀ (i : Nat) {d : Jvm.Cond}, tables_1[i]? = some d → d.before a0 Z = true) (a : Addr) (kb nb : Addr) (cp : Int32) (n0 : Nat) (h0 : Heap) (D : own_DQ Z h0 n0 a kb nb cp (2 : Int32)) (hc : 2 ≤ cp.toInt) :
    Own.Met l Z (⟨"com/example/leveler/leveler/leveling/DistanceQueue", "take", "()I"⟩ : MethodName) prog_47_method_8_code 7 (some .int) [] ({ frames := 1, cells := 0, slots := 0, locals := 12 } : Room) #[(.ref a)] h0 (fun v h L => ∃ r : Int32, v = some (.int r) ∧ Fr n0 L ∧ own_DQ Z h n0 a kb nb cp (1 : Int32)) := by
  refine Own.Met.of (plainFor_of_name (by first | (simp [plainName, overriddenIn]; done) | decide +kernel)) ?_
  intro p e s m below meth c T0 hx hby hml hown hnm hret hlk hZ X0 e0
  have hown : s.vm.findClass "com/example/leveler/leveler/leveling/DistanceQueue" = some m.cls := hown
  have hml : c.maxLocals = 7 := hml
  have hnm : meth.name = "take" := hnm
  have ef : entryFrame m #[(.ref a)] 7 = mkF m 0 #[.val (.ref a), .unset, .unset, .unset, .unset, .unset, .unset] [] := by first | (simp [entryFrame, mkF, argsToLocals, Value.category]; done) | rfl
  rw [ef]
  obtain ⟨E_a, Fk, Fn, Fs, ⟨ad, Fa⟩, ⟨st, Ft⟩, Ak, An, n1, n2, n3, g_a, g_k, g_n⟩ := D
  have N0 := Fr.nil n0
  have Z0 : n0 ≤ h0.size := Nat.le_trans g_a (Nat.le_of_lt E_a.lt)
  refine Own.aloadN 1 X0 hx (hb hby d9_0) rfl rfl rfl ?_
  refine Own.callPr 4 0 a [] [] X0 hx hZ hown (m10 l Z a0 w a (2 : Int32) h0 Fs (by decide)) E_a (w 55 rfl) (w 57 rfl) (w 1 rfl) (w 56 rfl) (w 2 rfl) (w 58 rfl) (by decide) e0 (by decide) (by decide) (by decide) (by decide) (by rw [hml]; rfl) (lenOf pd_3 rfl) rfl (Nat.le_of_eq rfl) (hb hby d9_1) rfl ?_
  rintro vv T1 L1 X1 ⟨rfl, hh1, rfl⟩
  have N1 := Fr.app N0 (Fr.nil _)
  refine Own.aloadN 5 X1 hx (hb hby d9_4) rfl rfl rfl ?_
  refine Own.getFld 8 X1 hx hZ hown (host := "") (Or.inl (w 17 rfl)) Via.refl hh1 Fn (hb hby d9_5) rfl ?_
  intro T2 X2 e2
  refine Own.iconst 9 X2 hx ((0 : Int32)) (hb hby d9_8) rfl rfl ?_
  refine Own.axLoadI 10 X2 hx hZ e2 An (own_ix (j := (0 : Int32)) (c := cp) (by decide) (by rw [own_t0]; first | omega | decide)) (hb hby d9_9) rfl fun res => ?_
  refine Own.istoreNV 11 #[.val (.ref a), .val (.int res), .unset, .unset, .unset, .unset, .unset] X2 hx (hb hby d9_10) rfl rfl ?_
  refine Own.aloadN 12 X2 hx (hb hby d9_11) rfl rfl rfl ?_
  refine Own.getFld 15 X2 hx hZ hown (host := "") (Or.inl (w 14 rfl)) Via.refl e2 Fk (hb hby d9_12) rfl ?_
  intro T3 X3 e3
  refine Own.aloadN 16 X3 hx (hb hby d9_15) rfl rfl rfl ?_
  refine Own.dup 17 X3 hx (hb hby d9_16) rfl rfl ?_
  refine Own.getFld 20 X3 hx hZ hown (host := "") (Or.inl (w 24 rfl)) Via.refl e3 Fs (hb hby d9_17) rfl ?_
  intro T4 X4 e4
  refine Own.iconst 21 X4 hx ((1 : Int32)) (hb hby d9_20) rfl rfl ?_
  refine Own.isub 22 X4 hx (hb hby d9_21) rfl (show ((2 : Int32) - (1 : Int32)) = (1 : Int32) by decide) ?_
  refine Own.dupX1 23 X4 hx (hb hby d9_22) rfl rfl rfl ?_
  refine Own.putFld 26 X4 hx hZ hown (host := "") (Or.inl (w 24 rfl)) Via.refl e4 Fs E_a (Or.inl (w 25 rfl)) (w 1 rfl) (ty := .int) (by decide) rfl rfl (hb hby d9_23) rfl ?_
  intro T5 h5 X5 e5 W5
  have N5 := Fr.snoc X5 N1 g_a
  have Ef_7 := E_a.wr W5
  have Ff_8 := Fk.other W5 (Or.inr (slot_ne (Or.inl (w 15 rfl)) (Or.inl (w 25 rfl)) (by decide) (t := (.array .long)) (t' := .int) (by decide) (by decide)))
  have Ff_9 := Fn.other W5 (Or.inr (slot_ne (Or.inl (w 18 rfl)) (Or.inl (w 25 rfl)) (by decide) (t := (.array .int)) (t' := .int) (by decide) (by decide)))
  have Ff_10 := Fs.same W5
  have Ff_11 := Fa.other W5 (Or.inr (slot_ne (Or.inl (w 27 rfl)) (Or.inl (w 25 rfl)) (by decide) (t := .int) (t' := .int) (by decide) (by decide)))
  have Ff_12 := Ft.other W5 (Or.inr (slot_ne (Or.inl (w 29 rfl)) (Or.inl (w 25 rfl)) (by decide) (t := .long) (t' := .int) (by decide) (by decide)))
  have Af_13 := Ak.other W5 (Ne.symm n1)
  have Af_14 := An.other W5 (Ne.symm n2)
  have zl5 := Nat.le_trans Z0 (Nat.le_of_eq W5.size.symm)
  refine Own.axLoadJ 27 X5 hx hZ e5 Af_13 (own_ix (j := (1 : Int32)) (c := cp) (by decide) (by rw [own_t1]; first | omega | decide)) (hb hby d9_26) rfl fun last => ?_
  refine Own.lstoreNV 28 #[.val (.ref a), .val (.int res), .val (.long last), .second, .unset, .unset, .unset] X5 hx (hb hby d9_27) rfl rfl ?_
  refine Own.aloadN 29 X5 hx (hb hby d9_28) rfl rfl rfl ?_
  refine Own.getFld 32 X5 hx hZ hown (host := "") (Or.inl (w 17 rfl)) Via.refl e5 Ff_9 (hb hby d9_29) rfl ?_
  intro T15 X15 e15
  refine Own.aloadN 33 X15 hx (hb hby d9_32) rfl rfl rfl ?_
  refine Own.getFld 36 X15 hx hZ hown (host := "") (Or.inl (w 24 rfl)) Via.refl e15 Ff_10 (hb hby d9_33) rfl ?_
  intro T16 X16 e16
  refine Own.axLoadI 37 X16 hx hZ e16 Af_14 (own_ix (j := (1 : Int32)) (c := cp) (by decide) (by rw [own_t1]; first | omega | decide)) (hb hby d9_36) rfl fun lnode => ?_
  refine Own.istoreV 39 #[.val (.ref a), .val (.int res), .val (.long last), .second, .val (.int lnode), .unset, .unset] X16 hx (hb hby d9_37) rfl rfl ?_
  refine Own.aloadN 40 X16 hx (hb hby d9_39) rfl rfl rfl ?_
  refine Own.dup 41 X16 hx (hb hby d9_40) rfl rfl ?_
  refine Own.getFld 44 X16 hx hZ hown (host := "") (Or.inl (w 28 rfl)) Via.refl e16 Ff_12 (hb hby d9_41) rfl ?_
  intro T17 X17 e17
  refine Own.lconst 45 X17 hx ((1 : Int64)) (hb hby d9_44) rfl rfl ?_
  refine Own.ladd 46 X17 hx (hb hby d9_45) rfl rfl ?_
  refine Own.putFld 49 X17 hx hZ hown (host := "") (Or.inl (w 28 rfl)) Via.refl e17 Ff_12 Ef_7 (Or.inl (w 29 rfl)) (w 1 rfl) (ty := .long) (by decide) rfl rfl (hb hby d9_46) rfl ?_
  intro T18 h18 X18 e18 W18
  have N18 := Fr.snoc X18 N5 g_a
  have Ef_20 := Ef_7.wr W18
  have Ff_21 := Ff_8.other W18 (Or.inr (slot_ne (Or.inl (w 15 rfl)) (Or.inl (w 29 rfl)) (by decide) (t := (.array .long)) (t' := .long) (by decide) (by decide)))
  have Ff_22 := Ff_9.other W18 (Or.inr (slot_ne (Or.inl (w 18 rfl)) (Or.inl (w 29 rfl)) (by decide) (t := (.array .int)) (t' := .long) (by decide) (by decide)))
  have Ff_23 := Ff_10.other W18 (Or.inr (slot_ne (Or.inl (w 25 rfl)) (Or.inl (w 29 rfl)) (by decide) (t := .int) (t' := .long) (by decide) (by decide)))
  have Ff_24 := Ff_11.other W18 (Or.inr (slot_ne (Or.inl (w 27 rfl)) (Or.inl (w 29 rfl)) (by decide) (t := .int) (t' := .long) (by decide) (by decide)))
  have Ff_25 := Ff_12.same W18
  have Af_26 := Af_13.other W18 (Ne.symm n1)
  have Af_27 := Af_14.other W18 (Ne.symm n2)
  have zl18 := Nat.le_trans zl5 (Nat.le_of_eq W18.size.symm)
  refine Own.iconst 50 X18 hx ((0 : Int32)) (hb hby d9_49) rfl rfl ?_
  refine Own.istoreV 52 #[.val (.ref a), .val (.int res), .val (.long last), .second, .val (.int lnode), .val (.int (0 : Int32)), .unset] X18 hx (hb hby d9_50) rfl rfl ?_
  refine Own.iconst 53 X18 hx ((2 : Int32)) (hb hby d9_52) rfl rfl ?_
  refine Own.iload 55 X18 hx (hb hby d9_53) rfl rfl ?_
  refine Own.imul 56 X18 hx (hb hby d9_55) rfl (show ((2 : Int32) * (0 : Int32)) = (0 : Int32) by decide) ?_
  refine Own.iconst 57 X18 hx ((1 : Int32)) (hb hby d9_56) rfl rfl ?_
  refine Own.iadd 58 X18 hx (hb hby d9_57) rfl (show ((0 : Int32) + (1 : Int32)) = (1 : Int32) by decide) ?_
  refine Own.aloadN 59 X18 hx (hb hby d9_58) rfl rfl rfl ?_
  refine Own.getFld 62 X18 hx hZ hown (host := "") (Or.inl (w 24 rfl)) Via.refl e18 Ff_23 (hb hby d9_59) rfl ?_
  intro T28 X28 e28
  refine Own.icmp_ge 167 65 X28 hx (hb hby d9_62) (by decide) rfl (fun tk => ?_) (fun tk => absurd tk (by decide))
  refine Own.aloadN 168 X28 hx (hb hby d9_167) rfl rfl rfl ?_
  refine Own.getFld 171 X28 hx hZ hown (host := "") (Or.inl (w 14 rfl)) Via.refl e28 Ff_21 (hb hby d9_168) rfl ?_
  intro T29 X29 e29
  refine Own.iload 173 X29 hx (hb hby d9_171) rfl rfl ?_
  refine Own.lloadN 174 X29 hx (hb hby d9_173) rfl rfl ?_
  refine Own.axStoreJ 175 X29 hx hZ e29 Af_26 (own_ix (j := (0 : Int32)) (c := cp) (by decide) (by rw [own_t0]; first | omega | decide)) (hb hby d9_174) rfl ?_
  intro T30 h30 X30 e30 W30 A30
  have N30 := Fr.snoc X30 N18 g_k
  have Ef_32 := Ef_20.wr W30
  have Ff_33 := Ff_21.other W30 (Or.inl n1)
  have Ff_34 := Ff_22.other W30 (Or.inl n1)
  have Ff_35 := Ff_23.other W30 (Or.inl n1)
  have Ff_36 := Ff_24.other W30 (Or.inl n1)
  have Ff_37 := Ff_25.other W30 (Or.inl n1)
  have Af_39 := Af_27.other W30 (Ne.symm n3)
  have zl30 := Nat.le_trans zl18 (Nat.le_of_eq W30.size.symm)
  refine Own.aloadN 176 X30 hx (hb hby d9_175) rfl rfl rfl ?_
  refine Own.getFld 179 X30 hx hZ hown (host := "") (Or.inl (w 17 rfl)) Via.refl e30 Ff_34 (hb hby d9_176) rfl ?_
  intro T40 X40 e40
  refine Own.iload 181 X40 hx (hb hby d9_179) rfl rfl ?_
  refine Own.iload 183 X40 hx (hb hby d9_181) rfl rfl ?_
  refine Own.axStoreI 184 X40 hx hZ e40 Af_39 (own_ix (j := (0 : Int32)) (c := cp) (by decide) (by rw [own_t0]; first | omega | decide)) (hb hby d9_183) rfl ?_
  intro T41 h41 X41 e41 W41 A41
  have N41 := Fr.snoc X41 N30 g_n
  have Ef_43 := Ef_32.wr W41
  have Ff_44 := Ff_33.other W41 (Or.inl n2)
  have Ff_45 := Ff_34.other W41 (Or.inl n2)
  have Ff_46 := Ff_35.other W41 (Or.inl n2)
  have Ff_47 := Ff_36.other W41 (Or.inl n2)
  have Ff_48 := Ff_37.other W41 (Or.inl n2)
  have Af_49 := A30.other W41 n3
  have zl41 := Nat.le_trans zl30 (Nat.le_of_eq W41.size.symm)
  refine Own.iloadN 185 X41 hx (hb hby d9_184) rfl rfl ?_
  refine Own.retInt X41 hx hlk hret (hb hby d9_185) (by decide) (by decide) ?_
  rw [e41]
  exact ⟨res, rfl, N41, ⟨Ef_43, Ff_44, Ff_45, Ff_46, ⟨_, Ff_47⟩, ⟨_, Ff_48⟩, Af_49, A41, n1, n2, n3, g_a, g_k, g_n⟩⟩
theorem d9_65 : decode prog_47_method_8_code 65 = .ok (.aload_n 0, 1) := by decide +kernel
theorem d9_66 : decode prog_47_method_8_code 66 = .ok (.dup, 1) := by decide +kernel
theorem d9_67 : decode prog_47_method_8_code 67 = .ok (.getfield 30, 3) := by decide +kernel
theorem d9_70 : decode prog_47_method_8_code 70 = .ok (.lconst 1, 1) := by decide +kernel
theorem d9_71 : decode prog_47_method_8_code 71 = .ok (.ladd, 1) := by decide +kernel
theorem d9_72 : decode prog_47_method_8_code 72 = .ok (.putfield 30, 3) := by decide +kernel
theorem d9_75 : decode prog_47_method_8_code 75 = .ok (.iconst 2, 1) := by decide +kernel
theorem d9_76 : decode prog_47_method_8_code 76 = .ok (.iload 5, 2) := by decide +kernel
theorem d9_78 : decode prog_47_method_8_code 78 = .ok (.imul, 1) := by decide +kernel
theorem d9_79 : decode prog_47_method_8_code 79 = .ok (.iconst 1, 1) := by decide +kernel
theorem d9_80 : decode prog_47_method_8_code 80 = .ok (.iadd, 1) := by decide +kernel
theorem d9_81 : decode prog_47_method_8_code 81 = .ok (.istore 6, 2) := by decide +kernel
theorem d9_83 : decode prog_47_method_8_code 83 = .ok (.iload 6, 2) := by decide +kernel
theorem d9_85 : decode prog_47_method_8_code 85 = .ok (.iconst 1, 1) := by decide +kernel
theorem d9_86 : decode prog_47_method_8_code 86 = .ok (.iadd, 1) := by decide +kernel
theorem d9_87 : decode prog_47_method_8_code 87 = .ok (.aload_n 0, 1) := by decide +kernel
theorem d9_88 : decode prog_47_method_8_code 88 = .ok (.getfield 23, 3) := by decide +kernel
theorem d9_91 : decode prog_47_method_8_code 91 = .ok (.if_icmp .ge 26, 3) := by decide +kernel
theorem d9_117 : decode prog_47_method_8_code 117 = .ok (.aload_n 0, 1) := by decide +kernel
theorem d9_118 : decode prog_47_method_8_code 118 = .ok (.getfield 13, 3) := by decide +kernel
theorem d9_121 : decode prog_47_method_8_code 121 = .ok (.iload 6, 2) := by decide +kernel
theorem d9_123 : decode prog_47_method_8_code 123 = .ok (.laload, 1) := by decide +kernel
theorem d9_124 : decode prog_47_method_8_code 124 = .ok (.lload_n 2, 1) := by decide +kernel
theorem d9_125 : decode prog_47_method_8_code 125 = .ok (.lcmp, 1) := by decide +kernel
theorem d9_126 : decode prog_47_method_8_code 126 = .ok (.ifCond .lt 6, 3) := by decide +kernel
theorem d9_129 : decode prog_47_method_8_code 129 = .ok (.goto 38, 3) := by decide +kernel
theorem d9_132 : decode prog_47_method_8_code 132 = .ok (.aload_n 0, 1) := by decide +kernel
theorem d9_133 : decode prog_47_method_8_code 133 = .ok (.getfield 13, 3) := by decide +kernel
theorem d9_136 : decode prog_47_method_8_code 136 = .ok (.iload 5, 2) := by decide +kernel
theorem d9_138 : decode prog_47_method_8_code 138 = .ok (.aload_n 0, 1) := by decide +kernel
theorem d9_139 : decode prog_47_method_8_code 139 = .ok (.getfield 13, 3) := by decide +kernel
theorem d9_142 : decode prog_47_method_8_code 142 = .ok (.iload 6, 2) := by decide +kernel
theorem d9_144 : decode prog_47_method_8_code 144 = .ok (.laload, 1) := by decide +kernel
theorem d9_145 : decode prog_47_method_8_code 145 = .ok (.lastore, 1) := by decide +kernel
theorem d9_146 : decode prog_47_method_8_code 146 = .ok (.aload_n 0, 1) := by decide +kernel
theorem d9_147 : decode prog_47_method_8_code 147 = .ok (.getfield 19, 3) := by decide +kernel
theorem d9_150 : decode prog_47_method_8_code 150 = .ok (.iload 5, 2) := by decide +kernel
theorem d9_152 : decode prog_47_method_8_code 152 = .ok (.aload_n 0, 1) := by decide +kernel
theorem d9_153 : decode prog_47_method_8_code 153 = .ok (.getfield 19, 3) := by decide +kernel
theorem d9_156 : decode prog_47_method_8_code 156 = .ok (.iload 6, 2) := by decide +kernel
theorem d9_158 : decode prog_47_method_8_code 158 = .ok (.iaload, 1) := by decide +kernel
theorem d9_159 : decode prog_47_method_8_code 159 = .ok (.iastore, 1) := by decide +kernel
theorem d9_160 : decode prog_47_method_8_code 160 = .ok (.iload 6, 2) := by decide +kernel
theorem d9_162 : decode prog_47_method_8_code 162 = .ok (.istore 5, 2) := by decide +kernel
theorem d9_164 : decode prog_47_method_8_code 164 = .ok (.goto (-112), 3) := by decide +kernel
set_option maxRecDepth 65536 in
set_option maxHeartbeats 40000000 in
theorem m9_3 (l : Launch) (Z : State) (a0 : Array Value) (w : ∀ (i : Nat) {d : Jvm.Cond}, tables_1[i]? = some d → d.before a0 Z = true) (a : Addr) (kb nb : Addr) (cp : Int32) (n0 : Nat) (h0 : Heap) (D : own_DQ Z h0 n0 a kb nb cp (3 : Int32)) (hc : 3 ≤ cp.toInt) :
    Own.Met l Z (⟨"com/example/leveler/leveler/leveling/DistanceQueue", "take", "()I"⟩ : MethodName) prog_47_method_8_code 7 (some .int) [] ({ frames := 1, cells := 0, slots := 0, locals := 12 } : Room) #[(.ref a)] h0 (fun v h L => ∃ r : Int32, v = some (.int r) ∧ Fr n0 L ∧ own_DQ Z h n0 a kb nb cp (2 : Int32)) := by
  refine Own.Met.of (plainFor_of_name (by first | (simp [plainName, overriddenIn]; done) | decide +kernel)) ?_
  intro p e s m below meth c T0 hx hby hml hown hnm hret hlk hZ X0 e0
  have hown : s.vm.findClass "com/example/leveler/leveler/leveling/DistanceQueue" = some m.cls := hown
  have hml : c.maxLocals = 7 := hml
  have hnm : meth.name = "take" := hnm
  have ef : entryFrame m #[(.ref a)] 7 = mkF m 0 #[.val (.ref a), .unset, .unset, .unset, .unset, .unset, .unset] [] := by first | (simp [entryFrame, mkF, argsToLocals, Value.category]; done) | rfl
  rw [ef]
  obtain ⟨E_a, Fk, Fn, Fs, ⟨ad, Fa⟩, ⟨st, Ft⟩, Ak, An, n1, n2, n3, g_a, g_k, g_n⟩ := D
  have N0 := Fr.nil n0
  have Z0 : n0 ≤ h0.size := Nat.le_trans g_a (Nat.le_of_lt E_a.lt)
  refine Own.aloadN 1 X0 hx (hb hby d9_0) rfl rfl rfl ?_
  refine Own.callPr 4 0 a [] [] X0 hx hZ hown (m10 l Z a0 w a (3 : Int32) h0 Fs (by decide)) E_a (w 55 rfl) (w 57 rfl) (w 1 rfl) (w 56 rfl) (w 2 rfl) (w 58 rfl) (by decide) e0 (by decide) (by decide) (by decide) (by decide) (by rw [hml]; rfl) (lenOf pd_3 rfl) rfl (Nat.le_of_eq rfl) (hb hby d9_1) rfl ?_
  rintro vv T1 L1 X1 ⟨rfl, hh1, rfl⟩
  have N1 := Fr.app N0 (Fr.nil _)
  refine Own.aloadN 5 X1 hx (hb hby d9_4) rfl rfl rfl ?_
  refine Own.getFld 8 X1 hx hZ hown (host := "") (Or.inl (w 17 rfl)) Via.refl hh1 Fn (hb hby d9_5) rfl ?_
  intro T2 X2 e2
  refine Own.iconst 9 X2 hx ((0 : Int32)) (hb hby d9_8) rfl rfl ?_
  refine Own.axLoadI 10 X2 hx hZ e2 An (own_ix (j := (0 : Int32)) (c := cp) (by decide) (by rw [own_t0]; first | omega | decide)) (hb hby d9_9) rfl fun res => ?_
  refine Own.istoreNV 11 #[.val (.ref a), .val (.int res), .unset, .unset, .unset, .unset, .unset] X2 hx (hb hby d9_10) rfl rfl ?_
  refine Own.aloadN 12 X2 hx (hb hby d9_11) rfl rfl rfl ?_
  refine Own.getFld 15 X2 hx hZ hown (host := "") (Or.inl (w 14 rfl)) Via.refl e2 Fk (hb hby d9_12) rfl ?_
  intro T3 X3 e3
  refine Own.aloadN 16 X3 hx (hb hby d9_15) rfl rfl rfl ?_
  refine Own.dup 17 X3 hx (hb hby d9_16) rfl rfl ?_
  refine Own.getFld 20 X3 hx hZ hown (host := "") (Or.inl (w 24 rfl)) Via.refl e3 Fs (hb hby d9_17) rfl ?_
  intro T4 X4 e4
  refine Own.iconst 21 X4 hx ((1 : Int32)) (hb hby d9_20) rfl rfl ?_
  refine Own.isub 22 X4 hx (hb hby d9_21) rfl (show ((3 : Int32) - (1 : Int32)) = (2 : Int32) by decide) ?_
  refine Own.dupX1 23 X4 hx (hb hby d9_22) rfl rfl rfl ?_
  refine Own.putFld 26 X4 hx hZ hown (host := "") (Or.inl (w 24 rfl)) Via.refl e4 Fs E_a (Or.inl (w 25 rfl)) (w 1 rfl) (ty := .int) (by decide) rfl rfl (hb hby d9_23) rfl ?_
  intro T5 h5 X5 e5 W5
  have N5 := Fr.snoc X5 N1 g_a
  have Ef_7 := E_a.wr W5
  have Ff_8 := Fk.other W5 (Or.inr (slot_ne (Or.inl (w 15 rfl)) (Or.inl (w 25 rfl)) (by decide) (t := (.array .long)) (t' := .int) (by decide) (by decide)))
  have Ff_9 := Fn.other W5 (Or.inr (slot_ne (Or.inl (w 18 rfl)) (Or.inl (w 25 rfl)) (by decide) (t := (.array .int)) (t' := .int) (by decide) (by decide)))
  have Ff_10 := Fs.same W5
  have Ff_11 := Fa.other W5 (Or.inr (slot_ne (Or.inl (w 27 rfl)) (Or.inl (w 25 rfl)) (by decide) (t := .int) (t' := .int) (by decide) (by decide)))
  have Ff_12 := Ft.other W5 (Or.inr (slot_ne (Or.inl (w 29 rfl)) (Or.inl (w 25 rfl)) (by decide) (t := .long) (t' := .int) (by decide) (by decide)))
  have Af_13 := Ak.other W5 (Ne.symm n1)
  have Af_14 := An.other W5 (Ne.symm n2)
  have zl5 := Nat.le_trans Z0 (Nat.le_of_eq W5.size.symm)
  refine Own.axLoadJ 27 X5 hx hZ e5 Af_13 (own_ix (j := (2 : Int32)) (c := cp) (by decide) (by rw [own_t2]; first | omega | decide)) (hb hby d9_26) rfl fun last => ?_
  refine Own.lstoreNV 28 #[.val (.ref a), .val (.int res), .val (.long last), .second, .unset, .unset, .unset] X5 hx (hb hby d9_27) rfl rfl ?_
  refine Own.aloadN 29 X5 hx (hb hby d9_28) rfl rfl rfl ?_
  refine Own.getFld 32 X5 hx hZ hown (host := "") (Or.inl (w 17 rfl)) Via.refl e5 Ff_9 (hb hby d9_29) rfl ?_
  intro T15 X15 e15
  refine Own.aloadN 33 X15 hx (hb hby d9_32) rfl rfl rfl ?_
  refine Own.getFld 36 X15 hx hZ hown (host := "") (Or.inl (w 24 rfl)) Via.refl e15 Ff_10 (hb hby d9_33) rfl ?_
  intro T16 X16 e16
  refine Own.axLoadI 37 X16 hx hZ e16 Af_14 (own_ix (j := (2 : Int32)) (c := cp) (by decide) (by rw [own_t2]; first | omega | decide)) (hb hby d9_36) rfl fun lnode => ?_
  refine Own.istoreV 39 #[.val (.ref a), .val (.int res), .val (.long last), .second, .val (.int lnode), .unset, .unset] X16 hx (hb hby d9_37) rfl rfl ?_
  refine Own.aloadN 40 X16 hx (hb hby d9_39) rfl rfl rfl ?_
  refine Own.dup 41 X16 hx (hb hby d9_40) rfl rfl ?_
  refine Own.getFld 44 X16 hx hZ hown (host := "") (Or.inl (w 28 rfl)) Via.refl e16 Ff_12 (hb hby d9_41) rfl ?_
  intro T17 X17 e17
  refine Own.lconst 45 X17 hx ((1 : Int64)) (hb hby d9_44) rfl rfl ?_
  refine Own.ladd 46 X17 hx (hb hby d9_45) rfl rfl ?_
  refine Own.putFld 49 X17 hx hZ hown (host := "") (Or.inl (w 28 rfl)) Via.refl e17 Ff_12 Ef_7 (Or.inl (w 29 rfl)) (w 1 rfl) (ty := .long) (by decide) rfl rfl (hb hby d9_46) rfl ?_
  intro T18 h18 X18 e18 W18
  have N18 := Fr.snoc X18 N5 g_a
  have Ef_20 := Ef_7.wr W18
  have Ff_21 := Ff_8.other W18 (Or.inr (slot_ne (Or.inl (w 15 rfl)) (Or.inl (w 29 rfl)) (by decide) (t := (.array .long)) (t' := .long) (by decide) (by decide)))
  have Ff_22 := Ff_9.other W18 (Or.inr (slot_ne (Or.inl (w 18 rfl)) (Or.inl (w 29 rfl)) (by decide) (t := (.array .int)) (t' := .long) (by decide) (by decide)))
  have Ff_23 := Ff_10.other W18 (Or.inr (slot_ne (Or.inl (w 25 rfl)) (Or.inl (w 29 rfl)) (by decide) (t := .int) (t' := .long) (by decide) (by decide)))
  have Ff_24 := Ff_11.other W18 (Or.inr (slot_ne (Or.inl (w 27 rfl)) (Or.inl (w 29 rfl)) (by decide) (t := .int) (t' := .long) (by decide) (by decide)))
  have Ff_25 := Ff_12.same W18
  have Af_26 := Af_13.other W18 (Ne.symm n1)
  have Af_27 := Af_14.other W18 (Ne.symm n2)
  have zl18 := Nat.le_trans zl5 (Nat.le_of_eq W18.size.symm)
  refine Own.iconst 50 X18 hx ((0 : Int32)) (hb hby d9_49) rfl rfl ?_
  refine Own.istoreV 52 #[.val (.ref a), .val (.int res), .val (.long last), .second, .val (.int lnode), .val (.int (0 : Int32)), .unset] X18 hx (hb hby d9_50) rfl rfl ?_
  refine Own.iconst 53 X18 hx ((2 : Int32)) (hb hby d9_52) rfl rfl ?_
  refine Own.iload 55 X18 hx (hb hby d9_53) rfl rfl ?_
  refine Own.imul 56 X18 hx (hb hby d9_55) rfl (show ((2 : Int32) * (0 : Int32)) = (0 : Int32) by decide) ?_
  refine Own.iconst 57 X18 hx ((1 : Int32)) (hb hby d9_56) rfl rfl ?_
  refine Own.iadd 58 X18 hx (hb hby d9_57) rfl (show ((0 : Int32) + (1 : Int32)) = (1 : Int32) by decide) ?_
  refine Own.aloadN 59 X18 hx (hb hby d9_58) rfl rfl rfl ?_
  refine Own.getFld 62 X18 hx hZ hown (host := "") (Or.inl (w 24 rfl)) Via.refl e18 Ff_23 (hb hby d9_59) rfl ?_
  intro T28 X28 e28
  refine Own.icmp_ge 167 65 X28 hx (hb hby d9_62) (by decide) rfl (fun tk => absurd tk (by decide)) (fun tk => ?_)
  refine Own.aloadN 66 X28 hx (hb hby d9_65) rfl rfl rfl ?_
  refine Own.dup 67 X28 hx (hb hby d9_66) rfl rfl ?_
  refine Own.getFld 70 X28 hx hZ hown (host := "") (Or.inl (w 28 rfl)) Via.refl e28 Ff_25 (hb hby d9_67) rfl ?_
  intro T29 X29 e29
  refine Own.lconst 71 X29 hx ((1 : Int64)) (hb hby d9_70) rfl rfl ?_
  refine Own.ladd 72 X29 hx (hb hby d9_71) rfl rfl ?_
  refine Own.putFld 75 X29 hx hZ hown (host := "") (Or.inl (w 28 rfl)) Via.refl e29 Ff_25 Ef_20 (Or.inl (w 29 rfl)) (w 1 rfl) (ty := .long) (by decide) rfl rfl (hb hby d9_72) rfl ?_
  intro T30 h30 X30 e30 W30
  have N30 := Fr.snoc X30 N18 g_a
  have Ef_32 := Ef_20.wr W30
  have Ff_33 := Ff_21.other W30 (Or.inr (slot_ne (Or.inl (w 15 rfl)) (Or.inl (w 29 rfl)) (by decide) (t := (.array .long)) (t' := .long) (by decide) (by decide)))
  have Ff_34 := Ff_22.other W30 (Or.inr (slot_ne (Or.inl (w 18 rfl)) (Or.inl (w 29 rfl)) (by decide) (t := (.array .int)) (t' := .long) (by decide) (by decide)))
  have Ff_35 := Ff_23.other W30 (Or.inr (slot_ne (Or.inl (w 25 rfl)) (Or.inl (w 29 rfl)) (by decide) (t := .int) (t' := .long) (by decide) (by decide)))
  have Ff_36 := Ff_24.other W30 (Or.inr (slot_ne (Or.inl (w 27 rfl)) (Or.inl (w 29 rfl)) (by decide) (t := .int) (t' := .long) (by decide) (by decide)))
  have Ff_37 := Ff_25.same W30
  have Af_38 := Af_26.other W30 (Ne.symm n1)
  have Af_39 := Af_27.other W30 (Ne.symm n2)
  have zl30 := Nat.le_trans zl18 (Nat.le_of_eq W30.size.symm)
  refine Own.iconst 76 X30 hx ((2 : Int32)) (hb hby d9_75) rfl rfl ?_
  refine Own.iload 78 X30 hx (hb hby d9_76) rfl rfl ?_
  refine Own.imul 79 X30 hx (hb hby d9_78) rfl (show ((2 : Int32) * (0 : Int32)) = (0 : Int32) by decide) ?_
  refine Own.iconst 80 X30 hx ((1 : Int32)) (hb hby d9_79) rfl rfl ?_
  refine Own.iadd 81 X30 hx (hb hby d9_80) rfl (show ((0 : Int32) + (1 : Int32)) = (1 : Int32) by decide) ?_
  refine Own.istoreV 83 #[.val (.ref a), .val (.int res), .val (.long last), .second, .val (.int lnode), .val (.int (0 : Int32)), .val (.int (1 : Int32))] X30 hx (hb hby d9_81) rfl rfl ?_
  refine Own.iload 85 X30 hx (hb hby d9_83) rfl rfl ?_
  refine Own.iconst 86 X30 hx ((1 : Int32)) (hb hby d9_85) rfl rfl ?_
  refine Own.iadd 87 X30 hx (hb hby d9_86) rfl (show ((1 : Int32) + (1 : Int32)) = (2 : Int32) by decide) ?_
  refine Own.aloadN 88 X30 hx (hb hby d9_87) rfl rfl rfl ?_
  refine Own.getFld 91 X30 hx hZ hown (host := "") (Or.inl (w 24 rfl)) Via.refl e30 Ff_35 (hb hby d9_88) rfl ?_
  intro T40 X40 e40
  refine Own.icmp_ge 117 94 X40 hx (hb hby d9_91) (by decide) rfl (fun tk => ?_) (fun tk => absurd tk (by decide))
  refine Own.aloadN 118 X40 hx (hb hby d9_117) rfl rfl rfl ?_
  refine Own.getFld 121 X40 hx hZ hown (host := "") (Or.inl (w 14 rfl)) Via.refl e40 Ff_33 (hb hby d9_118) rfl ?_
  intro T41 X41 e41
  refine Own.iload 123 X41 hx (hb hby d9_121) rfl rfl ?_
  refine Own.axLoadJ 124 X41 hx hZ e41 Af_38 (own_ix (j := (1 : Int32)) (c := cp) (by decide) (by rw [own_t1]; first | omega | decide)) (hb hby d9_123) rfl fun k1 => ?_
  refine Own.lloadN 125 X41 hx (hb hby d9_124) rfl rfl ?_
  refine Own.lif_lt 132 129 X41 hx (hb hby d9_125) rfl (hb hby d9_126) (by decide) rfl (fun b1 => ?_) (fun b1 => ?_)
  ·
    refine Own.aloadN 133 X41 hx (hb hby d9_132) rfl rfl rfl ?_
    refine Own.getFld 136 X41 hx hZ hown (host := "") (Or.inl (w 14 rfl)) Via.refl e41 Ff_33 (hb hby d9_133) rfl ?_
    intro T42 X42 e42
    refine Own.iload 138 X42 hx (hb hby d9_136) rfl rfl ?_
    refine Own.aloadN 139 X42 hx (hb hby d9_138) rfl rfl rfl ?_
    refine Own.getFld 142 X42 hx hZ hown (host := "") (Or.inl (w 14 rfl)) Via.refl e42 Ff_33 (hb hby d9_139) rfl ?_
    intro T43 X43 e43
    refine Own.iload 144 X43 hx (hb hby d9_142) rfl rfl ?_
    refine Own.axLoadJ 145 X43 hx hZ e43 Af_38 (own_ix (j := (1 : Int32)) (c := cp) (by decide) (by rw [own_t1]; first | omega | decide)) (hb hby d9_144) rfl fun k1' => ?_
    refine Own.axStoreJ 146 X43 hx hZ e43 Af_38 (own_ix (j := (0 : Int32)) (c := cp) (by decide) (by rw [own_t0]; first | omega | decide)) (hb hby d9_145) rfl ?_
    intro T44 h44 X44 e44 W44 A44
    have N44 := Fr.snoc X44 N30 g_k
    have Ef_46 := Ef_32.wr W44
    have Ff_47 := Ff_33.other W44 (Or.inl n1)
    have Ff_48 := Ff_34.other W44 (Or.inl n1)
    have Ff_49 := Ff_35.other W44 (Or.inl n1)
    have Ff_50 := Ff_36.other W44 (Or.inl n1)
    have Ff_51 := Ff_37.other W44 (Or.inl n1)
    have Af_53 := Af_39.other W44 (Ne.symm n3)
    have zl44 := Nat.le_trans zl30 (Nat.le_of_eq W44.size.symm)
    refine Own.aloadN 147 X44 hx (hb hby d9_146) rfl rfl rfl ?_
    refine Own.getFld 150 X44 hx hZ hown (host := "") (Or.inl (w 17 rfl)) Via.refl e44 Ff_48 (hb hby d9_147) rfl ?_
    intro T54 X54 e54
    refine Own.iload 152 X54 hx (hb hby d9_150) rfl rfl ?_
    refine Own.aloadN 153 X54 hx (hb hby d9_152) rfl rfl rfl ?_
    refine Own.getFld 156 X54 hx hZ hown (host := "") (Or.inl (w 17 rfl)) Via.refl e54 Ff_48 (hb hby d9_153) rfl ?_
    intro T55 X55 e55
    refine Own.iload 158 X55 hx (hb hby d9_156) rfl rfl ?_
    refine Own.axLoadI 159 X55 hx hZ e55 Af_53 (own_ix (j := (1 : Int32)) (c := cp) (by decide) (by rw [own_t1]; first | omega | decide)) (hb hby d9_158) rfl fun nd1 => ?_
    refine Own.axStoreI 160 X55 hx hZ e55 Af_53 (own_ix (j := (0 : Int32)) (c := cp) (by decide) (by rw [own_t0]; first | omega | decide)) (hb hby d9_159) rfl ?_
    intro T56 h56 X56 e56 W56 A56
    have N56 := Fr.snoc X56 N44 g_n
    have Ef_58 := Ef_46.wr W56
    have Ff_59 := Ff_47.other W56 (Or.inl n2)
    have Ff_60 := Ff_48.other W56 (Or.inl n2)
    have Ff_61 := Ff_49.other W56 (Or.inl n2)
    have Ff_62 := Ff_50.other W56 (Or.inl n2)
    have Ff_63 := Ff_51.other W56 (Or.inl n2)
    have Af_64 := A44.other W56 n3
    have zl56 := Nat.le_trans zl44 (Nat.le_of_eq W56.size.symm)
    refine Own.iload 162 X56 hx (hb hby d9_160) rfl rfl ?_
    refine Own.istoreV 164 #[.val (.ref a), .val (.int res), .val (.long last), .second, .val (.int lnode), .val (.int (1 : Int32)), .val (.int (1 : Int32))] X56 hx (hb hby d9_162) rfl rfl ?_
    refine Own.goto 52 X56 hx (hb hby d9_164) (by decide) ?_
    refine Own.iconst 53 X56 hx ((2 : Int32)) (hb hby d9_52) rfl rfl ?_
    refine Own.iload 55 X56 hx (hb hby d9_53) rfl rfl ?_
    refine Own.imul 56 X56 hx (hb hby d9_55) rfl (show ((2 : Int32) * (1 : Int32)) = (2 : Int32) by decide) ?_
    refine Own.iconst 57 X56 hx ((1 : Int32)) (hb hby d9_56) rfl rfl ?_
    refine Own.iadd 58 X56 hx (hb hby d9_57) rfl (show ((2 : Int32) + (1 : Int32)) = (3 : Int32) by decide) ?_
    refine Own.aloadN 59 X56 hx (hb hby d9_58) rfl rfl rfl ?_
    refine Own.getFld 62 X56 hx hZ hown (host := "") (Or.inl (w 24 rfl)) Via.refl e56 Ff_61 (hb hby d9_59) rfl ?_
    intro T66 X66 e66
    refine Own.icmp_ge 167 65 X66 hx (hb hby d9_62) (by decide) rfl (fun tk => ?_) (fun tk => absurd tk (by decide))
    refine Own.aloadN 168 X66 hx (hb hby d9_167) rfl rfl rfl ?_
    refine Own.getFld 171 X66 hx hZ hown (host := "") (Or.inl (w 14 rfl)) Via.refl e66 Ff_59 (hb hby d9_168) rfl ?_
    intro T67 X67 e67
    refine Own.iload 173 X67 hx (hb hby d9_171) rfl rfl ?_
    refine Own.lloadN 174 X67 hx (hb hby d9_173) rfl rfl ?_
    refine Own.axStoreJ 175 X67 hx hZ e67 Af_64 (own_ix (j := (1 : Int32)) (c := cp) (by decide) (by rw [own_t1]; first | omega | decide)) (hb hby d9_174) rfl ?_
    intro T68 h68 X68 e68 W68 A68
    have N68 := Fr.snoc X68 N56 g_k
    have Ef_70 := Ef_58.wr W68
    have Ff_71 := Ff_59.other W68 (Or.inl n1)
    have Ff_72 := Ff_60.other W68 (Or.inl n1)
    have Ff_73 := Ff_61.other W68 (Or.inl n1)
    have Ff_74 := Ff_62.other W68 (Or.inl n1)
    have Ff_75 := Ff_63.other W68 (Or.inl n1)
    have Af_77 := A56.other W68 (Ne.symm n3)
    have zl68 := Nat.le_trans zl56 (Nat.le_of_eq W68.size.symm)
    refine Own.aloadN 176 X68 hx (hb hby d9_175) rfl rfl rfl ?_
    refine Own.getFld 179 X68 hx hZ hown (host := "") (Or.inl (w 17 rfl)) Via.refl e68 Ff_72 (hb hby d9_176) rfl ?_
    intro T78 X78 e78
    refine Own.iload 181 X78 hx (hb hby d9_179) rfl rfl ?_
    refine Own.iload 183 X78 hx (hb hby d9_181) rfl rfl ?_
    refine Own.axStoreI 184 X78 hx hZ e78 Af_77 (own_ix (j := (1 : Int32)) (c := cp) (by decide) (by rw [own_t1]; first | omega | decide)) (hb hby d9_183) rfl ?_
    intro T79 h79 X79 e79 W79 A79
    have N79 := Fr.snoc X79 N68 g_n
    have Ef_81 := Ef_70.wr W79
    have Ff_82 := Ff_71.other W79 (Or.inl n2)
    have Ff_83 := Ff_72.other W79 (Or.inl n2)
    have Ff_84 := Ff_73.other W79 (Or.inl n2)
    have Ff_85 := Ff_74.other W79 (Or.inl n2)
    have Ff_86 := Ff_75.other W79 (Or.inl n2)
    have Af_87 := A68.other W79 n3
    have zl79 := Nat.le_trans zl68 (Nat.le_of_eq W79.size.symm)
    refine Own.iloadN 185 X79 hx (hb hby d9_184) rfl rfl ?_
    refine Own.retInt X79 hx hlk hret (hb hby d9_185) (by decide) (by decide) ?_
    rw [e79]
    exact ⟨res, rfl, N79, ⟨Ef_81, Ff_82, Ff_83, Ff_84, ⟨_, Ff_85⟩, ⟨_, Ff_86⟩, Af_87, A79, n1, n2, n3, g_a, g_k, g_n⟩⟩
  ·
    refine Own.goto 167 X41 hx (hb hby d9_129) (by decide) ?_
    refine Own.aloadN 168 X41 hx (hb hby d9_167) rfl rfl rfl ?_
    refine Own.getFld 171 X41 hx hZ hown (host := "") (Or.inl (w 14 rfl)) Via.refl e41 Ff_33 (hb hby d9_168) rfl ?_
    intro T89 X89 e89
    refine Own.iload 173 X89 hx (hb hby d9_171) rfl rfl ?_
    refine Own.lloadN 174 X89 hx (hb hby d9_173) rfl rfl ?_
    refine Own.axStoreJ 175 X89 hx hZ e89 Af_38 (own_ix (j := (0 : Int32)) (c := cp) (by decide) (by rw [own_t0]; first | omega | decide)) (hb hby d9_174) rfl ?_
    intro T90 h90 X90 e90 W90 A90
    have N90 := Fr.snoc X90 N30 g_k
    have Ef_92 := Ef_32.wr W90
    have Ff_93 := Ff_33.other W90 (Or.inl n1)
    have Ff_94 := Ff_34.other W90 (Or.inl n1)
    have Ff_95 := Ff_35.other W90 (Or.inl n1)
    have Ff_96 := Ff_36.other W90 (Or.inl n1)
    have Ff_97 := Ff_37.other W90 (Or.inl n1)
    have Af_99 := Af_39.other W90 (Ne.symm n3)
    have zl90 := Nat.le_trans zl30 (Nat.le_of_eq W90.size.symm)
    refine Own.aloadN 176 X90 hx (hb hby d9_175) rfl rfl rfl ?_
    refine Own.getFld 179 X90 hx hZ hown (host := "") (Or.inl (w 17 rfl)) Via.refl e90 Ff_94 (hb hby d9_176) rfl ?_
    intro T100 X100 e100
    refine Own.iload 181 X100 hx (hb hby d9_179) rfl rfl ?_
    refine Own.iload 183 X100 hx (hb hby d9_181) rfl rfl ?_
    refine Own.axStoreI 184 X100 hx hZ e100 Af_99 (own_ix (j := (0 : Int32)) (c := cp) (by decide) (by rw [own_t0]; first | omega | decide)) (hb hby d9_183) rfl ?_
    intro T101 h101 X101 e101 W101 A101
    have N101 := Fr.snoc X101 N90 g_n
    have Ef_103 := Ef_92.wr W101
    have Ff_104 := Ff_93.other W101 (Or.inl n2)
    have Ff_105 := Ff_94.other W101 (Or.inl n2)
    have Ff_106 := Ff_95.other W101 (Or.inl n2)
    have Ff_107 := Ff_96.other W101 (Or.inl n2)
    have Ff_108 := Ff_97.other W101 (Or.inl n2)
    have Af_109 := A90.other W101 n3
    have zl101 := Nat.le_trans zl90 (Nat.le_of_eq W101.size.symm)
    refine Own.iloadN 185 X101 hx (hb hby d9_184) rfl rfl ?_
    refine Own.retInt X101 hx hlk hret (hb hby d9_185) (by decide) (by decide) ?_
    rw [e101]
    exact ⟨res, rfl, N101, ⟨Ef_103, Ff_104, Ff_105, Ff_106, ⟨_, Ff_107⟩, ⟨_, Ff_108⟩, Af_109, A101, n1, n2, n3, g_a, g_k, g_n⟩⟩
theorem d11_0 : decode prog_47_method_2_code 0 = .ok (.aload_n 0, 1) := by decide +kernel
theorem d11_1 : decode prog_47_method_2_code 1 = .ok (.iconst 0, 1) := by decide +kernel
theorem d11_2 : decode prog_47_method_2_code 2 = .ok (.putfield 23, 3) := by decide +kernel
theorem d11_5 : decode prog_47_method_2_code 5 = .ok (.aload_n 0, 1) := by decide +kernel
theorem d11_6 : decode prog_47_method_2_code 6 = .ok (.iconst 0, 1) := by decide +kernel
theorem d11_7 : decode prog_47_method_2_code 7 = .ok (.putfield 27, 3) := by decide +kernel
theorem d11_10 : decode prog_47_method_2_code 10 = .ok (.return_, 1) := by decide +kernel
set_option maxRecDepth 65536 in
set_option maxHeartbeats 40000000 in
theorem m11 (l : Launch) (Z : State) (a0 : Array Value) (w : ∀ (i : Nat) {d : Jvm.Cond}, tables_1[i]? = some d → d.before a0 Z = true) (a : Addr) (kb nb : Addr) (cp sz : Int32) (n0 : Nat) (h0 : Heap) (D : own_DQ Z h0 n0 a kb nb cp sz) :
    Own.Met l Z (⟨"com/example/leveler/leveler/leveling/DistanceQueue", "clear", "()V"⟩ : MethodName) prog_47_method_2_code 1 none [] ({ frames := 0, cells := 0, slots := 0, locals := 0 } : Room) #[(.ref a)] h0 (fun v h L => v = none ∧ Fr n0 L ∧ own_DQ Z h n0 a kb nb cp 0) := by
  refine Own.Met.of (plainFor_of_name (by first | (simp [plainName, overriddenIn]; done) | decide +kernel)) ?_
  intro p e s m below meth c T0 hx hby hml hown hnm hret hlk hZ X0 e0
  have hown : s.vm.findClass "com/example/leveler/leveler/leveling/DistanceQueue" = some m.cls := hown
  have hml : c.maxLocals = 1 := hml
  have hnm : meth.name = "clear" := hnm
  have ef : entryFrame m #[(.ref a)] 1 = mkF m 0 #[.val (.ref a)] [] := by first | (simp [entryFrame, mkF, argsToLocals, Value.category]; done) | rfl
  rw [ef]
  obtain ⟨E_a, Fk, Fn, Fs, ⟨ad, Fa⟩, ⟨st, Ft⟩, Ak, An, n1, n2, n3, g_a, g_k, g_n⟩ := D
  have N0 := Fr.nil n0
  have Z0 : n0 ≤ h0.size := Nat.le_trans g_a (Nat.le_of_lt E_a.lt)
  refine Own.aloadN 1 X0 hx (hb hby d11_0) rfl rfl rfl ?_
  refine Own.iconst 2 X0 hx ((0 : Int32)) (hb hby d11_1) rfl rfl ?_
  refine Own.putFld 5 X0 hx hZ hown (host := "") (Or.inl (w 24 rfl)) Via.refl e0 Fs E_a (Or.inl (w 25 rfl)) (w 1 rfl) (ty := .int) (by decide) rfl rfl (hb hby d11_2) rfl ?_
  intro T1 h1 X1 e1 W1
  have N1 := Fr.snoc X1 N0 g_a
  have Ef_3 := E_a.wr W1
  have Ff_4 := Fk.other W1 (Or.inr (slot_ne (Or.inl (w 15 rfl)) (Or.inl (w 25 rfl)) (by decide) (t := (.array .long)) (t' := .int) (by decide) (by decide)))
  have Ff_5 := Fn.other W1 (Or.inr (slot_ne (Or.inl (w 18 rfl)) (Or.inl (w 25 rfl)) (by decide) (t := (.array .int)) (t' := .int) (by decide) (by decide)))
  have Ff_6 := Fs.same W1
  have Ff_7 := Fa.other W1 (Or.inr (slot_ne (Or.inl (w 27 rfl)) (Or.inl (w 25 rfl)) (by decide) (t := .int) (t' := .int) (by decide) (by decide)))
  have Ff_8 := Ft.other W1 (Or.inr (slot_ne (Or.inl (w 29 rfl)) (Or.inl (w 25 rfl)) (by decide) (t := .long) (t' := .int) (by decide) (by decide)))
  have Af_9 := Ak.other W1 (Ne.symm n1)
  have Af_10 := An.other W1 (Ne.symm n2)
  have zl1 := Nat.le_trans Z0 (Nat.le_of_eq W1.size.symm)
  refine Own.aloadN 6 X1 hx (hb hby d11_5) rfl rfl rfl ?_
  refine Own.iconst 7 X1 hx ((0 : Int32)) (hb hby d11_6) rfl rfl ?_
  refine Own.putFld 10 X1 hx hZ hown (host := "") (Or.inl (w 26 rfl)) Via.refl e1 Ff_7 Ef_3 (Or.inl (w 27 rfl)) (w 1 rfl) (ty := .int) (by decide) rfl rfl (hb hby d11_7) rfl ?_
  intro T11 h11 X11 e11 W11
  have N11 := Fr.snoc X11 N1 g_a
  have Ef_13 := Ef_3.wr W11
  have Ff_14 := Ff_4.other W11 (Or.inr (slot_ne (Or.inl (w 15 rfl)) (Or.inl (w 27 rfl)) (by decide) (t := (.array .long)) (t' := .int) (by decide) (by decide)))
  have Ff_15 := Ff_5.other W11 (Or.inr (slot_ne (Or.inl (w 18 rfl)) (Or.inl (w 27 rfl)) (by decide) (t := (.array .int)) (t' := .int) (by decide) (by decide)))
  have Ff_16 := Ff_6.other W11 (Or.inr (slot_ne (Or.inl (w 25 rfl)) (Or.inl (w 27 rfl)) (by decide) (t := .int) (t' := .int) (by decide) (by decide)))
  have Ff_17 := Ff_7.same W11
  have Ff_18 := Ff_8.other W11 (Or.inr (slot_ne (Or.inl (w 29 rfl)) (Or.inl (w 27 rfl)) (by decide) (t := .long) (t' := .int) (by decide) (by decide)))
  have Af_19 := Af_9.other W11 (Ne.symm n1)
  have Af_20 := Af_10.other W11 (Ne.symm n2)
  have zl11 := Nat.le_trans zl1 (Nat.le_of_eq W11.size.symm)
  refine Own.retVoid X11 hx hlk hret (hb hby d11_10) (by decide) (by decide) ?_
  rw [e11]
  exact ⟨rfl, N11, ⟨Ef_13, Ff_14, Ff_15, Ff_16, ⟨_, Ff_17⟩, ⟨_, Ff_18⟩, Af_19, Af_20, n1, n2, n3, g_a, g_k, g_n⟩⟩
set_option maxRecDepth 65536 in
set_option maxHeartbeats 40000000 in
theorem m0 (l : Launch) (Z : State) (a0 : Array Value) (w : ∀ (i : Nat) {d : Jvm.Cond}, tables_1[i]? = some d → d.before a0 Z = true) (x0 : Int32) (x1 : Int32) (x2 : Int32) (x3 : Int32) (x4 : Int32)  (h0 : Heap) (n0 : Nat) (Z0 : n0 ≤ h0.size) :
    Own.Met l Z x code maxLocals ret tables_1 room_1 #[(.int x0), (.int x1), (.int x2), (.int x3), (.int x4)] h0 (fun v h L => v = some (.int 1) ∧ Fr n0 L) := by
  refine Own.Met.of (plainFor_of_name (by first | (simp [plainName, overriddenIn]; done) | decide +kernel)) ?_
  intro p e s m below meth c T0 hx hby hml hown hnm hret hlk hZ X0 e0
  have hown : s.vm.findClass "com/example/leveler/leveler/leveling/DistanceQueueIsEmptyPinLaw" = some m.cls := hown
  have hml : c.maxLocals = 9 := hml
  have hnm : meth.name = "law" := hnm
  have hret : meth.sig.returnType = some .boolean := hret
  have ef : entryFrame m #[(.int x0), (.int x1), (.int x2), (.int x3), (.int x4)] maxLocals = mkF m 0 #[.val (.int x0), .val (.int x1), .val (.int x2), .val (.int x3), .val (.int x4), .unset, .unset, .unset, .unset] [] := by first | (simp [entryFrame, mkF, argsToLocals, Value.category, maxLocals]; done) | rfl
  rw [ef]
  have N0 := Fr.nil n0
  refine Own.newObj 3 X0 hx hZ hown (w 0 rfl) (w 1 rfl) (w 2 rfl) e0 (hb hby at_0) rfl (by decide) (by decide) ?_
  intro T1 h1 a z1 X1 e1 E1 A1 D1
  have g_a : n0 ≤ a := Nat.le_trans Z0 (Nat.le_of_eq z1.symm)
  have zl1 := Nat.le_trans Z0 E1.1
  have F1_keys : Fld Z h1 a "com/example/leveler/leveler/leveling/DistanceQueue" "keys" "[J" .null := D1 (Or.inl (w 15 rfl)) (ty := (.array .long)) (by decide)
  have F1_nodes : Fld Z h1 a "com/example/leveler/leveler/leveling/DistanceQueue" "nodes" "[I" .null := D1 (Or.inl (w 18 rfl)) (ty := (.array .int)) (by decide)
  have F1_size : Fld Z h1 a "com/example/leveler/leveler/leveling/DistanceQueue" "size" "I" (.int (0 : Int32)) := D1 (Or.inl (w 25 rfl)) (ty := .int) (by decide)
  have F1_added : Fld Z h1 a "com/example/leveler/leveler/leveling/DistanceQueue" "added" "I" (.int (0 : Int32)) := D1 (Or.inl (w 27 rfl)) (ty := .int) (by decide)
  have F1_steps : Fld Z h1 a "com/example/leveler/leveler/leveling/DistanceQueue" "steps" "J" (.long (0 : Int64)) := D1 (Or.inl (w 29 rfl)) (ty := .long) (by decide)
  refine Own.dup 4 X1 hx (hb hby at_3) rfl rfl ?_
  refine Own.iloadN 5 X1 hx (hb hby at_4) rfl rfl ?_
  refine Own.iconst 6 X1 hx ((3 : Int32)) (hb hby at_5) rfl rfl ?_
  refine Own.iand 7 X1 hx (hb hby at_6) rfl rfl ?_
  refine Own.iconst 8 X1 hx ((1 : Int32)) (hb hby at_7) rfl rfl ?_
  refine Own.isub 9 X1 hx (hb hby at_8) rfl rfl ?_
  obtain ⟨cap, hcap⟩ : ∃ z, z = (x0 &&& 3) - 1 := ⟨_, rfl⟩
  rw [← hcap]
  refine Own.callInit 12 1 a [(.int cap)] [(.ref a)] X1 hx hZ hown (m1 l Z a0 w a cap x0 _ _ n0 h1 hcap zl1 A1 F1_keys F1_nodes F1_size F1_added F1_steps g_a) rfl (w 3 rfl) (w 4 rfl) (w 2 rfl) (w 5 rfl) (by decide) e1 (by decide) (by decide) (by decide) (by decide) (by rw [hml]; rfl) (lenOf pd_4 rfl) rfl (Nat.le_of_eq rfl) (hb hby at_9) rfl ?_
  rintro vv T3 L3 X3 ⟨rfl, N3q, kb, nb, cp, D, hc⟩
  have N3 := Fr.app N0 N3q
  have E3 := D.1
  refine Own.astore 14 #[.val (.int x0), .val (.int x1), .val (.int x2), .val (.int x3), .val (.int x4), .val (.ref a), .unset, .unset, .unset] X3 hx (hb hby at_12) rfl rfl rfl ?_
  refine Own.iloadN 15 X3 hx (hb hby at_14) rfl rfl ?_
  refine Own.iconst 16 X3 hx ((3 : Int32)) (hb hby at_15) rfl rfl ?_
  refine Own.iand 17 X3 hx (hb hby at_16) rfl rfl ?_
  refine Own.istore 19 (fun nq => #[.val (.int x0), .val (.int x1), .val (.int x2), .val (.int x3), .val (.int x4), .val (.ref a), .val (.int nq), .unset, .unset]) X3 hx (hb hby at_17) rfl (fun _ => rfl) fun nq hnq => ?_
  refine Own.iload 21 X3 hx (hb hby at_19) rfl rfl ?_
  refine Own.iconst 22 X3 hx ((1 : Int32)) (hb hby at_21) rfl rfl ?_
  rcases own_four x1 with q | q | q | q <;> rw [q] at hnq <;> subst hnq
  ·
    refine Own.icmp_lt 32 25 X3 hx (hb hby at_22) (by decide) rfl (fun tk => ?_) (fun tk => absurd tk (by decide))
    refine Own.iload 34 X3 hx (hb hby at_32) rfl rfl ?_
    refine Own.iconst 35 X3 hx ((2 : Int32)) (hb hby at_34) rfl rfl ?_
    refine Own.icmp_lt 46 38 X3 hx (hb hby at_35) (by decide) rfl (fun tk => ?_) (fun tk => absurd tk (by decide))
    refine Own.iload 48 X3 hx (hb hby at_46) rfl rfl ?_
    refine Own.iconst 49 X3 hx ((3 : Int32)) (hb hby at_48) rfl rfl ?_
    refine Own.icmp_lt 60 52 X3 hx (hb hby at_49) (by decide) rfl (fun tk => ?_) (fun tk => absurd tk (by decide))
    refine Own.aload 62 X3 hx (hb hby at_60) rfl rfl rfl ?_
    refine Own.callVt 65 0 a [] [] X3 hx hZ hown (m8 l Z a0 w a (0 : Int32) _ D.2.2.2.1) E3 (notFace_of_selects (args := #[]) (mvT hZ (w 47 rfl))) (w 44 rfl) (w 45 rfl) (w 47 rfl) (w 46 rfl) (w 2 rfl) (w 48 rfl) (by decide) rfl (by decide) (by decide) (by decide) (by decide) (by rw [hml]; rfl) (lenOf pd_5 rfl) rfl (Nat.le_of_eq rfl) (hb hby at_62) rfl ?_
    rintro vv T4 L4 X4 ⟨rfl, hh4, rfl⟩
    have N4 := Fr.app N3 (Fr.nil _)
    show Own.Ends p.tables e below s _ _ _ (T4.setTop (mkF m 65 #[.val (.int x0), .val (.int x1), .val (.int x2), .val (.int x3), .val (.int x4), .val (.ref a), .val (.int (0 : Int32)), .unset, .unset] [(.int (1 : Int32))]))
    refine Own.iload 67 X4 hx (hb hby at_65) rfl rfl ?_
    refine Own.if_ne 74 70 X4 hx (hb hby at_67) (by decide) rfl (fun tk => absurd tk (by decide)) (fun tk => ?_)
    refine Own.iconst 71 X4 hx ((1 : Int32)) (hb hby at_70) rfl rfl ?_
    refine Own.goto 75 X4 hx (hb hby at_71) (by decide) ?_
    refine Own.icmp_ne 82 78 X4 hx (hb hby at_75) (by decide) rfl (fun tk => absurd tk (by decide)) (fun tk => ?_)
    refine Own.iconst 79 X4 hx ((1 : Int32)) (hb hby at_78) rfl rfl ?_
    refine Own.goto 83 X4 hx (hb hby at_79) (by decide) ?_
    refine Own.istoreV 85 #[.val (.int x0), .val (.int x1), .val (.int x2), .val (.int x3), .val (.int x4), .val (.ref a), .val (.int (0 : Int32)), .val (.int (1 : Int32)), .unset] X4 hx (hb hby at_83) rfl rfl ?_
    refine Own.iloadN 86 X4 hx (hb hby at_85) rfl rfl ?_
    refine Own.iconst 87 X4 hx ((2 : Int32)) (hb hby at_86) rfl rfl ?_
    refine Own.iushr 88 X4 hx (hb hby at_87) rfl rfl ?_
    refine Own.iconst 89 X4 hx ((3 : Int32)) (hb hby at_88) rfl rfl ?_
    refine Own.iand 90 X4 hx (hb hby at_89) rfl rfl ?_
    refine Own.iload 92 X4 hx (hb hby at_90) rfl rfl ?_
    refine Own.callSt 95 0 [(.int (((x1.toUInt32 >>> ((2 : Int32) &&& 31).toUInt32).toInt32) &&& (3 : Int32))), (.int (0 : Int32))] [] X4 hx hZ hown (m6 l Z a0 w _ _ _) (w 49 rfl) (w 35 rfl) (w 11 rfl) (w 36 rfl) (by decide) hh4 (by decide) (by decide) (by decide) (by decide) (by rw [hml]; rfl) (lenOf pd_0 rfl) rfl (Nat.le_of_eq rfl) (hb hby at_92) rfl ?_
    rintro vv T5 L5 X5 ⟨rfl, hh5, rfl⟩
    have N5 := Fr.app N4 (Fr.nil _)
    have hk0 := own_mn ((x1.toUInt32 >>> ((2 : Int32) &&& 31).toUInt32).toInt32) (0 : Int32) (by decide)
    generalize (if (0 : Int32) < ((x1.toUInt32 >>> ((2 : Int32) &&& 31).toUInt32).toInt32 &&& 3) then (0 : Int32) else ((x1.toUInt32 >>> ((2 : Int32) &&& 31).toUInt32).toInt32 &&& 3)) = kq at *
    obtain rfl := own_le0 hk0
    refine Own.istoreV 97 #[.val (.int x0), .val (.int x1), .val (.int x2), .val (.int x3), .val (.int x4), .val (.ref a), .val (.int (0 : Int32)), .val (.int (1 : Int32)), .val (.int (0 : Int32))] X5 hx (hb hby at_95) rfl rfl ?_
    refine Own.iload 99 X5 hx (hb hby at_97) rfl rfl ?_
    refine Own.iconst 100 X5 hx ((1 : Int32)) (hb hby at_99) rfl rfl ?_
    refine Own.icmp_lt 109 103 X5 hx (hb hby at_100) (by decide) rfl (fun tk => ?_) (fun tk => absurd tk (by decide))
    refine Own.iload 111 X5 hx (hb hby at_109) rfl rfl ?_
    refine Own.iconst 112 X5 hx ((2 : Int32)) (hb hby at_111) rfl rfl ?_
    refine Own.icmp_lt 121 115 X5 hx (hb hby at_112) (by decide) rfl (fun tk => ?_) (fun tk => absurd tk (by decide))
    refine Own.iload 123 X5 hx (hb hby at_121) rfl rfl ?_
    refine Own.iconst 124 X5 hx ((3 : Int32)) (hb hby at_123) rfl rfl ?_
    refine Own.icmp_lt 133 127 X5 hx (hb hby at_124) (by decide) rfl (fun tk => ?_) (fun tk => absurd tk (by decide))
    refine Own.iload 135 X5 hx (hb hby at_133) rfl rfl ?_
    refine Own.if_eq 163 138 X5 hx (hb hby at_135) (by decide) rfl (fun tk => absurd tk (by decide)) (fun tk => ?_)
    refine Own.aload 140 X5 hx (hb hby at_138) rfl rfl rfl ?_
    refine Own.callVt 143 0 a [] [] X5 hx hZ hown (m8 l Z a0 w a (0 : Int32) _ D.2.2.2.1) E3 (notFace_of_selects (args := #[]) (mvT hZ (w 47 rfl))) (w 44 rfl) (w 45 rfl) (w 47 rfl) (w 46 rfl) (w 2 rfl) (w 48 rfl) (by decide) hh5 (by decide) (by decide) (by decide) (by decide) (by rw [hml]; rfl) (lenOf pd_5 rfl) rfl (Nat.le_of_eq rfl) (hb hby at_140) rfl ?_
    rintro vv T6 L6 X6 ⟨rfl, hh6, rfl⟩
    have N6 := Fr.app N5 (Fr.nil _)
    show Own.Ends p.tables e below s _ _ _ (T6.setTop (mkF m 143 #[.val (.int x0), .val (.int x1), .val (.int x2), .val (.int x3), .val (.int x4), .val (.ref a), .val (.int (0 : Int32)), .val (.int (1 : Int32)), .val (.int (0 : Int32))] [(.int (1 : Int32))]))
    refine Own.iload 145 X6 hx (hb hby at_143) rfl rfl ?_
    refine Own.iload 147 X6 hx (hb hby at_145) rfl rfl ?_
    refine Own.isub 148 X6 hx (hb hby at_147) rfl (show ((0 : Int32) - (0 : Int32)) = (0 : Int32) by decide) ?_
    refine Own.if_ne 155 151 X6 hx (hb hby at_148) (by decide) rfl (fun tk => absurd tk (by decide)) (fun tk => ?_)
    refine Own.iconst 152 X6 hx ((1 : Int32)) (hb hby at_151) rfl rfl ?_
    refine Own.goto 156 X6 hx (hb hby at_152) (by decide) ?_
    refine Own.icmp_ne 163 159 X6 hx (hb hby at_156) (by decide) rfl (fun tk => absurd tk (by decide)) (fun tk => ?_)
    refine Own.iconst 160 X6 hx ((1 : Int32)) (hb hby at_159) rfl rfl ?_
    refine Own.goto 164 X6 hx (hb hby at_160) (by decide) ?_
    refine Own.istoreV 166 #[.val (.int x0), .val (.int x1), .val (.int x2), .val (.int x3), .val (.int x4), .val (.ref a), .val (.int (0 : Int32)), .val (.int (1 : Int32)), .val (.int (0 : Int32))] X6 hx (hb hby at_164) rfl rfl ?_
    refine Own.iloadN 167 X6 hx (hb hby at_166) rfl rfl ?_
    refine Own.iconst 168 X6 hx ((4 : Int32)) (hb hby at_167) rfl rfl ?_
    refine Own.iushr 169 X6 hx (hb hby at_168) rfl rfl ?_
    refine Own.iconst 170 X6 hx ((1 : Int32)) (hb hby at_169) rfl rfl ?_
    refine Own.iand 171 X6 hx (hb hby at_170) rfl rfl ?_
    refine Own.if_eq 199 174 X6 hx (hb hby at_171) (by decide) rfl (fun cl => ?_) (fun cl => ?_)
    ·
      refine Own.iload 201 X6 hx (hb hby at_199) rfl rfl ?_
      refine Own.retBool X6 hx hlk hret (hb hby at_201) (by decide) (by decide) ?_
      exact ⟨rfl, N6⟩
    ·
      refine Own.aload 176 X6 hx (hb hby at_174) rfl rfl rfl ?_
      refine Own.callVt 179 0 a [] [] X6 hx hZ hown (m11 l Z a0 w a kb nb cp _ n0 _ D) E3 (notFace_of_selects (args := #[]) (mvT hZ (w 62 rfl))) (w 59 rfl) (w 60 rfl) (w 62 rfl) (w 61 rfl) (w 2 rfl) (w 63 rfl) (by decide) hh6 (by decide) (by decide) (by decide) (by decide) (by rw [hml]; rfl) (lenOf pd_3 rfl) rfl (Nat.le_of_eq rfl) (hb hby at_176) rfl ?_
      rintro vv T7 L7 X7 ⟨rfl, N7q, D⟩
      have N7 := Fr.app N6 N7q
      have E7 := D.1
      refine Own.iload 181 X7 hx (hb hby at_179) rfl rfl ?_
      refine Own.if_eq 196 184 X7 hx (hb hby at_181) (by decide) rfl (fun tk => absurd tk (by decide)) (fun tk => ?_)
      refine Own.aload 186 X7 hx (hb hby at_184) rfl rfl rfl ?_
      refine Own.callVt 189 0 a [] [] X7 hx hZ hown (m8 l Z a0 w a (0 : Int32) _ D.2.2.2.1) E7 (notFace_of_selects (args := #[]) (mvT hZ (w 47 rfl))) (w 44 rfl) (w 45 rfl) (w 47 rfl) (w 46 rfl) (w 2 rfl) (w 48 rfl) (by decide) rfl (by decide) (by decide) (by decide) (by decide) (by rw [hml]; rfl) (lenOf pd_5 rfl) rfl (Nat.le_of_eq rfl) (hb hby at_186) rfl ?_
      rintro vv T8 L8 X8 ⟨rfl, hh8, rfl⟩
      have N8 := Fr.app N7 (Fr.nil _)
      show Own.Ends p.tables e below s _ _ _ (T8.setTop (mkF m 189 #[.val (.int x0), .val (.int x1), .val (.int x2), .val (.int x3), .val (.int x4), .val (.ref a), .val (.int (0 : Int32)), .val (.int (1 : Int32)), .val (.int (0 : Int32))] [(.int (1 : Int32))]))
      refine Own.if_eq 196 192 X8 hx (hb hby at_189) (by decide) rfl (fun tk => absurd tk (by decide)) (fun tk => ?_)
      refine Own.iconst 193 X8 hx ((1 : Int32)) (hb hby at_192) rfl rfl ?_
      refine Own.goto 197 X8 hx (hb hby at_193) (by decide) ?_
      refine Own.istoreV 199 #[.val (.int x0), .val (.int x1), .val (.int x2), .val (.int x3), .val (.int x4), .val (.ref a), .val (.int (0 : Int32)), .val (.int (1 : Int32)), .val (.int (0 : Int32))] X8 hx (hb hby at_197) rfl rfl ?_
      refine Own.iload 201 X8 hx (hb hby at_199) rfl rfl ?_
      refine Own.retBool X8 hx hlk hret (hb hby at_201) (by decide) (by decide) ?_
      exact ⟨rfl, N8⟩
  ·
    refine Own.icmp_lt 32 25 X3 hx (hb hby at_22) (by decide) rfl (fun tk => absurd tk (by decide)) (fun tk => ?_)
    refine Own.aload 27 X3 hx (hb hby at_25) rfl rfl rfl ?_
    refine Own.iloadN 28 X3 hx (hb hby at_27) rfl rfl ?_
    refine Own.iloadN 29 X3 hx (hb hby at_28) rfl rfl ?_
    refine Own.callVt 32 0 a [(.int x2), (.int x3)] [] X3 hx hZ hown (m4_0 l Z a0 w a x2 x3 kb nb cp n0 _ D hc) E3 (notFace_of_selects (args := #[]) (mvT hZ (w 22 rfl))) (w 19 rfl) (w 20 rfl) (w 22 rfl) (w 21 rfl) (w 2 rfl) (w 23 rfl) (by decide) rfl (by decide) (by decide) (by decide) (by decide) (by rw [hml]; rfl) (lenOf pd_6 rfl) rfl (Nat.le_of_eq rfl) (hb hby at_29) rfl ?_
    rintro vv T9 L9 X9 ⟨rfl, N9q, kb, nb, cp, D, hc⟩
    have N9 := Fr.app N3 N9q
    have E9 := D.1
    refine Own.iload 34 X9 hx (hb hby at_32) rfl rfl ?_
    refine Own.iconst 35 X9 hx ((2 : Int32)) (hb hby at_34) rfl rfl ?_
    refine Own.icmp_lt 46 38 X9 hx (hb hby at_35) (by decide) rfl (fun tk => ?_) (fun tk => absurd tk (by decide))
    refine Own.iload 48 X9 hx (hb hby at_46) rfl rfl ?_
    refine Own.iconst 49 X9 hx ((3 : Int32)) (hb hby at_48) rfl rfl ?_
    refine Own.icmp_lt 60 52 X9 hx (hb hby at_49) (by decide) rfl (fun tk => ?_) (fun tk => absurd tk (by decide))
    refine Own.aload 62 X9 hx (hb hby at_60) rfl rfl rfl ?_
    refine Own.callVt 65 0 a [] [] X9 hx hZ hown (m8 l Z a0 w a (1 : Int32) _ D.2.2.2.1) E9 (notFace_of_selects (args := #[]) (mvT hZ (w 47 rfl))) (w 44 rfl) (w 45 rfl) (w 47 rfl) (w 46 rfl) (w 2 rfl) (w 48 rfl) (by decide) rfl (by decide) (by decide) (by decide) (by decide) (by rw [hml]; rfl) (lenOf pd_5 rfl) rfl (Nat.le_of_eq rfl) (hb hby at_62) rfl ?_
    rintro vv T10 L10 X10 ⟨rfl, hh10, rfl⟩
    have N10 := Fr.app N9 (Fr.nil _)
    show Own.Ends p.tables e below s _ _ _ (T10.setTop (mkF m 65 #[.val (.int x0), .val (.int x1), .val (.int x2), .val (.int x3), .val (.int x4), .val (.ref a), .val (.int (1 : Int32)), .unset, .unset] [(.int (0 : Int32))]))
    refine Own.iload 67 X10 hx (hb hby at_65) rfl rfl ?_
    refine Own.if_ne 74 70 X10 hx (hb hby at_67) (by decide) rfl (fun tk => ?_) (fun tk => absurd tk (by decide))
    refine Own.iconst 75 X10 hx ((0 : Int32)) (hb hby at_74) rfl rfl ?_
    refine Own.icmp_ne 82 78 X10 hx (hb hby at_75) (by decide) rfl (fun tk => absurd tk (by decide)) (fun tk => ?_)
    refine Own.iconst 79 X10 hx ((1 : Int32)) (hb hby at_78) rfl rfl ?_
    refine Own.goto 83 X10 hx (hb hby at_79) (by decide) ?_
    refine Own.istoreV 85 #[.val (.int x0), .val (.int x1), .val (.int x2), .val (.int x3), .val (.int x4), .val (.ref a), .val (.int (1 : Int32)), .val (.int (1 : Int32)), .unset] X10 hx (hb hby at_83) rfl rfl ?_
    refine Own.iloadN 86 X10 hx (hb hby at_85) rfl rfl ?_
    refine Own.iconst 87 X10 hx ((2 : Int32)) (hb hby at_86) rfl rfl ?_
    refine Own.iushr 88 X10 hx (hb hby at_87) rfl rfl ?_
    refine Own.iconst 89 X10 hx ((3 : Int32)) (hb hby at_88) rfl rfl ?_
    refine Own.iand 90 X10 hx (hb hby at_89) rfl rfl ?_
    refine Own.iload 92 X10 hx (hb hby at_90) rfl rfl ?_
    refine Own.callSt 95 0 [(.int (((x1.toUInt32 >>> ((2 : Int32) &&& 31).toUInt32).toInt32) &&& (3 : Int32))), (.int (1 : Int32))] [] X10 hx hZ hown (m6 l Z a0 w _ _ _) (w 49 rfl) (w 35 rfl) (w 11 rfl) (w 36 rfl) (by decide) hh10 (by decide) (by decide) (by decide) (by decide) (by rw [hml]; rfl) (lenOf pd_0 rfl) rfl (Nat.le_of_eq rfl) (hb hby at_92) rfl ?_
    rintro vv T11 L11 X11 ⟨rfl, hh11, rfl⟩
    have N11 := Fr.app N10 (Fr.nil _)
    have hk0 := own_mn ((x1.toUInt32 >>> ((2 : Int32) &&& 31).toUInt32).toInt32) (1 : Int32) (by decide)
    generalize (if (1 : Int32) < ((x1.toUInt32 >>> ((2 : Int32) &&& 31).toUInt32).toInt32 &&& 3) then (1 : Int32) else ((x1.toUInt32 >>> ((2 : Int32) &&& 31).toUInt32).toInt32 &&& 3)) = kq at *
    rcases own_le1 hk0 with rfl | rfl
    ·
      refine Own.istoreV 97 #[.val (.int x0), .val (.int x1), .val (.int x2), .val (.int x3), .val (.int x4), .val (.ref a), .val (.int (1 : Int32)), .val (.int (1 : Int32)), .val (.int (0 : Int32))] X11 hx (hb hby at_95) rfl rfl ?_
      refine Own.iload 99 X11 hx (hb hby at_97) rfl rfl ?_
      refine Own.iconst 100 X11 hx ((1 : Int32)) (hb hby at_99) rfl rfl ?_
      refine Own.icmp_lt 109 103 X11 hx (hb hby at_100) (by decide) rfl (fun tk => ?_) (fun tk => absurd tk (by decide))
      refine Own.iload 111 X11 hx (hb hby at_109) rfl rfl ?_
      refine Own.iconst 112 X11 hx ((2 : Int32)) (hb hby at_111) rfl rfl ?_
      refine Own.icmp_lt 121 115 X11 hx (hb hby at_112) (by decide) rfl (fun tk => ?_) (fun tk => absurd tk (by decide))
      refine Own.iload 123 X11 hx (hb hby at_121) rfl rfl ?_
      refine Own.iconst 124 X11 hx ((3 : Int32)) (hb hby at_123) rfl rfl ?_
      refine Own.icmp_lt 133 127 X11 hx (hb hby at_124) (by decide) rfl (fun tk => ?_) (fun tk => absurd tk (by decide))
      refine Own.iload 135 X11 hx (hb hby at_133) rfl rfl ?_
      refine Own.if_eq 163 138 X11 hx (hb hby at_135) (by decide) rfl (fun tk => absurd tk (by decide)) (fun tk => ?_)
      refine Own.aload 140 X11 hx (hb hby at_138) rfl rfl rfl ?_
      refine Own.callVt 143 0 a [] [] X11 hx hZ hown (m8 l Z a0 w a (1 : Int32) _ D.2.2.2.1) E9 (notFace_of_selects (args := #[]) (mvT hZ (w 47 rfl))) (w 44 rfl) (w 45 rfl) (w 47 rfl) (w 46 rfl) (w 2 rfl) (w 48 rfl) (by decide) hh11 (by decide) (by decide) (by decide) (by decide) (by rw [hml]; rfl) (lenOf pd_5 rfl) rfl (Nat.le_of_eq rfl) (hb hby at_140) rfl ?_
      rintro vv T12 L12 X12 ⟨rfl, hh12, rfl⟩
      have N12 := Fr.app N11 (Fr.nil _)
      show Own.Ends p.tables e below s _ _ _ (T12.setTop (mkF m 143 #[.val (.int x0), .val (.int x1), .val (.int x2), .val (.int x3), .val (.int x4), .val (.ref a), .val (.int (1 : Int32)), .val (.int (1 : Int32)), .val (.int (0 : Int32))] [(.int (0 : Int32))]))
      refine Own.iload 145 X12 hx (hb hby at_143) rfl rfl ?_
      refine Own.iload 147 X12 hx (hb hby at_145) rfl rfl ?_
      refine Own.isub 148 X12 hx (hb hby at_147) rfl (show ((1 : Int32) - (0 : Int32)) = (1 : Int32) by decide) ?_
      refine Own.if_ne 155 151 X12 hx (hb hby at_148) (by decide) rfl (fun tk => ?_) (fun tk => absurd tk (by decide))
      refine Own.iconst 156 X12 hx ((0 : Int32)) (hb hby at_155) rfl rfl ?_
      refine Own.icmp_ne 163 159 X12 hx (hb hby at_156) (by decide) rfl (fun tk => absurd tk (by decide)) (fun tk => ?_)
      refine Own.iconst 160 X12 hx ((1 : Int32)) (hb hby at_159) rfl rfl ?_
      refine Own.goto 164 X12 hx (hb hby at_160) (by decide) ?_
      refine Own.istoreV 166 #[.val (.int x0), .val (.int x1), .val (.int x2), .val (.int x3), .val (.int x4), .val (.ref a), .val (.int (1 : Int32)), .val (.int (1 : Int32)), .val (.int (0 : Int32))] X12 hx (hb hby at_164) rfl rfl ?_
      refine Own.iloadN 167 X12 hx (hb hby at_166) rfl rfl ?_
      refine Own.iconst 168 X12 hx ((4 : Int32)) (hb hby at_167) rfl rfl ?_
      refine Own.iushr 169 X12 hx (hb hby at_168) rfl rfl ?_
      refine Own.iconst 170 X12 hx ((1 : Int32)) (hb hby at_169) rfl rfl ?_
      refine Own.iand 171 X12 hx (hb hby at_170) rfl rfl ?_
      refine Own.if_eq 199 174 X12 hx (hb hby at_171) (by decide) rfl (fun cl => ?_) (fun cl => ?_)
      ·
        refine Own.iload 201 X12 hx (hb hby at_199) rfl rfl ?_
        refine Own.retBool X12 hx hlk hret (hb hby at_201) (by decide) (by decide) ?_
        exact ⟨rfl, N12⟩
      ·
        refine Own.aload 176 X12 hx (hb hby at_174) rfl rfl rfl ?_
        refine Own.callVt 179 0 a [] [] X12 hx hZ hown (m11 l Z a0 w a kb nb cp _ n0 _ D) E9 (notFace_of_selects (args := #[]) (mvT hZ (w 62 rfl))) (w 59 rfl) (w 60 rfl) (w 62 rfl) (w 61 rfl) (w 2 rfl) (w 63 rfl) (by decide) hh12 (by decide) (by decide) (by decide) (by decide) (by rw [hml]; rfl) (lenOf pd_3 rfl) rfl (Nat.le_of_eq rfl) (hb hby at_176) rfl ?_
        rintro vv T13 L13 X13 ⟨rfl, N13q, D⟩
        have N13 := Fr.app N12 N13q
        have E13 := D.1
        refine Own.iload 181 X13 hx (hb hby at_179) rfl rfl ?_
        refine Own.if_eq 196 184 X13 hx (hb hby at_181) (by decide) rfl (fun tk => absurd tk (by decide)) (fun tk => ?_)
        refine Own.aload 186 X13 hx (hb hby at_184) rfl rfl rfl ?_
        refine Own.callVt 189 0 a [] [] X13 hx hZ hown (m8 l Z a0 w a (0 : Int32) _ D.2.2.2.1) E13 (notFace_of_selects (args := #[]) (mvT hZ (w 47 rfl))) (w 44 rfl) (w 45 rfl) (w 47 rfl) (w 46 rfl) (w 2 rfl) (w 48 rfl) (by decide) rfl (by decide) (by decide) (by decide) (by decide) (by rw [hml]; rfl) (lenOf pd_5 rfl) rfl (Nat.le_of_eq rfl) (hb hby at_186) rfl ?_
        rintro vv T14 L14 X14 ⟨rfl, hh14, rfl⟩
        have N14 := Fr.app N13 (Fr.nil _)
        show Own.Ends p.tables e below s _ _ _ (T14.setTop (mkF m 189 #[.val (.int x0), .val (.int x1), .val (.int x2), .val (.int x3), .val (.int x4), .val (.ref a), .val (.int (1 : Int32)), .val (.int (1 : Int32)), .val (.int (0 : Int32))] [(.int (1 : Int32))]))
        refine Own.if_eq 196 192 X14 hx (hb hby at_189) (by decide) rfl (fun tk => absurd tk (by decide)) (fun tk => ?_)
        refine Own.iconst 193 X14 hx ((1 : Int32)) (hb hby at_192) rfl rfl ?_
        refine Own.goto 197 X14 hx (hb hby at_193) (by decide) ?_
        refine Own.istoreV 199 #[.val (.int x0), .val (.int x1), .val (.int x2), .val (.int x3), .val (.int x4), .val (.ref a), .val (.int (1 : Int32)), .val (.int (1 : Int32)), .val (.int (0 : Int32))] X14 hx (hb hby at_197) rfl rfl ?_
        refine Own.iload 201 X14 hx (hb hby at_199) rfl rfl ?_
        refine Own.retBool X14 hx hlk hret (hb hby at_201) (by decide) (by decide) ?_
        exact ⟨rfl, N14⟩
    ·
      refine Own.istoreV 97 #[.val (.int x0), .val (.int x1), .val (.int x2), .val (.int x3), .val (.int x4), .val (.ref a), .val (.int (1 : Int32)), .val (.int (1 : Int32)), .val (.int (1 : Int32))] X11 hx (hb hby at_95) rfl rfl ?_
      refine Own.iload 99 X11 hx (hb hby at_97) rfl rfl ?_
      refine Own.iconst 100 X11 hx ((1 : Int32)) (hb hby at_99) rfl rfl ?_
      refine Own.icmp_lt 109 103 X11 hx (hb hby at_100) (by decide) rfl (fun tk => absurd tk (by decide)) (fun tk => ?_)
      refine Own.aload 105 X11 hx (hb hby at_103) rfl rfl rfl ?_
      refine Own.callVt 108 0 a [] [] X11 hx hZ hown (m9_1 l Z a0 w a kb nb cp n0 _ D (by omega)) E9 (notFace_of_selects (args := #[]) (mvT hZ (w 53 rfl))) (w 50 rfl) (w 51 rfl) (w 53 rfl) (w 52 rfl) (w 2 rfl) (w 54 rfl) (by decide) hh11 (by decide) (by decide) (by decide) (by decide) (by rw [hml]; rfl) (lenOf pd_7 rfl) rfl (Nat.le_of_eq rfl) (hb hby at_105) rfl ?_
      rintro vv T15 L15 X15 ⟨rr, rfl, N15q, D⟩
      have N15 := Fr.app N11 N15q
      have E15 := D.1
      refine Own.pop 109 X15 hx (hb hby at_108) rfl rfl ?_
      refine Own.iload 111 X15 hx (hb hby at_109) rfl rfl ?_
      refine Own.iconst 112 X15 hx ((2 : Int32)) (hb hby at_111) rfl rfl ?_
      refine Own.icmp_lt 121 115 X15 hx (hb hby at_112) (by decide) rfl (fun tk => ?_) (fun tk => absurd tk (by decide))
      refine Own.iload 123 X15 hx (hb hby at_121) rfl rfl ?_
      refine Own.iconst 124 X15 hx ((3 : Int32)) (hb hby at_123) rfl rfl ?_
      refine Own.icmp_lt 133 127 X15 hx (hb hby at_124) (by decide) rfl (fun tk => ?_) (fun tk => absurd tk (by decide))
      refine Own.iload 135 X15 hx (hb hby at_133) rfl rfl ?_
      refine Own.if_eq 163 138 X15 hx (hb hby at_135) (by decide) rfl (fun tk => absurd tk (by decide)) (fun tk => ?_)
      refine Own.aload 140 X15 hx (hb hby at_138) rfl rfl rfl ?_
      refine Own.callVt 143 0 a [] [] X15 hx hZ hown (m8 l Z a0 w a (0 : Int32) _ D.2.2.2.1) E15 (notFace_of_selects (args := #[]) (mvT hZ (w 47 rfl))) (w 44 rfl) (w 45 rfl) (w 47 rfl) (w 46 rfl) (w 2 rfl) (w 48 rfl) (by decide) rfl (by decide) (by decide) (by decide) (by decide) (by rw [hml]; rfl) (lenOf pd_5 rfl) rfl (Nat.le_of_eq rfl) (hb hby at_140) rfl ?_
      rintro vv T16 L16 X16 ⟨rfl, hh16, rfl⟩
      have N16 := Fr.app N15 (Fr.nil _)
      show Own.Ends p.tables e below s _ _ _ (T16.setTop (mkF m 143 #[.val (.int x0), .val (.int x1), .val (.int x2), .val (.int x3), .val (.int x4), .val (.ref a), .val (.int (1 : Int32)), .val (.int (1 : Int32)), .val (.int (1 : Int32))] [(.int (1 : Int32))]))
      refine Own.iload 145 X16 hx (hb hby at_143) rfl rfl ?_
      refine Own.iload 147 X16 hx (hb hby at_145) rfl rfl ?_
      refine Own.isub 148 X16 hx (hb hby at_147) rfl (show ((1 : Int32) - (1 : Int32)) = (0 : Int32) by decide) ?_
      refine Own.if_ne 155 151 X16 hx (hb hby at_148) (by decide) rfl (fun tk => absurd tk (by decide)) (fun tk => ?_)
      refine Own.iconst 152 X16 hx ((1 : Int32)) (hb hby at_151) rfl rfl ?_
      refine Own.goto 156 X16 hx (hb hby at_152) (by decide) ?_
      refine Own.icmp_ne 163 159 X16 hx (hb hby at_156) (by decide) rfl (fun tk => absurd tk (by decide)) (fun tk => ?_)
      refine Own.iconst 160 X16 hx ((1 : Int32)) (hb hby at_159) rfl rfl ?_
      refine Own.goto 164 X16 hx (hb hby at_160) (by decide) ?_
      refine Own.istoreV 166 #[.val (.int x0), .val (.int x1), .val (.int x2), .val (.int x3), .val (.int x4), .val (.ref a), .val (.int (1 : Int32)), .val (.int (1 : Int32)), .val (.int (1 : Int32))] X16 hx (hb hby at_164) rfl rfl ?_
      refine Own.iloadN 167 X16 hx (hb hby at_166) rfl rfl ?_
      refine Own.iconst 168 X16 hx ((4 : Int32)) (hb hby at_167) rfl rfl ?_
      refine Own.iushr 169 X16 hx (hb hby at_168) rfl rfl ?_
      refine Own.iconst 170 X16 hx ((1 : Int32)) (hb hby at_169) rfl rfl ?_
      refine Own.iand 171 X16 hx (hb hby at_170) rfl rfl ?_
      refine Own.if_eq 199 174 X16 hx (hb hby at_171) (by decide) rfl (fun cl => ?_) (fun cl => ?_)
      ·
        refine Own.iload 201 X16 hx (hb hby at_199) rfl rfl ?_
        refine Own.retBool X16 hx hlk hret (hb hby at_201) (by decide) (by decide) ?_
        exact ⟨rfl, N16⟩
      ·
        refine Own.aload 176 X16 hx (hb hby at_174) rfl rfl rfl ?_
        refine Own.callVt 179 0 a [] [] X16 hx hZ hown (m11 l Z a0 w a kb nb cp _ n0 _ D) E15 (notFace_of_selects (args := #[]) (mvT hZ (w 62 rfl))) (w 59 rfl) (w 60 rfl) (w 62 rfl) (w 61 rfl) (w 2 rfl) (w 63 rfl) (by decide) hh16 (by decide) (by decide) (by decide) (by decide) (by rw [hml]; rfl) (lenOf pd_3 rfl) rfl (Nat.le_of_eq rfl) (hb hby at_176) rfl ?_
        rintro vv T17 L17 X17 ⟨rfl, N17q, D⟩
        have N17 := Fr.app N16 N17q
        have E17 := D.1
        refine Own.iload 181 X17 hx (hb hby at_179) rfl rfl ?_
        refine Own.if_eq 196 184 X17 hx (hb hby at_181) (by decide) rfl (fun tk => absurd tk (by decide)) (fun tk => ?_)
        refine Own.aload 186 X17 hx (hb hby at_184) rfl rfl rfl ?_
        refine Own.callVt 189 0 a [] [] X17 hx hZ hown (m8 l Z a0 w a (0 : Int32) _ D.2.2.2.1) E17 (notFace_of_selects (args := #[]) (mvT hZ (w 47 rfl))) (w 44 rfl) (w 45 rfl) (w 47 rfl) (w 46 rfl) (w 2 rfl) (w 48 rfl) (by decide) rfl (by decide) (by decide) (by decide) (by decide) (by rw [hml]; rfl) (lenOf pd_5 rfl) rfl (Nat.le_of_eq rfl) (hb hby at_186) rfl ?_
        rintro vv T18 L18 X18 ⟨rfl, hh18, rfl⟩
        have N18 := Fr.app N17 (Fr.nil _)
        show Own.Ends p.tables e below s _ _ _ (T18.setTop (mkF m 189 #[.val (.int x0), .val (.int x1), .val (.int x2), .val (.int x3), .val (.int x4), .val (.ref a), .val (.int (1 : Int32)), .val (.int (1 : Int32)), .val (.int (1 : Int32))] [(.int (1 : Int32))]))
        refine Own.if_eq 196 192 X18 hx (hb hby at_189) (by decide) rfl (fun tk => absurd tk (by decide)) (fun tk => ?_)
        refine Own.iconst 193 X18 hx ((1 : Int32)) (hb hby at_192) rfl rfl ?_
        refine Own.goto 197 X18 hx (hb hby at_193) (by decide) ?_
        refine Own.istoreV 199 #[.val (.int x0), .val (.int x1), .val (.int x2), .val (.int x3), .val (.int x4), .val (.ref a), .val (.int (1 : Int32)), .val (.int (1 : Int32)), .val (.int (1 : Int32))] X18 hx (hb hby at_197) rfl rfl ?_
        refine Own.iload 201 X18 hx (hb hby at_199) rfl rfl ?_
        refine Own.retBool X18 hx hlk hret (hb hby at_201) (by decide) (by decide) ?_
        exact ⟨rfl, N18⟩
  ·
    refine Own.icmp_lt 32 25 X3 hx (hb hby at_22) (by decide) rfl (fun tk => absurd tk (by decide)) (fun tk => ?_)
    refine Own.aload 27 X3 hx (hb hby at_25) rfl rfl rfl ?_
    refine Own.iloadN 28 X3 hx (hb hby at_27) rfl rfl ?_
    refine Own.iloadN 29 X3 hx (hb hby at_28) rfl rfl ?_
    refine Own.callVt 32 0 a [(.int x2), (.int x3)] [] X3 hx hZ hown (m4_0 l Z a0 w a x2 x3 kb nb cp n0 _ D hc) E3 (notFace_of_selects (args := #[]) (mvT hZ (w 22 rfl))) (w 19 rfl) (w 20 rfl) (w 22 rfl) (w 21 rfl) (w 2 rfl) (w 23 rfl) (by decide) rfl (by decide) (by decide) (by decide) (by decide) (by rw [hml]; rfl) (lenOf pd_6 rfl) rfl (Nat.le_of_eq rfl) (hb hby at_29) rfl ?_
    rintro vv T19 L19 X19 ⟨rfl, N19q, kb, nb, cp, D, hc⟩
    have N19 := Fr.app N3 N19q
    have E19 := D.1
    refine Own.iload 34 X19 hx (hb hby at_32) rfl rfl ?_
    refine Own.iconst 35 X19 hx ((2 : Int32)) (hb hby at_34) rfl rfl ?_
    refine Own.icmp_lt 46 38 X19 hx (hb hby at_35) (by decide) rfl (fun tk => absurd tk (by decide)) (fun tk => ?_)
    refine Own.aload 40 X19 hx (hb hby at_38) rfl rfl rfl ?_
    refine Own.iloadN 41 X19 hx (hb hby at_40) rfl rfl ?_
    refine Own.iload 43 X19 hx (hb hby at_41) rfl rfl ?_
    refine Own.callVt 46 0 a [(.int x3), (.int x4)] [] X19 hx hZ hown (m4_1 l Z a0 w a x3 x4 kb nb cp n0 _ D hc) E19 (notFace_of_selects (args := #[]) (mvT hZ (w 22 rfl))) (w 19 rfl) (w 20 rfl) (w 22 rfl) (w 21 rfl) (w 2 rfl) (w 23 rfl) (by decide) rfl (by decide) (by decide) (by decide) (by decide) (by rw [hml]; rfl) (lenOf pd_6 rfl) rfl (Nat.le_of_eq rfl) (hb hby at_43) rfl ?_
    rintro vv T20 L20 X20 ⟨rfl, N20q, kb, nb, cp, D, hc⟩
    have N20 := Fr.app N19 N20q
    have E20 := D.1
    refine Own.iload 48 X20 hx (hb hby at_46) rfl rfl ?_
    refine Own.iconst 49 X20 hx ((3 : Int32)) (hb hby at_48) rfl rfl ?_
    refine Own.icmp_lt 60 52 X20 hx (hb hby at_49) (by decide) rfl (fun tk => ?_) (fun tk => absurd tk (by decide))
    refine Own.aload 62 X20 hx (hb hby at_60) rfl rfl rfl ?_
    refine Own.callVt 65 0 a [] [] X20 hx hZ hown (m8 l Z a0 w a (2 : Int32) _ D.2.2.2.1) E20 (notFace_of_selects (args := #[]) (mvT hZ (w 47 rfl))) (w 44 rfl) (w 45 rfl) (w 47 rfl) (w 46 rfl) (w 2 rfl) (w 48 rfl) (by decide) rfl (by decide) (by decide) (by decide) (by decide) (by rw [hml]; rfl) (lenOf pd_5 rfl) rfl (Nat.le_of_eq rfl) (hb hby at_62) rfl ?_
    rintro vv T21 L21 X21 ⟨rfl, hh21, rfl⟩
    have N21 := Fr.app N20 (Fr.nil _)
    show Own.Ends p.tables e below s _ _ _ (T21.setTop (mkF m 65 #[.val (.int x0), .val (.int x1), .val (.int x2), .val (.int x3), .val (.int x4), .val (.ref a), .val (.int (2 : Int32)), .unset, .unset] [(.int (0 : Int32))]))
    refine Own.iload 67 X21 hx (hb hby at_65) rfl rfl ?_
    refine Own.if_ne 74 70 X21 hx (hb hby at_67) (by decide) rfl (fun tk => ?_) (fun tk => absurd tk (by decide))
    refine Own.iconst 75 X21 hx ((0 : Int32)) (hb hby at_74) rfl rfl ?_
    refine Own.icmp_ne 82 78 X21 hx (hb hby at_75) (by decide) rfl (fun tk => absurd tk (by decide)) (fun tk => ?_)
    refine Own.iconst 79 X21 hx ((1 : Int32)) (hb hby at_78) rfl rfl ?_
    refine Own.goto 83 X21 hx (hb hby at_79) (by decide) ?_
    refine Own.istoreV 85 #[.val (.int x0), .val (.int x1), .val (.int x2), .val (.int x3), .val (.int x4), .val (.ref a), .val (.int (2 : Int32)), .val (.int (1 : Int32)), .unset] X21 hx (hb hby at_83) rfl rfl ?_
    refine Own.iloadN 86 X21 hx (hb hby at_85) rfl rfl ?_
    refine Own.iconst 87 X21 hx ((2 : Int32)) (hb hby at_86) rfl rfl ?_
    refine Own.iushr 88 X21 hx (hb hby at_87) rfl rfl ?_
    refine Own.iconst 89 X21 hx ((3 : Int32)) (hb hby at_88) rfl rfl ?_
    refine Own.iand 90 X21 hx (hb hby at_89) rfl rfl ?_
    refine Own.iload 92 X21 hx (hb hby at_90) rfl rfl ?_
    refine Own.callSt 95 0 [(.int (((x1.toUInt32 >>> ((2 : Int32) &&& 31).toUInt32).toInt32) &&& (3 : Int32))), (.int (2 : Int32))] [] X21 hx hZ hown (m6 l Z a0 w _ _ _) (w 49 rfl) (w 35 rfl) (w 11 rfl) (w 36 rfl) (by decide) hh21 (by decide) (by decide) (by decide) (by decide) (by rw [hml]; rfl) (lenOf pd_0 rfl) rfl (Nat.le_of_eq rfl) (hb hby at_92) rfl ?_
    rintro vv T22 L22 X22 ⟨rfl, hh22, rfl⟩
    have N22 := Fr.app N21 (Fr.nil _)
    have hk0 := own_mn ((x1.toUInt32 >>> ((2 : Int32) &&& 31).toUInt32).toInt32) (2 : Int32) (by decide)
    generalize (if (2 : Int32) < ((x1.toUInt32 >>> ((2 : Int32) &&& 31).toUInt32).toInt32 &&& 3) then (2 : Int32) else ((x1.toUInt32 >>> ((2 : Int32) &&& 31).toUInt32).toInt32 &&& 3)) = kq at *
    rcases own_le2 hk0 with rfl | rfl | rfl
    ·
      refine Own.istoreV 97 #[.val (.int x0), .val (.int x1), .val (.int x2), .val (.int x3), .val (.int x4), .val (.ref a), .val (.int (2 : Int32)), .val (.int (1 : Int32)), .val (.int (0 : Int32))] X22 hx (hb hby at_95) rfl rfl ?_
      refine Own.iload 99 X22 hx (hb hby at_97) rfl rfl ?_
      refine Own.iconst 100 X22 hx ((1 : Int32)) (hb hby at_99) rfl rfl ?_
      refine Own.icmp_lt 109 103 X22 hx (hb hby at_100) (by decide) rfl (fun tk => ?_) (fun tk => absurd tk (by decide))
      refine Own.iload 111 X22 hx (hb hby at_109) rfl rfl ?_
      refine Own.iconst 112 X22 hx ((2 : Int32)) (hb hby at_111) rfl rfl ?_
      refine Own.icmp_lt 121 115 X22 hx (hb hby at_112) (by decide) rfl (fun tk => ?_) (fun tk => absurd tk (by decide))
      refine Own.iload 123 X22 hx (hb hby at_121) rfl rfl ?_
      refine Own.iconst 124 X22 hx ((3 : Int32)) (hb hby at_123) rfl rfl ?_
      refine Own.icmp_lt 133 127 X22 hx (hb hby at_124) (by decide) rfl (fun tk => ?_) (fun tk => absurd tk (by decide))
      refine Own.iload 135 X22 hx (hb hby at_133) rfl rfl ?_
      refine Own.if_eq 163 138 X22 hx (hb hby at_135) (by decide) rfl (fun tk => absurd tk (by decide)) (fun tk => ?_)
      refine Own.aload 140 X22 hx (hb hby at_138) rfl rfl rfl ?_
      refine Own.callVt 143 0 a [] [] X22 hx hZ hown (m8 l Z a0 w a (2 : Int32) _ D.2.2.2.1) E20 (notFace_of_selects (args := #[]) (mvT hZ (w 47 rfl))) (w 44 rfl) (w 45 rfl) (w 47 rfl) (w 46 rfl) (w 2 rfl) (w 48 rfl) (by decide) hh22 (by decide) (by decide) (by decide) (by decide) (by rw [hml]; rfl) (lenOf pd_5 rfl) rfl (Nat.le_of_eq rfl) (hb hby at_140) rfl ?_
      rintro vv T23 L23 X23 ⟨rfl, hh23, rfl⟩
      have N23 := Fr.app N22 (Fr.nil _)
      show Own.Ends p.tables e below s _ _ _ (T23.setTop (mkF m 143 #[.val (.int x0), .val (.int x1), .val (.int x2), .val (.int x3), .val (.int x4), .val (.ref a), .val (.int (2 : Int32)), .val (.int (1 : Int32)), .val (.int (0 : Int32))] [(.int (0 : Int32))]))
      refine Own.iload 145 X23 hx (hb hby at_143) rfl rfl ?_
      refine Own.iload 147 X23 hx (hb hby at_145) rfl rfl ?_
      refine Own.isub 148 X23 hx (hb hby at_147) rfl (show ((2 : Int32) - (0 : Int32)) = (2 : Int32) by decide) ?_
      refine Own.if_ne 155 151 X23 hx (hb hby at_148) (by decide) rfl (fun tk => ?_) (fun tk => absurd tk (by decide))
      refine Own.iconst 156 X23 hx ((0 : Int32)) (hb hby at_155) rfl rfl ?_
      refine Own.icmp_ne 163 159 X23 hx (hb hby at_156) (by decide) rfl (fun tk => absurd tk (by decide)) (fun tk => ?_)
      refine Own.iconst 160 X23 hx ((1 : Int32)) (hb hby at_159) rfl rfl ?_
      refine Own.goto 164 X23 hx (hb hby at_160) (by decide) ?_
      refine Own.istoreV 166 #[.val (.int x0), .val (.int x1), .val (.int x2), .val (.int x3), .val (.int x4), .val (.ref a), .val (.int (2 : Int32)), .val (.int (1 : Int32)), .val (.int (0 : Int32))] X23 hx (hb hby at_164) rfl rfl ?_
      refine Own.iloadN 167 X23 hx (hb hby at_166) rfl rfl ?_
      refine Own.iconst 168 X23 hx ((4 : Int32)) (hb hby at_167) rfl rfl ?_
      refine Own.iushr 169 X23 hx (hb hby at_168) rfl rfl ?_
      refine Own.iconst 170 X23 hx ((1 : Int32)) (hb hby at_169) rfl rfl ?_
      refine Own.iand 171 X23 hx (hb hby at_170) rfl rfl ?_
      refine Own.if_eq 199 174 X23 hx (hb hby at_171) (by decide) rfl (fun cl => ?_) (fun cl => ?_)
      ·
        refine Own.iload 201 X23 hx (hb hby at_199) rfl rfl ?_
        refine Own.retBool X23 hx hlk hret (hb hby at_201) (by decide) (by decide) ?_
        exact ⟨rfl, N23⟩
      ·
        refine Own.aload 176 X23 hx (hb hby at_174) rfl rfl rfl ?_
        refine Own.callVt 179 0 a [] [] X23 hx hZ hown (m11 l Z a0 w a kb nb cp _ n0 _ D) E20 (notFace_of_selects (args := #[]) (mvT hZ (w 62 rfl))) (w 59 rfl) (w 60 rfl) (w 62 rfl) (w 61 rfl) (w 2 rfl) (w 63 rfl) (by decide) hh23 (by decide) (by decide) (by decide) (by decide) (by rw [hml]; rfl) (lenOf pd_3 rfl) rfl (Nat.le_of_eq rfl) (hb hby at_176) rfl ?_
        rintro vv T24 L24 X24 ⟨rfl, N24q, D⟩
        have N24 := Fr.app N23 N24q
        have E24 := D.1
        refine Own.iload 181 X24 hx (hb hby at_179) rfl rfl ?_
        refine Own.if_eq 196 184 X24 hx (hb hby at_181) (by decide) rfl (fun tk => absurd tk (by decide)) (fun tk => ?_)
        refine Own.aload 186 X24 hx (hb hby at_184) rfl rfl rfl ?_
        refine Own.callVt 189 0 a [] [] X24 hx hZ hown (m8 l Z a0 w a (0 : Int32) _ D.2.2.2.1) E24 (notFace_of_selects (args := #[]) (mvT hZ (w 47 rfl))) (w 44 rfl) (w 45 rfl) (w 47 rfl) (w 46 rfl) (w 2 rfl) (w 48 rfl) (by decide) rfl (by decide) (by decide) (by decide) (by decide) (by rw [hml]; rfl) (lenOf pd_5 rfl) rfl (Nat.le_of_eq rfl) (hb hby at_186) rfl ?_
        rintro vv T25 L25 X25 ⟨rfl, hh25, rfl⟩
        have N25 := Fr.app N24 (Fr.nil _)
        show Own.Ends p.tables e below s _ _ _ (T25.setTop (mkF m 189 #[.val (.int x0), .val (.int x1), .val (.int x2), .val (.int x3), .val (.int x4), .val (.ref a), .val (.int (2 : Int32)), .val (.int (1 : Int32)), .val (.int (0 : Int32))] [(.int (1 : Int32))]))
        refine Own.if_eq 196 192 X25 hx (hb hby at_189) (by decide) rfl (fun tk => absurd tk (by decide)) (fun tk => ?_)
        refine Own.iconst 193 X25 hx ((1 : Int32)) (hb hby at_192) rfl rfl ?_
        refine Own.goto 197 X25 hx (hb hby at_193) (by decide) ?_
        refine Own.istoreV 199 #[.val (.int x0), .val (.int x1), .val (.int x2), .val (.int x3), .val (.int x4), .val (.ref a), .val (.int (2 : Int32)), .val (.int (1 : Int32)), .val (.int (0 : Int32))] X25 hx (hb hby at_197) rfl rfl ?_
        refine Own.iload 201 X25 hx (hb hby at_199) rfl rfl ?_
        refine Own.retBool X25 hx hlk hret (hb hby at_201) (by decide) (by decide) ?_
        exact ⟨rfl, N25⟩
    ·
      refine Own.istoreV 97 #[.val (.int x0), .val (.int x1), .val (.int x2), .val (.int x3), .val (.int x4), .val (.ref a), .val (.int (2 : Int32)), .val (.int (1 : Int32)), .val (.int (1 : Int32))] X22 hx (hb hby at_95) rfl rfl ?_
      refine Own.iload 99 X22 hx (hb hby at_97) rfl rfl ?_
      refine Own.iconst 100 X22 hx ((1 : Int32)) (hb hby at_99) rfl rfl ?_
      refine Own.icmp_lt 109 103 X22 hx (hb hby at_100) (by decide) rfl (fun tk => absurd tk (by decide)) (fun tk => ?_)
      refine Own.aload 105 X22 hx (hb hby at_103) rfl rfl rfl ?_
      refine Own.callVt 108 0 a [] [] X22 hx hZ hown (m9_2 l Z a0 w a kb nb cp n0 _ D (by omega)) E20 (notFace_of_selects (args := #[]) (mvT hZ (w 53 rfl))) (w 50 rfl) (w 51 rfl) (w 53 rfl) (w 52 rfl) (w 2 rfl) (w 54 rfl) (by decide) hh22 (by decide) (by decide) (by decide) (by decide) (by rw [hml]; rfl) (lenOf pd_7 rfl) rfl (Nat.le_of_eq rfl) (hb hby at_105) rfl ?_
      rintro vv T26 L26 X26 ⟨rr, rfl, N26q, D⟩
      have N26 := Fr.app N22 N26q
      have E26 := D.1
      refine Own.pop 109 X26 hx (hb hby at_108) rfl rfl ?_
      refine Own.iload 111 X26 hx (hb hby at_109) rfl rfl ?_
      refine Own.iconst 112 X26 hx ((2 : Int32)) (hb hby at_111) rfl rfl ?_
      refine Own.icmp_lt 121 115 X26 hx (hb hby at_112) (by decide) rfl (fun tk => ?_) (fun tk => absurd tk (by decide))
      refine Own.iload 123 X26 hx (hb hby at_121) rfl rfl ?_
      refine Own.iconst 124 X26 hx ((3 : Int32)) (hb hby at_123) rfl rfl ?_
      refine Own.icmp_lt 133 127 X26 hx (hb hby at_124) (by decide) rfl (fun tk => ?_) (fun tk => absurd tk (by decide))
      refine Own.iload 135 X26 hx (hb hby at_133) rfl rfl ?_
      refine Own.if_eq 163 138 X26 hx (hb hby at_135) (by decide) rfl (fun tk => absurd tk (by decide)) (fun tk => ?_)
      refine Own.aload 140 X26 hx (hb hby at_138) rfl rfl rfl ?_
      refine Own.callVt 143 0 a [] [] X26 hx hZ hown (m8 l Z a0 w a (1 : Int32) _ D.2.2.2.1) E26 (notFace_of_selects (args := #[]) (mvT hZ (w 47 rfl))) (w 44 rfl) (w 45 rfl) (w 47 rfl) (w 46 rfl) (w 2 rfl) (w 48 rfl) (by decide) rfl (by decide) (by decide) (by decide) (by decide) (by rw [hml]; rfl) (lenOf pd_5 rfl) rfl (Nat.le_of_eq rfl) (hb hby at_140) rfl ?_
      rintro vv T27 L27 X27 ⟨rfl, hh27, rfl⟩
      have N27 := Fr.app N26 (Fr.nil _)
      show Own.Ends p.tables e below s _ _ _ (T27.setTop (mkF m 143 #[.val (.int x0), .val (.int x1), .val (.int x2), .val (.int x3), .val (.int x4), .val (.ref a), .val (.int (2 : Int32)), .val (.int (1 : Int32)), .val (.int (1 : Int32))] [(.int (0 : Int32))]))
      refine Own.iload 145 X27 hx (hb hby at_143) rfl rfl ?_
      refine Own.iload 147 X27 hx (hb hby at_145) rfl rfl ?_
      refine Own.isub 148 X27 hx (hb hby at_147) rfl (show ((2 : Int32) - (1 : Int32)) = (1 : Int32) by decide) ?_
      refine Own.if_ne 155 151 X27 hx (hb hby at_148) (by decide) rfl (fun tk => ?_) (fun tk => absurd tk (by decide))
      refine Own.iconst 156 X27 hx ((0 : Int32)) (hb hby at_155) rfl rfl ?_
      refine Own.icmp_ne 163 159 X27 hx (hb hby at_156) (by decide) rfl (fun tk => absurd tk (by decide)) (fun tk => ?_)
      refine Own.iconst 160 X27 hx ((1 : Int32)) (hb hby at_159) rfl rfl ?_
      refine Own.goto 164 X27 hx (hb hby at_160) (by decide) ?_
      refine Own.istoreV 166 #[.val (.int x0), .val (.int x1), .val (.int x2), .val (.int x3), .val (.int x4), .val (.ref a), .val (.int (2 : Int32)), .val (.int (1 : Int32)), .val (.int (1 : Int32))] X27 hx (hb hby at_164) rfl rfl ?_
      refine Own.iloadN 167 X27 hx (hb hby at_166) rfl rfl ?_
      refine Own.iconst 168 X27 hx ((4 : Int32)) (hb hby at_167) rfl rfl ?_
      refine Own.iushr 169 X27 hx (hb hby at_168) rfl rfl ?_
      refine Own.iconst 170 X27 hx ((1 : Int32)) (hb hby at_169) rfl rfl ?_
      refine Own.iand 171 X27 hx (hb hby at_170) rfl rfl ?_
      refine Own.if_eq 199 174 X27 hx (hb hby at_171) (by decide) rfl (fun cl => ?_) (fun cl => ?_)
      ·
        refine Own.iload 201 X27 hx (hb hby at_199) rfl rfl ?_
        refine Own.retBool X27 hx hlk hret (hb hby at_201) (by decide) (by decide) ?_
        exact ⟨rfl, N27⟩
      ·
        refine Own.aload 176 X27 hx (hb hby at_174) rfl rfl rfl ?_
        refine Own.callVt 179 0 a [] [] X27 hx hZ hown (m11 l Z a0 w a kb nb cp _ n0 _ D) E26 (notFace_of_selects (args := #[]) (mvT hZ (w 62 rfl))) (w 59 rfl) (w 60 rfl) (w 62 rfl) (w 61 rfl) (w 2 rfl) (w 63 rfl) (by decide) hh27 (by decide) (by decide) (by decide) (by decide) (by rw [hml]; rfl) (lenOf pd_3 rfl) rfl (Nat.le_of_eq rfl) (hb hby at_176) rfl ?_
        rintro vv T28 L28 X28 ⟨rfl, N28q, D⟩
        have N28 := Fr.app N27 N28q
        have E28 := D.1
        refine Own.iload 181 X28 hx (hb hby at_179) rfl rfl ?_
        refine Own.if_eq 196 184 X28 hx (hb hby at_181) (by decide) rfl (fun tk => absurd tk (by decide)) (fun tk => ?_)
        refine Own.aload 186 X28 hx (hb hby at_184) rfl rfl rfl ?_
        refine Own.callVt 189 0 a [] [] X28 hx hZ hown (m8 l Z a0 w a (0 : Int32) _ D.2.2.2.1) E28 (notFace_of_selects (args := #[]) (mvT hZ (w 47 rfl))) (w 44 rfl) (w 45 rfl) (w 47 rfl) (w 46 rfl) (w 2 rfl) (w 48 rfl) (by decide) rfl (by decide) (by decide) (by decide) (by decide) (by rw [hml]; rfl) (lenOf pd_5 rfl) rfl (Nat.le_of_eq rfl) (hb hby at_186) rfl ?_
        rintro vv T29 L29 X29 ⟨rfl, hh29, rfl⟩
        have N29 := Fr.app N28 (Fr.nil _)
        show Own.Ends p.tables e below s _ _ _ (T29.setTop (mkF m 189 #[.val (.int x0), .val (.int x1), .val (.int x2), .val (.int x3), .val (.int x4), .val (.ref a), .val (.int (2 : Int32)), .val (.int (1 : Int32)), .val (.int (1 : Int32))] [(.int (1 : Int32))]))
        refine Own.if_eq 196 192 X29 hx (hb hby at_189) (by decide) rfl (fun tk => absurd tk (by decide)) (fun tk => ?_)
        refine Own.iconst 193 X29 hx ((1 : Int32)) (hb hby at_192) rfl rfl ?_
        refine Own.goto 197 X29 hx (hb hby at_193) (by decide) ?_
        refine Own.istoreV 199 #[.val (.int x0), .val (.int x1), .val (.int x2), .val (.int x3), .val (.int x4), .val (.ref a), .val (.int (2 : Int32)), .val (.int (1 : Int32)), .val (.int (1 : Int32))] X29 hx (hb hby at_197) rfl rfl ?_
        refine Own.iload 201 X29 hx (hb hby at_199) rfl rfl ?_
        refine Own.retBool X29 hx hlk hret (hb hby at_201) (by decide) (by decide) ?_
        exact ⟨rfl, N29⟩
    ·
      refine Own.istoreV 97 #[.val (.int x0), .val (.int x1), .val (.int x2), .val (.int x3), .val (.int x4), .val (.ref a), .val (.int (2 : Int32)), .val (.int (1 : Int32)), .val (.int (2 : Int32))] X22 hx (hb hby at_95) rfl rfl ?_
      refine Own.iload 99 X22 hx (hb hby at_97) rfl rfl ?_
      refine Own.iconst 100 X22 hx ((1 : Int32)) (hb hby at_99) rfl rfl ?_
      refine Own.icmp_lt 109 103 X22 hx (hb hby at_100) (by decide) rfl (fun tk => absurd tk (by decide)) (fun tk => ?_)
      refine Own.aload 105 X22 hx (hb hby at_103) rfl rfl rfl ?_
      refine Own.callVt 108 0 a [] [] X22 hx hZ hown (m9_2 l Z a0 w a kb nb cp n0 _ D (by omega)) E20 (notFace_of_selects (args := #[]) (mvT hZ (w 53 rfl))) (w 50 rfl) (w 51 rfl) (w 53 rfl) (w 52 rfl) (w 2 rfl) (w 54 rfl) (by decide) hh22 (by decide) (by decide) (by decide) (by decide) (by rw [hml]; rfl) (lenOf pd_7 rfl) rfl (Nat.le_of_eq rfl) (hb hby at_105) rfl ?_
      rintro vv T30 L30 X30 ⟨rr, rfl, N30q, D⟩
      have N30 := Fr.app N22 N30q
      have E30 := D.1
      refine Own.pop 109 X30 hx (hb hby at_108) rfl rfl ?_
      refine Own.iload 111 X30 hx (hb hby at_109) rfl rfl ?_
      refine Own.iconst 112 X30 hx ((2 : Int32)) (hb hby at_111) rfl rfl ?_
      refine Own.icmp_lt 121 115 X30 hx (hb hby at_112) (by decide) rfl (fun tk => absurd tk (by decide)) (fun tk => ?_)
      refine Own.aload 117 X30 hx (hb hby at_115) rfl rfl rfl ?_
      refine Own.callVt 120 0 a [] [] X30 hx hZ hown (m9_1 l Z a0 w a kb nb cp n0 _ D (by omega)) E30 (notFace_of_selects (args := #[]) (mvT hZ (w 53 rfl))) (w 50 rfl) (w 51 rfl) (w 53 rfl) (w 52 rfl) (w 2 rfl) (w 54 rfl) (by decide) rfl (by decide) (by decide) (by decide) (by decide) (by rw [hml]; rfl) (lenOf pd_7 rfl) rfl (Nat.le_of_eq rfl) (hb hby at_117) rfl ?_
      rintro vv T31 L31 X31 ⟨rr, rfl, N31q, D⟩
      have N31 := Fr.app N30 N31q
      have E31 := D.1
      refine Own.pop 121 X31 hx (hb hby at_120) rfl rfl ?_
      refine Own.iload 123 X31 hx (hb hby at_121) rfl rfl ?_
      refine Own.iconst 124 X31 hx ((3 : Int32)) (hb hby at_123) rfl rfl ?_
      refine Own.icmp_lt 133 127 X31 hx (hb hby at_124) (by decide) rfl (fun tk => ?_) (fun tk => absurd tk (by decide))
      refine Own.iload 135 X31 hx (hb hby at_133) rfl rfl ?_
      refine Own.if_eq 163 138 X31 hx (hb hby at_135) (by decide) rfl (fun tk => absurd tk (by decide)) (fun tk => ?_)
      refine Own.aload 140 X31 hx (hb hby at_138) rfl rfl rfl ?_
      refine Own.callVt 143 0 a [] [] X31 hx hZ hown (m8 l Z a0 w a (0 : Int32) _ D.2.2.2.1) E31 (notFace_of_selects (args := #[]) (mvT hZ (w 47 rfl))) (w 44 rfl) (w 45 rfl) (w 47 rfl) (w 46 rfl) (w 2 rfl) (w 48 rfl) (by decide) rfl (by decide) (by decide) (by decide) (by decide) (by rw [hml]; rfl) (lenOf pd_5 rfl) rfl (Nat.le_of_eq rfl) (hb hby at_140) rfl ?_
      rintro vv T32 L32 X32 ⟨rfl, hh32, rfl⟩
      have N32 := Fr.app N31 (Fr.nil _)
      show Own.Ends p.tables e below s _ _ _ (T32.setTop (mkF m 143 #[.val (.int x0), .val (.int x1), .val (.int x2), .val (.int x3), .val (.int x4), .val (.ref a), .val (.int (2 : Int32)), .val (.int (1 : Int32)), .val (.int (2 : Int32))] [(.int (1 : Int32))]))
      refine Own.iload 145 X32 hx (hb hby at_143) rfl rfl ?_
      refine Own.iload 147 X32 hx (hb hby at_145) rfl rfl ?_
      refine Own.isub 148 X32 hx (hb hby at_147) rfl (show ((2 : Int32) - (2 : Int32)) = (0 : Int32) by decide) ?_
      refine Own.if_ne 155 151 X32 hx (hb hby at_148) (by decide) rfl (fun tk => absurd tk (by decide)) (fun tk => ?_)
      refine Own.iconst 152 X32 hx ((1 : Int32)) (hb hby at_151) rfl rfl ?_
      refine Own.goto 156 X32 hx (hb hby at_152) (by decide) ?_
      refine Own.icmp_ne 163 159 X32 hx (hb hby at_156) (by decide) rfl (fun tk => absurd tk (by decide)) (fun tk => ?_)
      refine Own.iconst 160 X32 hx ((1 : Int32)) (hb hby at_159) rfl rfl ?_
      refine Own.goto 164 X32 hx (hb hby at_160) (by decide) ?_
      refine Own.istoreV 166 #[.val (.int x0), .val (.int x1), .val (.int x2), .val (.int x3), .val (.int x4), .val (.ref a), .val (.int (2 : Int32)), .val (.int (1 : Int32)), .val (.int (2 : Int32))] X32 hx (hb hby at_164) rfl rfl ?_
      refine Own.iloadN 167 X32 hx (hb hby at_166) rfl rfl ?_
      refine Own.iconst 168 X32 hx ((4 : Int32)) (hb hby at_167) rfl rfl ?_
      refine Own.iushr 169 X32 hx (hb hby at_168) rfl rfl ?_
      refine Own.iconst 170 X32 hx ((1 : Int32)) (hb hby at_169) rfl rfl ?_
      refine Own.iand 171 X32 hx (hb hby at_170) rfl rfl ?_
      refine Own.if_eq 199 174 X32 hx (hb hby at_171) (by decide) rfl (fun cl => ?_) (fun cl => ?_)
      ·
        refine Own.iload 201 X32 hx (hb hby at_199) rfl rfl ?_
        refine Own.retBool X32 hx hlk hret (hb hby at_201) (by decide) (by decide) ?_
        exact ⟨rfl, N32⟩
      ·
        refine Own.aload 176 X32 hx (hb hby at_174) rfl rfl rfl ?_
        refine Own.callVt 179 0 a [] [] X32 hx hZ hown (m11 l Z a0 w a kb nb cp _ n0 _ D) E31 (notFace_of_selects (args := #[]) (mvT hZ (w 62 rfl))) (w 59 rfl) (w 60 rfl) (w 62 rfl) (w 61 rfl) (w 2 rfl) (w 63 rfl) (by decide) hh32 (by decide) (by decide) (by decide) (by decide) (by rw [hml]; rfl) (lenOf pd_3 rfl) rfl (Nat.le_of_eq rfl) (hb hby at_176) rfl ?_
        rintro vv T33 L33 X33 ⟨rfl, N33q, D⟩
        have N33 := Fr.app N32 N33q
        have E33 := D.1
        refine Own.iload 181 X33 hx (hb hby at_179) rfl rfl ?_
        refine Own.if_eq 196 184 X33 hx (hb hby at_181) (by decide) rfl (fun tk => absurd tk (by decide)) (fun tk => ?_)
        refine Own.aload 186 X33 hx (hb hby at_184) rfl rfl rfl ?_
        refine Own.callVt 189 0 a [] [] X33 hx hZ hown (m8 l Z a0 w a (0 : Int32) _ D.2.2.2.1) E33 (notFace_of_selects (args := #[]) (mvT hZ (w 47 rfl))) (w 44 rfl) (w 45 rfl) (w 47 rfl) (w 46 rfl) (w 2 rfl) (w 48 rfl) (by decide) rfl (by decide) (by decide) (by decide) (by decide) (by rw [hml]; rfl) (lenOf pd_5 rfl) rfl (Nat.le_of_eq rfl) (hb hby at_186) rfl ?_
        rintro vv T34 L34 X34 ⟨rfl, hh34, rfl⟩
        have N34 := Fr.app N33 (Fr.nil _)
        show Own.Ends p.tables e below s _ _ _ (T34.setTop (mkF m 189 #[.val (.int x0), .val (.int x1), .val (.int x2), .val (.int x3), .val (.int x4), .val (.ref a), .val (.int (2 : Int32)), .val (.int (1 : Int32)), .val (.int (2 : Int32))] [(.int (1 : Int32))]))
        refine Own.if_eq 196 192 X34 hx (hb hby at_189) (by decide) rfl (fun tk => absurd tk (by decide)) (fun tk => ?_)
        refine Own.iconst 193 X34 hx ((1 : Int32)) (hb hby at_192) rfl rfl ?_
        refine Own.goto 197 X34 hx (hb hby at_193) (by decide) ?_
        refine Own.istoreV 199 #[.val (.int x0), .val (.int x1), .val (.int x2), .val (.int x3), .val (.int x4), .val (.ref a), .val (.int (2 : Int32)), .val (.int (1 : Int32)), .val (.int (2 : Int32))] X34 hx (hb hby at_197) rfl rfl ?_
        refine Own.iload 201 X34 hx (hb hby at_199) rfl rfl ?_
        refine Own.retBool X34 hx hlk hret (hb hby at_201) (by decide) (by decide) ?_
        exact ⟨rfl, N34⟩
  ·
    refine Own.icmp_lt 32 25 X3 hx (hb hby at_22) (by decide) rfl (fun tk => absurd tk (by decide)) (fun tk => ?_)
    refine Own.aload 27 X3 hx (hb hby at_25) rfl rfl rfl ?_
    refine Own.iloadN 28 X3 hx (hb hby at_27) rfl rfl ?_
    refine Own.iloadN 29 X3 hx (hb hby at_28) rfl rfl ?_
    refine Own.callVt 32 0 a [(.int x2), (.int x3)] [] X3 hx hZ hown (m4_0 l Z a0 w a x2 x3 kb nb cp n0 _ D hc) E3 (notFace_of_selects (args := #[]) (mvT hZ (w 22 rfl))) (w 19 rfl) (w 20 rfl) (w 22 rfl) (w 21 rfl) (w 2 rfl) (w 23 rfl) (by decide) rfl (by decide) (by decide) (by decide) (by decide) (by rw [hml]; rfl) (lenOf pd_6 rfl) rfl (Nat.le_of_eq rfl) (hb hby at_29) rfl ?_
    rintro vv T35 L35 X35 ⟨rfl, N35q, kb, nb, cp, D, hc⟩
    have N35 := Fr.app N3 N35q
    have E35 := D.1
    refine Own.iload 34 X35 hx (hb hby at_32) rfl rfl ?_
    refine Own.iconst 35 X35 hx ((2 : Int32)) (hb hby at_34) rfl rfl ?_
    refine Own.icmp_lt 46 38 X35 hx (hb hby at_35) (by decide) rfl (fun tk => absurd tk (by decide)) (fun tk => ?_)
    refine Own.aload 40 X35 hx (hb hby at_38) rfl rfl rfl ?_
    refine Own.iloadN 41 X35 hx (hb hby at_40) rfl rfl ?_
    refine Own.iload 43 X35 hx (hb hby at_41) rfl rfl ?_
    refine Own.callVt 46 0 a [(.int x3), (.int x4)] [] X35 hx hZ hown (m4_1 l Z a0 w a x3 x4 kb nb cp n0 _ D hc) E35 (notFace_of_selects (args := #[]) (mvT hZ (w 22 rfl))) (w 19 rfl) (w 20 rfl) (w 22 rfl) (w 21 rfl) (w 2 rfl) (w 23 rfl) (by decide) rfl (by decide) (by decide) (by decide) (by decide) (by rw [hml]; rfl) (lenOf pd_6 rfl) rfl (Nat.le_of_eq rfl) (hb hby at_43) rfl ?_
    rintro vv T36 L36 X36 ⟨rfl, N36q, kb, nb, cp, D, hc⟩
    have N36 := Fr.app N35 N36q
    have E36 := D.1
    refine Own.iload 48 X36 hx (hb hby at_46) rfl rfl ?_
    refine Own.iconst 49 X36 hx ((3 : Int32)) (hb hby at_48) rfl rfl ?_
    refine Own.icmp_lt 60 52 X36 hx (hb hby at_49) (by decide) rfl (fun tk => absurd tk (by decide)) (fun tk => ?_)
    refine Own.aload 54 X36 hx (hb hby at_52) rfl rfl rfl ?_
    refine Own.iload 56 X36 hx (hb hby at_54) rfl rfl ?_
    refine Own.iloadN 57 X36 hx (hb hby at_56) rfl rfl ?_
    refine Own.callVt 60 0 a [(.int x4), (.int x2)] [] X36 hx hZ hown (m4_2 l Z a0 w a x4 x2 kb nb cp n0 _ D hc) E36 (notFace_of_selects (args := #[]) (mvT hZ (w 22 rfl))) (w 19 rfl) (w 20 rfl) (w 22 rfl) (w 21 rfl) (w 2 rfl) (w 23 rfl) (by decide) rfl (by decide) (by decide) (by decide) (by decide) (by rw [hml]; rfl) (lenOf pd_6 rfl) rfl (Nat.le_of_eq rfl) (hb hby at_57) rfl ?_
    rintro vv T37 L37 X37 ⟨rfl, N37q, kb, nb, cp, D, hc⟩
    have N37 := Fr.app N36 N37q
    have E37 := D.1
    refine Own.aload 62 X37 hx (hb hby at_60) rfl rfl rfl ?_
    refine Own.callVt 65 0 a [] [] X37 hx hZ hown (m8 l Z a0 w a (3 : Int32) _ D.2.2.2.1) E37 (notFace_of_selects (args := #[]) (mvT hZ (w 47 rfl))) (w 44 rfl) (w 45 rfl) (w 47 rfl) (w 46 rfl) (w 2 rfl) (w 48 rfl) (by decide) rfl (by decide) (by decide) (by decide) (by decide) (by rw [hml]; rfl) (lenOf pd_5 rfl) rfl (Nat.le_of_eq rfl) (hb hby at_62) rfl ?_
    rintro vv T38 L38 X38 ⟨rfl, hh38, rfl⟩
    have N38 := Fr.app N37 (Fr.nil _)
    show Own.Ends p.tables e below s _ _ _ (T38.setTop (mkF m 65 #[.val (.int x0), .val (.int x1), .val (.int x2), .val (.int x3), .val (.int x4), .val (.ref a), .val (.int (3 : Int32)), .unset, .unset] [(.int (0 : Int32))]))
    refine Own.iload 67 X38 hx (hb hby at_65) rfl rfl ?_
    refine Own.if_ne 74 70 X38 hx (hb hby at_67) (by decide) rfl (fun tk => ?_) (fun tk => absurd tk (by decide))
    refine Own.iconst 75 X38 hx ((0 : Int32)) (hb hby at_74) rfl rfl ?_
    refine Own.icmp_ne 82 78 X38 hx (hb hby at_75) (by decide) rfl (fun tk => absurd tk (by decide)) (fun tk => ?_)
    refine Own.iconst 79 X38 hx ((1 : Int32)) (hb hby at_78) rfl rfl ?_
    refine Own.goto 83 X38 hx (hb hby at_79) (by decide) ?_
    refine Own.istoreV 85 #[.val (.int x0), .val (.int x1), .val (.int x2), .val (.int x3), .val (.int x4), .val (.ref a), .val (.int (3 : Int32)), .val (.int (1 : Int32)), .unset] X38 hx (hb hby at_83) rfl rfl ?_
    refine Own.iloadN 86 X38 hx (hb hby at_85) rfl rfl ?_
    refine Own.iconst 87 X38 hx ((2 : Int32)) (hb hby at_86) rfl rfl ?_
    refine Own.iushr 88 X38 hx (hb hby at_87) rfl rfl ?_
    refine Own.iconst 89 X38 hx ((3 : Int32)) (hb hby at_88) rfl rfl ?_
    refine Own.iand 90 X38 hx (hb hby at_89) rfl rfl ?_
    refine Own.iload 92 X38 hx (hb hby at_90) rfl rfl ?_
    refine Own.callSt 95 0 [(.int (((x1.toUInt32 >>> ((2 : Int32) &&& 31).toUInt32).toInt32) &&& (3 : Int32))), (.int (3 : Int32))] [] X38 hx hZ hown (m6 l Z a0 w _ _ _) (w 49 rfl) (w 35 rfl) (w 11 rfl) (w 36 rfl) (by decide) hh38 (by decide) (by decide) (by decide) (by decide) (by rw [hml]; rfl) (lenOf pd_0 rfl) rfl (Nat.le_of_eq rfl) (hb hby at_92) rfl ?_
    rintro vv T39 L39 X39 ⟨rfl, hh39, rfl⟩
    have N39 := Fr.app N38 (Fr.nil _)
    have hk0 := own_mn ((x1.toUInt32 >>> ((2 : Int32) &&& 31).toUInt32).toInt32) (3 : Int32) (by decide)
    generalize (if (3 : Int32) < ((x1.toUInt32 >>> ((2 : Int32) &&& 31).toUInt32).toInt32 &&& 3) then (3 : Int32) else ((x1.toUInt32 >>> ((2 : Int32) &&& 31).toUInt32).toInt32 &&& 3)) = kq at *
    rcases own_le3 hk0 with rfl | rfl | rfl | rfl
    ·
      refine Own.istoreV 97 #[.val (.int x0), .val (.int x1), .val (.int x2), .val (.int x3), .val (.int x4), .val (.ref a), .val (.int (3 : Int32)), .val (.int (1 : Int32)), .val (.int (0 : Int32))] X39 hx (hb hby at_95) rfl rfl ?_
      refine Own.iload 99 X39 hx (hb hby at_97) rfl rfl ?_
      refine Own.iconst 100 X39 hx ((1 : Int32)) (hb hby at_99) rfl rfl ?_
      refine Own.icmp_lt 109 103 X39 hx (hb hby at_100) (by decide) rfl (fun tk => ?_) (fun tk => absurd tk (by decide))
      refine Own.iload 111 X39 hx (hb hby at_109) rfl rfl ?_
      refine Own.iconst 112 X39 hx ((2 : Int32)) (hb hby at_111) rfl rfl ?_
      refine Own.icmp_lt 121 115 X39 hx (hb hby at_112) (by decide) rfl (fun tk => ?_) (fun tk => absurd tk (by decide))
      refine Own.iload 123 X39 hx (hb hby at_121) rfl rfl ?_
      refine Own.iconst 124 X39 hx ((3 : Int32)) (hb hby at_123) rfl rfl ?_
      refine Own.icmp_lt 133 127 X39 hx (hb hby at_124) (by decide) rfl (fun tk => ?_) (fun tk => absurd tk (by decide))
      refine Own.iload 135 X39 hx (hb hby at_133) rfl rfl ?_
      refine Own.if_eq 163 138 X39 hx (hb hby at_135) (by decide) rfl (fun tk => absurd tk (by decide)) (fun tk => ?_)
      refine Own.aload 140 X39 hx (hb hby at_138) rfl rfl rfl ?_
      refine Own.callVt 143 0 a [] [] X39 hx hZ hown (m8 l Z a0 w a (3 : Int32) _ D.2.2.2.1) E37 (notFace_of_selects (args := #[]) (mvT hZ (w 47 rfl))) (w 44 rfl) (w 45 rfl) (w 47 rfl) (w 46 rfl) (w 2 rfl) (w 48 rfl) (by decide) hh39 (by decide) (by decide) (by decide) (by decide) (by rw [hml]; rfl) (lenOf pd_5 rfl) rfl (Nat.le_of_eq rfl) (hb hby at_140) rfl ?_
      rintro vv T40 L40 X40 ⟨rfl, hh40, rfl⟩
      have N40 := Fr.app N39 (Fr.nil _)
      show Own.Ends p.tables e below s _ _ _ (T40.setTop (mkF m 143 #[.val (.int x0), .val (.int x1), .val (.int x2), .val (.int x3), .val (.int x4), .val (.ref a), .val (.int (3 : Int32)), .val (.int (1 : Int32)), .val (.int (0 : Int32))] [(.int (0 : Int32))]))
      refine Own.iload 145 X40 hx (hb hby at_143) rfl rfl ?_
      refine Own.iload 147 X40 hx (hb hby at_145) rfl rfl ?_
      refine Own.isub 148 X40 hx (hb hby at_147) rfl (show ((3 : Int32) - (0 : Int32)) = (3 : Int32) by decide) ?_
      refine Own.if_ne 155 151 X40 hx (hb hby at_148) (by decide) rfl (fun tk => ?_) (fun tk => absurd tk (by decide))
      refine Own.iconst 156 X40 hx ((0 : Int32)) (hb hby at_155) rfl rfl ?_
      refine Own.icmp_ne 163 159 X40 hx (hb hby at_156) (by decide) rfl (fun tk => absurd tk (by decide)) (fun tk => ?_)
      refine Own.iconst 160 X40 hx ((1 : Int32)) (hb hby at_159) rfl rfl ?_
      refine Own.goto 164 X40 hx (hb hby at_160) (by decide) ?_
      refine Own.istoreV 166 #[.val (.int x0), .val (.int x1), .val (.int x2), .val (.int x3), .val (.int x4), .val (.ref a), .val (.int (3 : Int32)), .val (.int (1 : Int32)), .val (.int (0 : Int32))] X40 hx (hb hby at_164) rfl rfl ?_
      refine Own.iloadN 167 X40 hx (hb hby at_166) rfl rfl ?_
      refine Own.iconst 168 X40 hx ((4 : Int32)) (hb hby at_167) rfl rfl ?_
      refine Own.iushr 169 X40 hx (hb hby at_168) rfl rfl ?_
      refine Own.iconst 170 X40 hx ((1 : Int32)) (hb hby at_169) rfl rfl ?_
      refine Own.iand 171 X40 hx (hb hby at_170) rfl rfl ?_
      refine Own.if_eq 199 174 X40 hx (hb hby at_171) (by decide) rfl (fun cl => ?_) (fun cl => ?_)
      ·
        refine Own.iload 201 X40 hx (hb hby at_199) rfl rfl ?_
        refine Own.retBool X40 hx hlk hret (hb hby at_201) (by decide) (by decide) ?_
        exact ⟨rfl, N40⟩
      ·
        refine Own.aload 176 X40 hx (hb hby at_174) rfl rfl rfl ?_
        refine Own.callVt 179 0 a [] [] X40 hx hZ hown (m11 l Z a0 w a kb nb cp _ n0 _ D) E37 (notFace_of_selects (args := #[]) (mvT hZ (w 62 rfl))) (w 59 rfl) (w 60 rfl) (w 62 rfl) (w 61 rfl) (w 2 rfl) (w 63 rfl) (by decide) hh40 (by decide) (by decide) (by decide) (by decide) (by rw [hml]; rfl) (lenOf pd_3 rfl) rfl (Nat.le_of_eq rfl) (hb hby at_176) rfl ?_
        rintro vv T41 L41 X41 ⟨rfl, N41q, D⟩
        have N41 := Fr.app N40 N41q
        have E41 := D.1
        refine Own.iload 181 X41 hx (hb hby at_179) rfl rfl ?_
        refine Own.if_eq 196 184 X41 hx (hb hby at_181) (by decide) rfl (fun tk => absurd tk (by decide)) (fun tk => ?_)
        refine Own.aload 186 X41 hx (hb hby at_184) rfl rfl rfl ?_
        refine Own.callVt 189 0 a [] [] X41 hx hZ hown (m8 l Z a0 w a (0 : Int32) _ D.2.2.2.1) E41 (notFace_of_selects (args := #[]) (mvT hZ (w 47 rfl))) (w 44 rfl) (w 45 rfl) (w 47 rfl) (w 46 rfl) (w 2 rfl) (w 48 rfl) (by decide) rfl (by decide) (by decide) (by decide) (by decide) (by rw [hml]; rfl) (lenOf pd_5 rfl) rfl (Nat.le_of_eq rfl) (hb hby at_186) rfl ?_
        rintro vv T42 L42 X42 ⟨rfl, hh42, rfl⟩
        have N42 := Fr.app N41 (Fr.nil _)
        show Own.Ends p.tables e below s _ _ _ (T42.setTop (mkF m 189 #[.val (.int x0), .val (.int x1), .val (.int x2), .val (.int x3), .val (.int x4), .val (.ref a), .val (.int (3 : Int32)), .val (.int (1 : Int32)), .val (.int (0 : Int32))] [(.int (1 : Int32))]))
        refine Own.if_eq 196 192 X42 hx (hb hby at_189) (by decide) rfl (fun tk => absurd tk (by decide)) (fun tk => ?_)
        refine Own.iconst 193 X42 hx ((1 : Int32)) (hb hby at_192) rfl rfl ?_
        refine Own.goto 197 X42 hx (hb hby at_193) (by decide) ?_
        refine Own.istoreV 199 #[.val (.int x0), .val (.int x1), .val (.int x2), .val (.int x3), .val (.int x4), .val (.ref a), .val (.int (3 : Int32)), .val (.int (1 : Int32)), .val (.int (0 : Int32))] X42 hx (hb hby at_197) rfl rfl ?_
        refine Own.iload 201 X42 hx (hb hby at_199) rfl rfl ?_
        refine Own.retBool X42 hx hlk hret (hb hby at_201) (by decide) (by decide) ?_
        exact ⟨rfl, N42⟩
    ·
      refine Own.istoreV 97 #[.val (.int x0), .val (.int x1), .val (.int x2), .val (.int x3), .val (.int x4), .val (.ref a), .val (.int (3 : Int32)), .val (.int (1 : Int32)), .val (.int (1 : Int32))] X39 hx (hb hby at_95) rfl rfl ?_
      refine Own.iload 99 X39 hx (hb hby at_97) rfl rfl ?_
      refine Own.iconst 100 X39 hx ((1 : Int32)) (hb hby at_99) rfl rfl ?_
      refine Own.icmp_lt 109 103 X39 hx (hb hby at_100) (by decide) rfl (fun tk => absurd tk (by decide)) (fun tk => ?_)
      refine Own.aload 105 X39 hx (hb hby at_103) rfl rfl rfl ?_
      refine Own.callVt 108 0 a [] [] X39 hx hZ hown (m9_3 l Z a0 w a kb nb cp n0 _ D (by omega)) E37 (notFace_of_selects (args := #[]) (mvT hZ (w 53 rfl))) (w 50 rfl) (w 51 rfl) (w 53 rfl) (w 52 rfl) (w 2 rfl) (w 54 rfl) (by decide) hh39 (by decide) (by decide) (by decide) (by decide) (by rw [hml]; rfl) (lenOf pd_7 rfl) rfl (Nat.le_of_eq rfl) (hb hby at_105) rfl ?_
      rintro vv T43 L43 X43 ⟨rr, rfl, N43q, D⟩
      have N43 := Fr.app N39 N43q
      have E43 := D.1
      refine Own.pop 109 X43 hx (hb hby at_108) rfl rfl ?_
      refine Own.iload 111 X43 hx (hb hby at_109) rfl rfl ?_
      refine Own.iconst 112 X43 hx ((2 : Int32)) (hb hby at_111) rfl rfl ?_
      refine Own.icmp_lt 121 115 X43 hx (hb hby at_112) (by decide) rfl (fun tk => ?_) (fun tk => absurd tk (by decide))
      refine Own.iload 123 X43 hx (hb hby at_121) rfl rfl ?_
      refine Own.iconst 124 X43 hx ((3 : Int32)) (hb hby at_123) rfl rfl ?_
      refine Own.icmp_lt 133 127 X43 hx (hb hby at_124) (by decide) rfl (fun tk => ?_) (fun tk => absurd tk (by decide))
      refine Own.iload 135 X43 hx (hb hby at_133) rfl rfl ?_
      refine Own.if_eq 163 138 X43 hx (hb hby at_135) (by decide) rfl (fun tk => absurd tk (by decide)) (fun tk => ?_)
      refine Own.aload 140 X43 hx (hb hby at_138) rfl rfl rfl ?_
      refine Own.callVt 143 0 a [] [] X43 hx hZ hown (m8 l Z a0 w a (2 : Int32) _ D.2.2.2.1) E43 (notFace_of_selects (args := #[]) (mvT hZ (w 47 rfl))) (w 44 rfl) (w 45 rfl) (w 47 rfl) (w 46 rfl) (w 2 rfl) (w 48 rfl) (by decide) rfl (by decide) (by decide) (by decide) (by decide) (by rw [hml]; rfl) (lenOf pd_5 rfl) rfl (Nat.le_of_eq rfl) (hb hby at_140) rfl ?_
      rintro vv T44 L44 X44 ⟨rfl, hh44, rfl⟩
      have N44 := Fr.app N43 (Fr.nil _)
      show Own.Ends p.tables e below s _ _ _ (T44.setTop (mkF m 143 #[.val (.int x0), .val (.int x1), .val (.int x2), .val (.int x3), .val (.int x4), .val (.ref a), .val (.int (3 : Int32)), .val (.int (1 : Int32)), .val (.int (1 : Int32))] [(.int (0 : Int32))]))
      refine Own.iload 145 X44 hx (hb hby at_143) rfl rfl ?_
      refine Own.iload 147 X44 hx (hb hby at_145) rfl rfl ?_
      refine Own.isub 148 X44 hx (hb hby at_147) rfl (show ((3 : Int32) - (1 : Int32)) = (2 : Int32) by decide) ?_
      refine Own.if_ne 155 151 X44 hx (hb hby at_148) (by decide) rfl (fun tk => ?_) (fun tk => absurd tk (by decide))
      refine Own.iconst 156 X44 hx ((0 : Int32)) (hb hby at_155) rfl rfl ?_
      refine Own.icmp_ne 163 159 X44 hx (hb hby at_156) (by decide) rfl (fun tk => absurd tk (by decide)) (fun tk => ?_)
      refine Own.iconst 160 X44 hx ((1 : Int32)) (hb hby at_159) rfl rfl ?_
      refine Own.goto 164 X44 hx (hb hby at_160) (by decide) ?_
      refine Own.istoreV 166 #[.val (.int x0), .val (.int x1), .val (.int x2), .val (.int x3), .val (.int x4), .val (.ref a), .val (.int (3 : Int32)), .val (.int (1 : Int32)), .val (.int (1 : Int32))] X44 hx (hb hby at_164) rfl rfl ?_
      refine Own.iloadN 167 X44 hx (hb hby at_166) rfl rfl ?_
      refine Own.iconst 168 X44 hx ((4 : Int32)) (hb hby at_167) rfl rfl ?_
      refine Own.iushr 169 X44 hx (hb hby at_168) rfl rfl ?_
      refine Own.iconst 170 X44 hx ((1 : Int32)) (hb hby at_169) rfl rfl ?_
      refine Own.iand 171 X44 hx (hb hby at_170) rfl rfl ?_
      refine Own.if_eq 199 174 X44 hx (hb hby at_171) (by decide) rfl (fun cl => ?_) (fun cl => ?_)
      ·
        refine Own.iload 201 X44 hx (hb hby at_199) rfl rfl ?_
        refine Own.retBool X44 hx hlk hret (hb hby at_201) (by decide) (by decide) ?_
        exact ⟨rfl, N44⟩
      ·
        refine Own.aload 176 X44 hx (hb hby at_174) rfl rfl rfl ?_
        refine Own.callVt 179 0 a [] [] X44 hx hZ hown (m11 l Z a0 w a kb nb cp _ n0 _ D) E43 (notFace_of_selects (args := #[]) (mvT hZ (w 62 rfl))) (w 59 rfl) (w 60 rfl) (w 62 rfl) (w 61 rfl) (w 2 rfl) (w 63 rfl) (by decide) hh44 (by decide) (by decide) (by decide) (by decide) (by rw [hml]; rfl) (lenOf pd_3 rfl) rfl (Nat.le_of_eq rfl) (hb hby at_176) rfl ?_
        rintro vv T45 L45 X45 ⟨rfl, N45q, D⟩
        have N45 := Fr.app N44 N45q
        have E45 := D.1
        refine Own.iload 181 X45 hx (hb hby at_179) rfl rfl ?_
        refine Own.if_eq 196 184 X45 hx (hb hby at_181) (by decide) rfl (fun tk => absurd tk (by decide)) (fun tk => ?_)
        refine Own.aload 186 X45 hx (hb hby at_184) rfl rfl rfl ?_
        refine Own.callVt 189 0 a [] [] X45 hx hZ hown (m8 l Z a0 w a (0 : Int32) _ D.2.2.2.1) E45 (notFace_of_selects (args := #[]) (mvT hZ (w 47 rfl))) (w 44 rfl) (w 45 rfl) (w 47 rfl) (w 46 rfl) (w 2 rfl) (w 48 rfl) (by decide) rfl (by decide) (by decide) (by decide) (by decide) (by rw [hml]; rfl) (lenOf pd_5 rfl) rfl (Nat.le_of_eq rfl) (hb hby at_186) rfl ?_
        rintro vv T46 L46 X46 ⟨rfl, hh46, rfl⟩
        have N46 := Fr.app N45 (Fr.nil _)
        show Own.Ends p.tables e below s _ _ _ (T46.setTop (mkF m 189 #[.val (.int x0), .val (.int x1), .val (.int x2), .val (.int x3), .val (.int x4), .val (.ref a), .val (.int (3 : Int32)), .val (.int (1 : Int32)), .val (.int (1 : Int32))] [(.int (1 : Int32))]))
        refine Own.if_eq 196 192 X46 hx (hb hby at_189) (by decide) rfl (fun tk => absurd tk (by decide)) (fun tk => ?_)
        refine Own.iconst 193 X46 hx ((1 : Int32)) (hb hby at_192) rfl rfl ?_
        refine Own.goto 197 X46 hx (hb hby at_193) (by decide) ?_
        refine Own.istoreV 199 #[.val (.int x0), .val (.int x1), .val (.int x2), .val (.int x3), .val (.int x4), .val (.ref a), .val (.int (3 : Int32)), .val (.int (1 : Int32)), .val (.int (1 : Int32))] X46 hx (hb hby at_197) rfl rfl ?_
        refine Own.iload 201 X46 hx (hb hby at_199) rfl rfl ?_
        refine Own.retBool X46 hx hlk hret (hb hby at_201) (by decide) (by decide) ?_
        exact ⟨rfl, N46⟩
    ·
      refine Own.istoreV 97 #[.val (.int x0), .val (.int x1), .val (.int x2), .val (.int x3), .val (.int x4), .val (.ref a), .val (.int (3 : Int32)), .val (.int (1 : Int32)), .val (.int (2 : Int32))] X39 hx (hb hby at_95) rfl rfl ?_
      refine Own.iload 99 X39 hx (hb hby at_97) rfl rfl ?_
      refine Own.iconst 100 X39 hx ((1 : Int32)) (hb hby at_99) rfl rfl ?_
      refine Own.icmp_lt 109 103 X39 hx (hb hby at_100) (by decide) rfl (fun tk => absurd tk (by decide)) (fun tk => ?_)
      refine Own.aload 105 X39 hx (hb hby at_103) rfl rfl rfl ?_
      refine Own.callVt 108 0 a [] [] X39 hx hZ hown (m9_3 l Z a0 w a kb nb cp n0 _ D (by omega)) E37 (notFace_of_selects (args := #[]) (mvT hZ (w 53 rfl))) (w 50 rfl) (w 51 rfl) (w 53 rfl) (w 52 rfl) (w 2 rfl) (w 54 rfl) (by decide) hh39 (by decide) (by decide) (by decide) (by decide) (by rw [hml]; rfl) (lenOf pd_7 rfl) rfl (Nat.le_of_eq rfl) (hb hby at_105) rfl ?_
      rintro vv T47 L47 X47 ⟨rr, rfl, N47q, D⟩
      have N47 := Fr.app N39 N47q
      have E47 := D.1
      refine Own.pop 109 X47 hx (hb hby at_108) rfl rfl ?_
      refine Own.iload 111 X47 hx (hb hby at_109) rfl rfl ?_
      refine Own.iconst 112 X47 hx ((2 : Int32)) (hb hby at_111) rfl rfl ?_
      refine Own.icmp_lt 121 115 X47 hx (hb hby at_112) (by decide) rfl (fun tk => absurd tk (by decide)) (fun tk => ?_)
      refine Own.aload 117 X47 hx (hb hby at_115) rfl rfl rfl ?_
      refine Own.callVt 120 0 a [] [] X47 hx hZ hown (m9_2 l Z a0 w a kb nb cp n0 _ D (by omega)) E47 (notFace_of_selects (args := #[]) (mvT hZ (w 53 rfl))) (w 50 rfl) (w 51 rfl) (w 53 rfl) (w 52 rfl) (w 2 rfl) (w 54 rfl) (by decide) rfl (by decide) (by decide) (by decide) (by decide) (by rw [hml]; rfl) (lenOf pd_7 rfl) rfl (Nat.le_of_eq rfl) (hb hby at_117) rfl ?_
      rintro vv T48 L48 X48 ⟨rr, rfl, N48q, D⟩
      have N48 := Fr.app N47 N48q
      have E48 := D.1
      refine Own.pop 121 X48 hx (hb hby at_120) rfl rfl ?_
      refine Own.iload 123 X48 hx (hb hby at_121) rfl rfl ?_
      refine Own.iconst 124 X48 hx ((3 : Int32)) (hb hby at_123) rfl rfl ?_
      refine Own.icmp_lt 133 127 X48 hx (hb hby at_124) (by decide) rfl (fun tk => ?_) (fun tk => absurd tk (by decide))
      refine Own.iload 135 X48 hx (hb hby at_133) rfl rfl ?_
      refine Own.if_eq 163 138 X48 hx (hb hby at_135) (by decide) rfl (fun tk => absurd tk (by decide)) (fun tk => ?_)
      refine Own.aload 140 X48 hx (hb hby at_138) rfl rfl rfl ?_
      refine Own.callVt 143 0 a [] [] X48 hx hZ hown (m8 l Z a0 w a (1 : Int32) _ D.2.2.2.1) E48 (notFace_of_selects (args := #[]) (mvT hZ (w 47 rfl))) (w 44 rfl) (w 45 rfl) (w 47 rfl) (w 46 rfl) (w 2 rfl) (w 48 rfl) (by decide) rfl (by decide) (by decide) (by decide) (by decide) (by rw [hml]; rfl) (lenOf pd_5 rfl) rfl (Nat.le_of_eq rfl) (hb hby at_140) rfl ?_
      rintro vv T49 L49 X49 ⟨rfl, hh49, rfl⟩
      have N49 := Fr.app N48 (Fr.nil _)
      show Own.Ends p.tables e below s _ _ _ (T49.setTop (mkF m 143 #[.val (.int x0), .val (.int x1), .val (.int x2), .val (.int x3), .val (.int x4), .val (.ref a), .val (.int (3 : Int32)), .val (.int (1 : Int32)), .val (.int (2 : Int32))] [(.int (0 : Int32))]))
      refine Own.iload 145 X49 hx (hb hby at_143) rfl rfl ?_
      refine Own.iload 147 X49 hx (hb hby at_145) rfl rfl ?_
      refine Own.isub 148 X49 hx (hb hby at_147) rfl (show ((3 : Int32) - (2 : Int32)) = (1 : Int32) by decide) ?_
      refine Own.if_ne 155 151 X49 hx (hb hby at_148) (by decide) rfl (fun tk => ?_) (fun tk => absurd tk (by decide))
      refine Own.iconst 156 X49 hx ((0 : Int32)) (hb hby at_155) rfl rfl ?_
      refine Own.icmp_ne 163 159 X49 hx (hb hby at_156) (by decide) rfl (fun tk => absurd tk (by decide)) (fun tk => ?_)
      refine Own.iconst 160 X49 hx ((1 : Int32)) (hb hby at_159) rfl rfl ?_
      refine Own.goto 164 X49 hx (hb hby at_160) (by decide) ?_
      refine Own.istoreV 166 #[.val (.int x0), .val (.int x1), .val (.int x2), .val (.int x3), .val (.int x4), .val (.ref a), .val (.int (3 : Int32)), .val (.int (1 : Int32)), .val (.int (2 : Int32))] X49 hx (hb hby at_164) rfl rfl ?_
      refine Own.iloadN 167 X49 hx (hb hby at_166) rfl rfl ?_
      refine Own.iconst 168 X49 hx ((4 : Int32)) (hb hby at_167) rfl rfl ?_
      refine Own.iushr 169 X49 hx (hb hby at_168) rfl rfl ?_
      refine Own.iconst 170 X49 hx ((1 : Int32)) (hb hby at_169) rfl rfl ?_
      refine Own.iand 171 X49 hx (hb hby at_170) rfl rfl ?_
      refine Own.if_eq 199 174 X49 hx (hb hby at_171) (by decide) rfl (fun cl => ?_) (fun cl => ?_)
      ·
        refine Own.iload 201 X49 hx (hb hby at_199) rfl rfl ?_
        refine Own.retBool X49 hx hlk hret (hb hby at_201) (by decide) (by decide) ?_
        exact ⟨rfl, N49⟩
      ·
        refine Own.aload 176 X49 hx (hb hby at_174) rfl rfl rfl ?_
        refine Own.callVt 179 0 a [] [] X49 hx hZ hown (m11 l Z a0 w a kb nb cp _ n0 _ D) E48 (notFace_of_selects (args := #[]) (mvT hZ (w 62 rfl))) (w 59 rfl) (w 60 rfl) (w 62 rfl) (w 61 rfl) (w 2 rfl) (w 63 rfl) (by decide) hh49 (by decide) (by decide) (by decide) (by decide) (by rw [hml]; rfl) (lenOf pd_3 rfl) rfl (Nat.le_of_eq rfl) (hb hby at_176) rfl ?_
        rintro vv T50 L50 X50 ⟨rfl, N50q, D⟩
        have N50 := Fr.app N49 N50q
        have E50 := D.1
        refine Own.iload 181 X50 hx (hb hby at_179) rfl rfl ?_
        refine Own.if_eq 196 184 X50 hx (hb hby at_181) (by decide) rfl (fun tk => absurd tk (by decide)) (fun tk => ?_)
        refine Own.aload 186 X50 hx (hb hby at_184) rfl rfl rfl ?_
        refine Own.callVt 189 0 a [] [] X50 hx hZ hown (m8 l Z a0 w a (0 : Int32) _ D.2.2.2.1) E50 (notFace_of_selects (args := #[]) (mvT hZ (w 47 rfl))) (w 44 rfl) (w 45 rfl) (w 47 rfl) (w 46 rfl) (w 2 rfl) (w 48 rfl) (by decide) rfl (by decide) (by decide) (by decide) (by decide) (by rw [hml]; rfl) (lenOf pd_5 rfl) rfl (Nat.le_of_eq rfl) (hb hby at_186) rfl ?_
        rintro vv T51 L51 X51 ⟨rfl, hh51, rfl⟩
        have N51 := Fr.app N50 (Fr.nil _)
        show Own.Ends p.tables e below s _ _ _ (T51.setTop (mkF m 189 #[.val (.int x0), .val (.int x1), .val (.int x2), .val (.int x3), .val (.int x4), .val (.ref a), .val (.int (3 : Int32)), .val (.int (1 : Int32)), .val (.int (2 : Int32))] [(.int (1 : Int32))]))
        refine Own.if_eq 196 192 X51 hx (hb hby at_189) (by decide) rfl (fun tk => absurd tk (by decide)) (fun tk => ?_)
        refine Own.iconst 193 X51 hx ((1 : Int32)) (hb hby at_192) rfl rfl ?_
        refine Own.goto 197 X51 hx (hb hby at_193) (by decide) ?_
        refine Own.istoreV 199 #[.val (.int x0), .val (.int x1), .val (.int x2), .val (.int x3), .val (.int x4), .val (.ref a), .val (.int (3 : Int32)), .val (.int (1 : Int32)), .val (.int (2 : Int32))] X51 hx (hb hby at_197) rfl rfl ?_
        refine Own.iload 201 X51 hx (hb hby at_199) rfl rfl ?_
        refine Own.retBool X51 hx hlk hret (hb hby at_201) (by decide) (by decide) ?_
        exact ⟨rfl, N51⟩
    ·
      refine Own.istoreV 97 #[.val (.int x0), .val (.int x1), .val (.int x2), .val (.int x3), .val (.int x4), .val (.ref a), .val (.int (3 : Int32)), .val (.int (1 : Int32)), .val (.int (3 : Int32))] X39 hx (hb hby at_95) rfl rfl ?_
      refine Own.iload 99 X39 hx (hb hby at_97) rfl rfl ?_
      refine Own.iconst 100 X39 hx ((1 : Int32)) (hb hby at_99) rfl rfl ?_
      refine Own.icmp_lt 109 103 X39 hx (hb hby at_100) (by decide) rfl (fun tk => absurd tk (by decide)) (fun tk => ?_)
      refine Own.aload 105 X39 hx (hb hby at_103) rfl rfl rfl ?_
      refine Own.callVt 108 0 a [] [] X39 hx hZ hown (m9_3 l Z a0 w a kb nb cp n0 _ D (by omega)) E37 (notFace_of_selects (args := #[]) (mvT hZ (w 53 rfl))) (w 50 rfl) (w 51 rfl) (w 53 rfl) (w 52 rfl) (w 2 rfl) (w 54 rfl) (by decide) hh39 (by decide) (by decide) (by decide) (by decide) (by rw [hml]; rfl) (lenOf pd_7 rfl) rfl (Nat.le_of_eq rfl) (hb hby at_105) rfl ?_
      rintro vv T52 L52 X52 ⟨rr, rfl, N52q, D⟩
      have N52 := Fr.app N39 N52q
      have E52 := D.1
      refine Own.pop 109 X52 hx (hb hby at_108) rfl rfl ?_
      refine Own.iload 111 X52 hx (hb hby at_109) rfl rfl ?_
      refine Own.iconst 112 X52 hx ((2 : Int32)) (hb hby at_111) rfl rfl ?_
      refine Own.icmp_lt 121 115 X52 hx (hb hby at_112) (by decide) rfl (fun tk => absurd tk (by decide)) (fun tk => ?_)
      refine Own.aload 117 X52 hx (hb hby at_115) rfl rfl rfl ?_
      refine Own.callVt 120 0 a [] [] X52 hx hZ hown (m9_2 l Z a0 w a kb nb cp n0 _ D (by omega)) E52 (notFace_of_selects (args := #[]) (mvT hZ (w 53 rfl))) (w 50 rfl) (w 51 rfl) (w 53 rfl) (w 52 rfl) (w 2 rfl) (w 54 rfl) (by decide) rfl (by decide) (by decide) (by decide) (by decide) (by rw [hml]; rfl) (lenOf pd_7 rfl) rfl (Nat.le_of_eq rfl) (hb hby at_117) rfl ?_
      rintro vv T53 L53 X53 ⟨rr, rfl, N53q, D⟩
      have N53 := Fr.app N52 N53q
      have E53 := D.1
      refine Own.pop 121 X53 hx (hb hby at_120) rfl rfl ?_
      refine Own.iload 123 X53 hx (hb hby at_121) rfl rfl ?_
      refine Own.iconst 124 X53 hx ((3 : Int32)) (hb hby at_123) rfl rfl ?_
      refine Own.icmp_lt 133 127 X53 hx (hb hby at_124) (by decide) rfl (fun tk => absurd tk (by decide)) (fun tk => ?_)
      refine Own.aload 129 X53 hx (hb hby at_127) rfl rfl rfl ?_
      refine Own.callVt 132 0 a [] [] X53 hx hZ hown (m9_1 l Z a0 w a kb nb cp n0 _ D (by omega)) E53 (notFace_of_selects (args := #[]) (mvT hZ (w 53 rfl))) (w 50 rfl) (w 51 rfl) (w 53 rfl) (w 52 rfl) (w 2 rfl) (w 54 rfl) (by decide) rfl (by decide) (by decide) (by decide) (by decide) (by rw [hml]; rfl) (lenOf pd_7 rfl) rfl (Nat.le_of_eq rfl) (hb hby at_129) rfl ?_
      rintro vv T54 L54 X54 ⟨rr, rfl, N54q, D⟩
      have N54 := Fr.app N53 N54q
      have E54 := D.1
      refine Own.pop 133 X54 hx (hb hby at_132) rfl rfl ?_
      refine Own.iload 135 X54 hx (hb hby at_133) rfl rfl ?_
      refine Own.if_eq 163 138 X54 hx (hb hby at_135) (by decide) rfl (fun tk => absurd tk (by decide)) (fun tk => ?_)
      refine Own.aload 140 X54 hx (hb hby at_138) rfl rfl rfl ?_
      refine Own.callVt 143 0 a [] [] X54 hx hZ hown (m8 l Z a0 w a (0 : Int32) _ D.2.2.2.1) E54 (notFace_of_selects (args := #[]) (mvT hZ (w 47 rfl))) (w 44 rfl) (w 45 rfl) (w 47 rfl) (w 46 rfl) (w 2 rfl) (w 48 rfl) (by decide) rfl (by decide) (by decide) (by decide) (by decide) (by rw [hml]; rfl) (lenOf pd_5 rfl) rfl (Nat.le_of_eq rfl) (hb hby at_140) rfl ?_
      rintro vv T55 L55 X55 ⟨rfl, hh55, rfl⟩
      have N55 := Fr.app N54 (Fr.nil _)
      show Own.Ends p.tables e below s _ _ _ (T55.setTop (mkF m 143 #[.val (.int x0), .val (.int x1), .val (.int x2), .val (.int x3), .val (.int x4), .val (.ref a), .val (.int (3 : Int32)), .val (.int (1 : Int32)), .val (.int (3 : Int32))] [(.int (1 : Int32))]))
      refine Own.iload 145 X55 hx (hb hby at_143) rfl rfl ?_
      refine Own.iload 147 X55 hx (hb hby at_145) rfl rfl ?_
      refine Own.isub 148 X55 hx (hb hby at_147) rfl (show ((3 : Int32) - (3 : Int32)) = (0 : Int32) by decide) ?_
      refine Own.if_ne 155 151 X55 hx (hb hby at_148) (by decide) rfl (fun tk => absurd tk (by decide)) (fun tk => ?_)
      refine Own.iconst 152 X55 hx ((1 : Int32)) (hb hby at_151) rfl rfl ?_
      refine Own.goto 156 X55 hx (hb hby at_152) (by decide) ?_
      refine Own.icmp_ne 163 159 X55 hx (hb hby at_156) (by decide) rfl (fun tk => absurd tk (by decide)) (fun tk => ?_)
      refine Own.iconst 160 X55 hx ((1 : Int32)) (hb hby at_159) rfl rfl ?_
      refine Own.goto 164 X55 hx (hb hby at_160) (by decide) ?_
      refine Own.istoreV 166 #[.val (.int x0), .val (.int x1), .val (.int x2), .val (.int x3), .val (.int x4), .val (.ref a), .val (.int (3 : Int32)), .val (.int (1 : Int32)), .val (.int (3 : Int32))] X55 hx (hb hby at_164) rfl rfl ?_
      refine Own.iloadN 167 X55 hx (hb hby at_166) rfl rfl ?_
      refine Own.iconst 168 X55 hx ((4 : Int32)) (hb hby at_167) rfl rfl ?_
      refine Own.iushr 169 X55 hx (hb hby at_168) rfl rfl ?_
      refine Own.iconst 170 X55 hx ((1 : Int32)) (hb hby at_169) rfl rfl ?_
      refine Own.iand 171 X55 hx (hb hby at_170) rfl rfl ?_
      refine Own.if_eq 199 174 X55 hx (hb hby at_171) (by decide) rfl (fun cl => ?_) (fun cl => ?_)
      ·
        refine Own.iload 201 X55 hx (hb hby at_199) rfl rfl ?_
        refine Own.retBool X55 hx hlk hret (hb hby at_201) (by decide) (by decide) ?_
        exact ⟨rfl, N55⟩
      ·
        refine Own.aload 176 X55 hx (hb hby at_174) rfl rfl rfl ?_
        refine Own.callVt 179 0 a [] [] X55 hx hZ hown (m11 l Z a0 w a kb nb cp _ n0 _ D) E54 (notFace_of_selects (args := #[]) (mvT hZ (w 62 rfl))) (w 59 rfl) (w 60 rfl) (w 62 rfl) (w 61 rfl) (w 2 rfl) (w 63 rfl) (by decide) hh55 (by decide) (by decide) (by decide) (by decide) (by rw [hml]; rfl) (lenOf pd_3 rfl) rfl (Nat.le_of_eq rfl) (hb hby at_176) rfl ?_
        rintro vv T56 L56 X56 ⟨rfl, N56q, D⟩
        have N56 := Fr.app N55 N56q
        have E56 := D.1
        refine Own.iload 181 X56 hx (hb hby at_179) rfl rfl ?_
        refine Own.if_eq 196 184 X56 hx (hb hby at_181) (by decide) rfl (fun tk => absurd tk (by decide)) (fun tk => ?_)
        refine Own.aload 186 X56 hx (hb hby at_184) rfl rfl rfl ?_
        refine Own.callVt 189 0 a [] [] X56 hx hZ hown (m8 l Z a0 w a (0 : Int32) _ D.2.2.2.1) E56 (notFace_of_selects (args := #[]) (mvT hZ (w 47 rfl))) (w 44 rfl) (w 45 rfl) (w 47 rfl) (w 46 rfl) (w 2 rfl) (w 48 rfl) (by decide) rfl (by decide) (by decide) (by decide) (by decide) (by rw [hml]; rfl) (lenOf pd_5 rfl) rfl (Nat.le_of_eq rfl) (hb hby at_186) rfl ?_
        rintro vv T57 L57 X57 ⟨rfl, hh57, rfl⟩
        have N57 := Fr.app N56 (Fr.nil _)
        show Own.Ends p.tables e below s _ _ _ (T57.setTop (mkF m 189 #[.val (.int x0), .val (.int x1), .val (.int x2), .val (.int x3), .val (.int x4), .val (.ref a), .val (.int (3 : Int32)), .val (.int (1 : Int32)), .val (.int (3 : Int32))] [(.int (1 : Int32))]))
        refine Own.if_eq 196 192 X57 hx (hb hby at_189) (by decide) rfl (fun tk => absurd tk (by decide)) (fun tk => ?_)
        refine Own.iconst 193 X57 hx ((1 : Int32)) (hb hby at_192) rfl rfl ?_
        refine Own.goto 197 X57 hx (hb hby at_193) (by decide) ?_
        refine Own.istoreV 199 #[.val (.int x0), .val (.int x1), .val (.int x2), .val (.int x3), .val (.int x4), .val (.ref a), .val (.int (3 : Int32)), .val (.int (1 : Int32)), .val (.int (3 : Int32))] X57 hx (hb hby at_197) rfl rfl ?_
        refine Own.iload 201 X57 hx (hb hby at_199) rfl rfl ?_
        refine Own.retBool X57 hx hlk hret (hb hby at_201) (by decide) (by decide) ?_
        exact ⟨rfl, N57⟩
set_option maxRecDepth 65536 in
set_option maxHeartbeats 40000000 in
theorem comes_1 {Post : Tables → Env → Array Value → State → Outcome → State → Prop} (hpost : ∀ tb e args s v u, (limb_1_1.after args s (.returned v) u = true ∧ limb_1_2.after args s (.returned v) u = true ∧ True) → FrameEnd s (.returned v) u (Jvm.fieldLocs frame_1_writes args s ++ Jvm.arrayLocs frame_1_arrays args s ++ Jvm.staticLocs frame_1_statics s) 24 128 → Post tb e args s (.returned v) u) :
    ArmFor flags0 classFile x code maxLocals ret World_1 tables_1 room_1 Calls_1 rest_1 Pre_1 Post := by
  intro l hfl _ _ p e ha hc hk s m args below hf hA hF happ hP
  obtain ⟨hcalls, hrest, hpre⟩ := hP
  obtain ⟨-, -, -, hnamed, -, -, -, hat⟩ := (Spec.applies_iff hf).mp happ
  obtain ⟨hg, hn⟩ := and_e (Cond.before_iff.mp (show (Jvm.Cond.and given_1 narrow_1).before args s = true from hpre))
  obtain ⟨g1, g2⟩ := and_e hg
  obtain ⟨g3, g4⟩ := and_e g2
  obtain ⟨g5, g6⟩ := and_e g4
  obtain ⟨g7, g8⟩ := and_e g6
  obtain ⟨g9, g10⟩ := and_e g8
  obtain ⟨w0, w1, w2, w3, w4, rfl⟩ : ∃ w0 w1 w2 w3 w4 : Value, args = #[w0, w1, w2, w3, w4] := by
    have hs : args.size = 5 := by simpa [Cond.value, given_1] using g1
    obtain ⟨L⟩ := args
    match L, hs with
    | [w0, w1, w2, w3, w4], _ => exact ⟨w0, w1, w2, w3, w4, rfl⟩
  have hw := fun d (hd : d ∈ tables_1) => atoms_spec (ws := Jvm.Cond.code x code maxLocals ret :: tables_1) hat d (List.mem_cons_of_mem _ hd)
  obtain ⟨i0, ei0⟩ := is_v g3
  obtain rfl : w0 = (.int i0) := Option.some.inj ei0
  obtain ⟨i1, ei1⟩ := is_v g5
  obtain rfl : w1 = (.int i1) := Option.some.inj ei1
  obtain ⟨i2, ei2⟩ := is_v g7
  obtain rfl : w2 = (.int i2) := Option.some.inj ei2
  obtain ⟨i3, ei3⟩ := is_v g9
  obtain rfl : w3 = (.int i3) := Option.some.inj ei3
  obtain ⟨i4, ei4⟩ := is_v g10
  obtain rfl : w4 = (.int i4) := Option.some.inj ei4
  obtain ⟨n, o, h1, h2, h3, _, L, rfl, ⟨rfl, N⟩, hq⟩ := m0 l s _ (fun i {d} h => hw d (List.mem_of_getElem? h)) i0 i1 i2 i3 i4 s.heap s.heap.size (Nat.le_refl _) p e ha hc hk s m _ below hf ((Spec.applies_iff_loose hf).mp happ).1 ⟨rfl, State.Warmed39.refl s, rfl⟩ trivial
  refine ⟨n, _, h1, h2, h3, hpost _ _ _ _ _ _ ⟨Cond.after_iff.mpr rfl, Cond.after_iff.mpr (eq_i res_at (Term.int_eval (1)) rfl), trivial⟩ ⟨hq.1, hq.2.1, (hq.2.2.sift fun y hy => Or.inr (N y hy)).mono (by decide) (by decide)⟩⟩
theorem main_1_1 : Claimed_1_1 := comes_1 fun _ _ _ _ _ _ h hF => ⟨h.1, hF⟩
theorem main_1_2 : Claimed_1_2 := comes_1 fun _ _ _ _ _ _ h hF => ⟨h.2.1, hF⟩
end Jvm.Pilot.@@N@@
namespace Jvm.Pilot.@@N@@
open Jvm Jvm.ClassFile Sem Op Lib Jvm.Free Jvm.Stand Jvm.Pilot.@@N@@.Jvm.D
/-! MADE BY PROGRAM (witnessworld.py) out of the Statement's table words and the real class files: 14 classes; the members and pool entries that the words name. The judged class is class 1, her method 1. -/
namespace start1
open Jvm.ClassFile
def u (s : String) : CpInfo := .utf8 (stringToUtf16 s)
/-- a pool by its gaps: so many unusable entries, then the entry; so many at the end -/
def gap : Nat → List CpInfo → List CpInfo
  | 0, r => r
  | n + 1, r => .unusable :: gap n r
def poolList (es : List (Nat × CpInfo)) (last : Nat) : List CpInfo := es.foldr (fun e r => gap e.1 (e.2 :: r)) (gap last [])
def pool (es : List (Nat × CpInfo)) (last : Nat) : Array CpInfo := ⟨poolList es last⟩
def fileOf (pool : Array CpInfo) (this : Nat) (attrs : Array Attribute := #[]) (ms : Array MethodInfo := #[]) (fl : Nat := 33) (sup : Nat := 0) (ifs : Array Nat := #[]) (fds : Array FieldInfo := #[]) : ClassFile where
  minorVersion := 0
  majorVersion := 65
  constantPool := pool
  accessFlags := fl
  thisClass := this
  superClass := sup
  interfaces := ifs
  fields := fds
  methods := ms
  attributes := attrs
def plain (name : String) (sup : Option ClassId) : Class where
  name := name
  kind := .ordinary
  loader := none
  accessFlags := 33
  super := sup
  interfaces := #[]
  cf := none
  fields := #[]
  methods := #[]
  instanceTypes := #[]
  staticTypes := #[]
  resolved := #[]
  callSites := []
  init := .initialized
  statics := none
  mirror := none

def pool0 : Array CpInfo := pool [(5, u "<init>"), (0, u "()V"), (1, .class_ 10), (1, u "java/lang/Object")] 113

def k0c0 : Code := { maxStack := 0, maxLocals := 1, code := object_method_1_code, exceptionTable := #[], attributes := #[] }
def k0m0 : Method := { name := "<init>", desc := "()V", sig := { parameters := [], returnType := none }, accessFlags := 1, code := some k0c0 }
/-- java/lang/Object -/
def k0 : Class := { plain "java/lang/Object" none with
  accessFlags := 33
  interfaces := #[]
  cf := some (fileOf pool0 8 #[] #[{ accessFlags := 1, nameIndex := 5, descriptorIndex := 6, attributes := #[] }] 33 0 #[] #[])
  fields := #[]
  methods := #[k0m0]
  instanceTypes := #[]
  staticTypes := #[]
  resolved := Array.replicate 124 none
  statics := none }

def pool1 : Array CpInfo := pool [(2, .class_ 4), (1, u "java/lang/Object"), (0, u "<init>"), (0, u "()V"), (0, .class_ 8), (0, u "com/example/leveler/leveler/leveling/DistanceQueue"), (0, .methodref 7 10), (0, .nameAndType 5 11), (0, u "(I)V"), (0, .methodref 7 13), (0, .nameAndType 14 15), (0, u "add"), (0, u "(II)V"), (0, .methodref 7 17), (0, .nameAndType 18 19), (0, u "isEmpty"), (0, u "()Z"), (0, .methodref 21 22), (0, .class_ 23), (0, .nameAndType 24 25), (0, u "java/lang/Math"), (0, u "min"), (0, u "(II)I"), (0, .methodref 7 27), (0, .nameAndType 28 29), (0, u "take"), (0, u "()I"), (0, .methodref 7 31), (0, .nameAndType 32 6), (0, u "clear"), (0, .class_ 34), (0, u "com/example/leveler/leveler/leveling/DistanceQueueIsEmptyPinLaw"), (2, u "law"), (0, u "(IIIII)Z")] 3

def k1m0 : Method := { name := "<init>", desc := "()V", sig := { parameters := [], returnType := none }, accessFlags := 1, code := none }
def k1c1 : Code := { maxStack := 4, maxLocals := 9, code := code, exceptionTable := #[], attributes := #[] }
def k1m1 : Method := { name := "law", desc := "(IIIII)Z", sig := { parameters := [.int, .int, .int, .int, .int], returnType := some .boolean }, accessFlags := 9, code := some k1c1 }
/-- com/example/leveler/leveler/leveling/DistanceQueueIsEmptyPinLaw -/
def k1 : Class := { plain "com/example/leveler/leveler/leveling/DistanceQueueIsEmptyPinLaw" (some 0) with
  accessFlags := 49
  interfaces := #[]
  cf := some (fileOf pool1 33 #[] #[{ accessFlags := 1, nameIndex := 5, descriptorIndex := 6, attributes := #[] }, { accessFlags := 9, nameIndex := 37, descriptorIndex := 38, attributes := #[] }] 49 2 #[] #[])
  fields := #[]
  methods := #[k1m0, k1m1]
  instanceTypes := #[]
  staticTypes := #[]
  resolved := Array.replicate 42 none
  statics := none }

def pool2 : Array CpInfo := pool [(1, .methodref 2 3), (0, .class_ 4), (0, .nameAndType 5 6), (0, u "java/lang/Object"), (0, u "<init>"), (0, u "()V"), (0, .methodref 8 9), (0, .class_ 10), (0, .nameAndType 11 12), (0, u "java/lang/Math"), (0, u "max"), (0, u "(II)I"), (0, .fieldref 14 15), (0, .class_ 16), (0, .nameAndType 17 18), (0, u "com/example/leveler/leveler/leveling/DistanceQueue"), (0, u "keys"), (0, u "[J"), (0, .fieldref 14 20), (0, .nameAndType 21 22), (0, u "nodes"), (0, u "[I"), (0, .fieldref 14 24), (0, .nameAndType 25 26), (0, u "size"), (0, u "I"), (0, .fieldref 14 28), (0, .nameAndType 29 26), (0, u "added"), (0, .fieldref 14 31), (0, .nameAndType 32 33), (0, u "steps"), (0, u "J"), (0, .methodref 35 36), (0, .class_ 37), (0, .nameAndType 38 39), (0, u "java/util/Arrays"), (0, u "copyOf"), (0, u "([JI)[J"), (0, .methodref 35 41), (0, .nameAndType 38 42), (0, u "([II)[I"), (0, .methodref 14 44), (0, .nameAndType 45 6), (0, u "requireEntry"), (7, u "(I)V"), (2, u "clear"), (0, u "isEmpty"), (0, u "()Z"), (2, u "add"), (0, u "(II)V"), (1, u "()I"), (1, u "take")] 2

def k2c0 : Code := { maxStack := 3, maxLocals := 2, code := prog_47_method_1_code, exceptionTable := #[], attributes := #[] }
def k2m0 : Method := { name := "<init>", desc := "(I)V", sig := { parameters := [.int], returnType := none }, accessFlags := 0, code := some k2c0 }
def k2c1 : Code := { maxStack := 2, maxLocals := 1, code := prog_47_method_2_code, exceptionTable := #[], attributes := #[] }
def k2m1 : Method := { name := "clear", desc := "()V", sig := { parameters := [], returnType := none }, accessFlags := 0, code := some k2c1 }
def k2c2 : Code := { maxStack := 1, maxLocals := 1, code := prog_47_method_3_code, exceptionTable := #[], attributes := #[] }
def k2m2 : Method := { name := "isEmpty", desc := "()Z", sig := { parameters := [], returnType := some .boolean }, accessFlags := 0, code := some k2c2 }
def k2c3 : Code := { maxStack := 6, maxLocals := 6, code := prog_47_method_5_code, exceptionTable := #[], attributes := #[] }
def k2m3 : Method := { name := "add", desc := "(II)V", sig := { parameters := [.int, .int], returnType := none }, accessFlags := 0, code := some k2c3 }
def k2c4 : Code := { maxStack := 5, maxLocals := 7, code := prog_47_method_8_code, exceptionTable := #[], attributes := #[] }
def k2m4 : Method := { name := "take", desc := "()I", sig := { parameters := [], returnType := some .int }, accessFlags := 0, code := some k2c4 }
def k2c5 : Code := { maxStack := 3, maxLocals := 1, code := prog_47_method_9_code, exceptionTable := #[], attributes := #[] }
def k2m5 : Method := { name := "requireEntry", desc := "()V", sig := { parameters := [], returnType := none }, accessFlags := 2, code := some k2c5 }
/-- com/example/leveler/leveler/leveling/DistanceQueue -/
def k2 : Class := { plain "com/example/leveler/leveler/leveling/DistanceQueue" (some 0) with
  accessFlags := 48
  interfaces := #[]
  cf := some (fileOf pool2 14 #[] #[{ accessFlags := 0, nameIndex := 5, descriptorIndex := 53, attributes := #[] }, { accessFlags := 0, nameIndex := 56, descriptorIndex := 6, attributes := #[] }, { accessFlags := 0, nameIndex := 57, descriptorIndex := 58, attributes := #[] }, { accessFlags := 0, nameIndex := 61, descriptorIndex := 62, attributes := #[] }, { accessFlags := 0, nameIndex := 66, descriptorIndex := 64, attributes := #[] }, { accessFlags := 2, nameIndex := 45, descriptorIndex := 6, attributes := #[] }] 48 2 #[] #[{ accessFlags := 2, nameIndex := 17, descriptorIndex := 18, attributes := #[] }, { accessFlags := 2, nameIndex := 21, descriptorIndex := 22, attributes := #[] }, { accessFlags := 2, nameIndex := 25, descriptorIndex := 26, attributes := #[] }, { accessFlags := 2, nameIndex := 29, descriptorIndex := 26, attributes := #[] }, { accessFlags := 2, nameIndex := 32, descriptorIndex := 33, attributes := #[] }])
  fields := #[{ name := "keys", type := (.array .long), accessFlags := 2, slot := 0, constantValue := 0 }, { name := "nodes", type := (.array .int), accessFlags := 2, slot := 1, constantValue := 0 }, { name := "size", type := .int, accessFlags := 2, slot := 2, constantValue := 0 }, { name := "added", type := .int, accessFlags := 2, slot := 3, constantValue := 0 }, { name := "steps", type := .long, accessFlags := 2, slot := 4, constantValue := 0 }]
  methods := #[k2m0, k2m1, k2m2, k2m3, k2m4, k2m5]
  instanceTypes := #[(.array .long), (.array .int), .int, .int, .long]
  staticTypes := #[]
  resolved := Array.replicate 69 none
  statics := none }

def pool3 : Array CpInfo := pool [(1, .class_ 2), (0, u "java/lang/Math"), (1, .class_ 6), (1, u "java/lang/Object"), (0, u "<init>"), (0, u "()V"), (89, .class_ 100), (1, u "java/lang/Math$RandomNumberGeneratorHolder"), (71, u "negativeZeroFloatBits"), (0, u "J"), (2, u "negativeZeroDoubleBits"), (21, u "max"), (2, u "min"), (43, u "$assertionsDisabled"), (0, u "Z"), (88, u "(II)I"), (2, u "twoToTheDoubleScaleDown"), (0, u "D"), (4, u "twoToTheDoubleScaleUp"), (9, u "E"), (3, u "PI"), (2, u "TAU"), (2, u "DEGREES_TO_RADIANS"), (0, u "RADIANS_TO_DEGREES")] 94

def k3m0 : Method := { name := "<init>", desc := "()V", sig := { parameters := [], returnType := none }, accessFlags := 2, code := none }
def k3c1 : Code := { maxStack := 2, maxLocals := 2, code := jdk_29_method_65_code, exceptionTable := #[], attributes := #[] }
def k3m1 : Method := { name := "max", desc := "(II)I", sig := { parameters := [.int, .int], returnType := some .int }, accessFlags := 9, code := some k3c1 }
def k3c2 : Code := { maxStack := 2, maxLocals := 2, code := jdk_29_method_69_code, exceptionTable := #[], attributes := #[] }
def k3m2 : Method := { name := "min", desc := "(II)I", sig := { parameters := [.int, .int], returnType := some .int }, accessFlags := 9, code := some k3c2 }
/-- java/lang/Math -/
def k3 : Class := { plain "java/lang/Math" (some 0) with
  accessFlags := 49
  interfaces := #[]
  cf := some (fileOf pool3 1 #[.nestMembers #[98]] #[{ accessFlags := 2, nameIndex := 7, descriptorIndex := 8, attributes := #[] }, { accessFlags := 9, nameIndex := 198, descriptorIndex := 335, attributes := #[] }, { accessFlags := 9, nameIndex := 201, descriptorIndex := 335, attributes := #[] }] 49 4 #[] #[{ accessFlags := 25, nameIndex := 354, descriptorIndex := 339, attributes := #[] }, { accessFlags := 25, nameIndex := 358, descriptorIndex := 339, attributes := #[] }, { accessFlags := 25, nameIndex := 361, descriptorIndex := 339, attributes := #[] }, { accessFlags := 26, nameIndex := 364, descriptorIndex := 339, attributes := #[] }, { accessFlags := 26, nameIndex := 365, descriptorIndex := 339, attributes := #[] }, { accessFlags := 26, nameIndex := 172, descriptorIndex := 173, attributes := #[] }, { accessFlags := 26, nameIndex := 176, descriptorIndex := 173, attributes := #[] }, { accessFlags := 8, nameIndex := 344, descriptorIndex := 339, attributes := #[] }, { accessFlags := 8, nameIndex := 338, descriptorIndex := 339, attributes := #[] }, { accessFlags := 4120, nameIndex := 245, descriptorIndex := 246, attributes := #[] }])
  fields := #[{ name := "E", type := .double, accessFlags := 25, slot := 0, constantValue := 0 }, { name := "PI", type := .double, accessFlags := 25, slot := 1, constantValue := 0 }, { name := "TAU", type := .double, accessFlags := 25, slot := 2, constantValue := 0 }, { name := "DEGREES_TO_RADIANS", type := .double, accessFlags := 26, slot := 3, constantValue := 0 }, { name := "RADIANS_TO_DEGREES", type := .double, accessFlags := 26, slot := 4, constantValue := 0 }, { name := "negativeZeroFloatBits", type := .long, accessFlags := 26, slot := 5, constantValue := 0 }, { name := "negativeZeroDoubleBits", type := .long, accessFlags := 26, slot := 6, constantValue := 0 }, { name := "twoToTheDoubleScaleUp", type := .double, accessFlags := 8, slot := 7, constantValue := 0 }, { name := "twoToTheDoubleScaleDown", type := .double, accessFlags := 8, slot := 8, constantValue := 0 }, { name := "$assertionsDisabled", type := .boolean, accessFlags := 4120, slot := 9, constantValue := 0 }]
  methods := #[k3m0, k3m1, k3m2]
  instanceTypes := #[]
  staticTypes := #[.double, .double, .double, .double, .double, .long, .long, .double, .double, .boolean]
  resolved := Array.replicate 460 none
  statics := none }

def pool4 : Array CpInfo := pool [(2, .class_ 4), (1, u "java/lang/Object"), (0, u "<init>"), (0, u "()V"), (7, .class_ 16), (1, u "java/util/Arrays"), (57, .class_ 76), (1, u "java/util/Arrays$NaturalOrder"), (36, .class_ 115), (1, u "java/util/Arrays$LegacyMergeSort"), (1, u "Z"), (32, .methodref 151 152), (0, .class_ 153), (0, .nameAndType 154 155), (0, u "java/lang/System"), (0, u "arraycopy"), (0, u "(Ljava/lang/Object;ILjava/lang/Object;II)V"), (146, u "copyOf"), (1, .methodref 305 306), (0, .class_ 307), (0, .nameAndType 308 309), (0, u "java/lang/Math"), (0, u "min"), (0, u "(II)I"), (65, .class_ 376), (0, u "java/util/Arrays$ArrayList"), (68, u "$assertionsDisabled"), (269, u "MIN_ARRAY_SORT_GRAN"), (0, u "I"), (2, u "INSERTIONSORT_THRESHOLD"), (151, u "([II)[I"), (0, u "([JI)[J"), (102, .class_ 976), (0, u "java/util/Arrays$ArrayItr")] 52

def k4m0 : Method := { name := "<init>", desc := "()V", sig := { parameters := [], returnType := none }, accessFlags := 2, code := none }
def k4c1 : Code := { maxStack := 6, maxLocals := 3, code := jdk_65_method_123_code, exceptionTable := #[], attributes := #[] }
def k4m1 : Method := { name := "copyOf", desc := "([II)[I", sig := { parameters := [(.array .int), .int], returnType := some (.array .int) }, accessFlags := 9, code := some k4c1 }
def k4c2 : Code := { maxStack := 6, maxLocals := 3, code := jdk_65_method_124_code, exceptionTable := #[], attributes := #[] }
def k4m2 : Method := { name := "copyOf", desc := "([JI)[J", sig := { parameters := [(.array .long), .int], returnType := some (.array .long) }, accessFlags := 9, code := some k4c2 }
/-- java/util/Arrays -/
def k4 : Class := { plain "java/util/Arrays" (some 0) with
  accessFlags := 49
  interfaces := #[]
  cf := some (fileOf pool4 14 #[.nestMembers #[975, 375, 113, 74]] #[{ accessFlags := 2, nameIndex := 5, descriptorIndex := 6, attributes := #[] }, { accessFlags := 9, nameIndex := 302, descriptorIndex := 871, attributes := #[] }, { accessFlags := 9, nameIndex := 302, descriptorIndex := 872, attributes := #[] }] 49 2 #[] #[{ accessFlags := 26, nameIndex := 715, descriptorIndex := 716, attributes := #[] }, { accessFlags := 26, nameIndex := 719, descriptorIndex := 716, attributes := #[] }, { accessFlags := 4120, nameIndex := 445, descriptorIndex := 117, attributes := #[] }])
  fields := #[{ name := "MIN_ARRAY_SORT_GRAN", type := .int, accessFlags := 26, slot := 0, constantValue := 0 }, { name := "INSERTIONSORT_THRESHOLD", type := .int, accessFlags := 26, slot := 1, constantValue := 0 }, { name := "$assertionsDisabled", type := .boolean, accessFlags := 4120, slot := 2, constantValue := 0 }]
  methods := #[k4m0, k4m1, k4m2]
  instanceTypes := #[]
  staticTypes := #[.int, .int, .boolean]
  resolved := Array.replicate 1029 none
  statics := none }

def pool5 : Array CpInfo := pool [(2, .class_ 4), (1, u "java/lang/Object"), (0, u "<init>"), (0, u "()V"), (1, .class_ 10), (1, u "java/lang/System"), (0, u "allowSecurityManager"), (0, u "I"), (16, u "cons"), (0, u "Ljava/io/Console;"), (77, .class_ 110), (1, u "java/lang/System$CallersHolder"), (43, u "initialErrStream"), (0, u "Ljava/io/PrintStream;"), (19, u "security"), (0, u "Ljava/lang/SecurityManager;"), (31, .class_ 209), (0, u "java/lang/System$1"), (7, u "props"), (0, u "Ljava/util/Properties;"), (2, u "lineSeparator"), (0, u "Ljava/lang/String;"), (96, .class_ 321), (1, u "java/lang/System$LoggerFinder"), (5, .class_ 328), (0, u "java/lang/System$Logger"), (67, u "err"), (2, u "out"), (91, u "notSupportedJnuEncoding"), (15, u "in"), (17, u "initialIn"), (0, u "Ljava/io/InputStream;"), (35, u "bootLayer"), (0, u "Ljava/lang/ModuleLayer;"), (99, .class_ 664), (0, u "java/lang/System$2"), (9, u "NEVER"), (2, u "MAYBE"), (49, u "arraycopy"), (0, u "(Ljava/lang/Object;ILjava/lang/Object;II)V"), (72, .class_ 802), (0, u "java/lang/System$Logger$Level")] 31

def k5m0 : Method := { name := "<init>", desc := "()V", sig := { parameters := [], returnType := none }, accessFlags := 2, code := none }
def k5m1 : Method := { name := "arraycopy", desc := "(Ljava/lang/Object;ILjava/lang/Object;II)V", sig := { parameters := [(.object "java/lang/Object"), .int, (.object "java/lang/Object"), .int, .int], returnType := none }, accessFlags := 265, code := none }
/-- java/lang/System -/
def k5 : Class := { plain "java/lang/System" (some 0) with
  accessFlags := 49
  interfaces := #[]
  cf := some (fileOf pool5 8 #[.nestMembers #[319, 327, 801, 108, 663, 208]] #[{ accessFlags := 2, nameIndex := 5, descriptorIndex := 6, attributes := #[] }, { accessFlags := 265, nameIndex := 727, descriptorIndex := 728, attributes := #[] }] 49 2 #[] #[{ accessFlags := 25, nameIndex := 507, descriptorIndex := 526, attributes := #[] }, { accessFlags := 25, nameIndex := 399, descriptorIndex := 155, attributes := #[] }, { accessFlags := 25, nameIndex := 396, descriptorIndex := 155, attributes := #[] }, { accessFlags := 10, nameIndex := 525, descriptorIndex := 526, attributes := #[] }, { accessFlags := 26, nameIndex := 674, descriptorIndex := 12, attributes := #[] }, { accessFlags := 26, nameIndex := 677, descriptorIndex := 12, attributes := #[] }, { accessFlags := 10, nameIndex := 11, descriptorIndex := 12, attributes := #[] }, { accessFlags := 74, nameIndex := 175, descriptorIndex := 176, attributes := #[] }, { accessFlags := 10, nameIndex := 491, descriptorIndex := 222, attributes := #[] }, { accessFlags := 74, nameIndex := 29, descriptorIndex := 30, attributes := #[] }, { accessFlags := 74, nameIndex := 154, descriptorIndex := 155, attributes := #[] }, { accessFlags := 10, nameIndex := 217, descriptorIndex := 218, attributes := #[] }, { accessFlags := 10, nameIndex := 221, descriptorIndex := 222, attributes := #[] }, { accessFlags := 8, nameIndex := 562, descriptorIndex := 563, attributes := #[] }])
  fields := #[{ name := "in", type := (.object "java/io/InputStream"), accessFlags := 25, slot := 0, constantValue := 0 }, { name := "out", type := (.object "java/io/PrintStream"), accessFlags := 25, slot := 1, constantValue := 0 }, { name := "err", type := (.object "java/io/PrintStream"), accessFlags := 25, slot := 2, constantValue := 0 }, { name := "initialIn", type := (.object "java/io/InputStream"), accessFlags := 10, slot := 3, constantValue := 0 }, { name := "NEVER", type := .int, accessFlags := 26, slot := 4, constantValue := 0 }, { name := "MAYBE", type := .int, accessFlags := 26, slot := 5, constantValue := 0 }, { name := "allowSecurityManager", type := .int, accessFlags := 10, slot := 6, constantValue := 0 }, { name := "security", type := (.object "java/lang/SecurityManager"), accessFlags := 74, slot := 7, constantValue := 0 }, { name := "notSupportedJnuEncoding", type := (.object "java/lang/String"), accessFlags := 10, slot := 8, constantValue := 0 }, { name := "cons", type := (.object "java/io/Console"), accessFlags := 74, slot := 9, constantValue := 0 }, { name := "initialErrStream", type := (.object "java/io/PrintStream"), accessFlags := 74, slot := 10, constantValue := 0 }, { name := "props", type := (.object "java/util/Properties"), accessFlags := 10, slot := 11, constantValue := 0 }, { name := "lineSeparator", type := (.object "java/lang/String"), accessFlags := 10, slot := 12, constantValue := 0 }, { name := "bootLayer", type := (.object "java/lang/ModuleLayer"), accessFlags := 8, slot := 13, constantValue := 0 }]
  methods := #[k5m0, k5m1]
  instanceTypes := #[]
  staticTypes := #[(.object "java/io/InputStream"), (.object "java/io/PrintStream"), (.object "java/io/PrintStream"), (.object "java/io/InputStream"), .int, .int, .int, (.object "java/lang/SecurityManager"), (.object "java/lang/String"), (.object "java/io/Console"), (.object "java/io/PrintStream"), (.object "java/util/Properties"), (.object "java/lang/String"), (.object "java/lang/ModuleLayer")]
  resolved := Array.replicate 834 none
  statics := none }

def pool6 : Array CpInfo := pool [(1, u "java/lang/Cloneable"), (0, .class_ 1), (0, u "java/lang/Object"), (0, .class_ 3)] 3

/-- java/lang/Cloneable -/
def k6 : Class := { plain "java/lang/Cloneable" (some 0) with
  accessFlags := 1537
  interfaces := #[]
  cf := some (fileOf pool6 2 #[] #[] 1537 4 #[] #[])
  fields := #[]
  methods := #[]
  instanceTypes := #[]
  staticTypes := #[]
  resolved := Array.replicate 8 none
  statics := none }

def pool7 : Array CpInfo := pool [(1, u "java/io/Serializable"), (0, .class_ 1), (0, u "java/lang/Object"), (0, .class_ 3)] 3

/-- java/io/Serializable -/
def k7 : Class := { plain "java/io/Serializable" (some 0) with
  accessFlags := 1537
  interfaces := #[]
  cf := some (fileOf pool7 2 #[] #[] 1537 4 #[] #[])
  fields := #[]
  methods := #[]
  instanceTypes := #[]
  staticTypes := #[]
  resolved := Array.replicate 8 none
  statics := none }

/-- the primitive byte -/
def k8 : Class := { plain "byte" none with kind := .primitive 'B', accessFlags := 0x411 }
/-- [B -/
def k9 : Class := { plain "[B" (some 0) with kind := .array 8 .byte, interfaces := #[6, 7], accessFlags := 1041 }

/-- the primitive int -/
def k10 : Class := { plain "int" none with kind := .primitive 'I', accessFlags := 0x411 }
/-- [I -/
def k11 : Class := { plain "[I" (some 0) with kind := .array 10 .int, interfaces := #[6, 7], accessFlags := 1041 }

/-- the primitive long -/
def k12 : Class := { plain "long" none with kind := .primitive 'J', accessFlags := 0x411 }
/-- [J -/
def k13 : Class := { plain "[J" (some 0) with kind := .array 12 .long, interfaces := #[6, 7], accessFlags := 1041 }

def heap : Heap := #[]
def classes : Array Class := #[k0, k1, k2, k3, k4, k5, k6, k7, k8, k9, k10, k11, k12, k13]
def interned : List (Array UInt16 × Addr) := []
def slotsUsed : Nat := 0
def theMethod : MethodId := ⟨1, 1⟩
def args0 : Array Value := #[.int 1, .int 2, .int 3, .int 4, .int 5]
def aboutOver (below : List Frame) : State where
  vm := { classes := classes, interned := interned.toArray }
  heap := heap
  slotsUsed := slotsUsed
  threads := #[{ frames := .invoking theMethod args0 :: below }]
def below0 : List Frame := [.native { method := ⟨0, 0⟩, args := #[] }]
def about1 : State := aboutOver below0
def p0 : Program := .bare "" "" ""
def e0 : Env := launch0.env 0 0 0
theorem w_frames : about1.frames = Frame.invoking theMethod args0 :: below0 := rfl
set_option maxRecDepth 65536 in
theorem w_args : argsFit about1.vm theMethod args0 = true := by decide +kernel
set_option maxRecDepth 65536 in
theorem w_heap : heapFits about1 = true := by decide +kernel
set_option maxRecDepth 65536 in
theorem w_runnable : about1.curStatus? = some .runnable := by decide +kernel
set_option maxRecDepth 65536 in
theorem w_alone : about1.alone = true := by decide +kernel
set_option maxRecDepth 65536 in
theorem w_named : about1.methodNamed? x = some theMethod := by decide +kernel
set_option maxRecDepth 65536 in
theorem w_hears : about1.hears theMethod below0 = true := by decide +kernel
set_option maxRecDepth 65536 in
theorem w_ripe : about1.ripe theMethod args0 below0 = true := by decide +kernel
theorem w_running : about1.status = .running := rfl
set_option maxRecDepth 65536 in
theorem w_room : about1.hasRoom e0.platform room_1 = true :=
  launch0.hasRoom_least _ room_1 (by decide +kernel) (by decide +kernel) (by decide +kernel) (by decide +kernel) (by decide +kernel) (by decide +kernel)
theorem allAtoms_all (ts : List Jvm.Cond) (a : Array Jvm.Value) (st : Jvm.State) : (allAtoms ts).before a st = ts.all (fun c => c.before a st) := by
  induction ts with
  | nil => rfl
  | cons c t ih =>
    show (Jvm.Cond.and c (allAtoms t)).before a st = _
    rw [Jvm.Cond.before_and, ih, List.all_cons]
def words1 : List Jvm.Cond := Jvm.Cond.code x code maxLocals ret :: tables_1
/-- a 'code' word, met by the world's own term for the bytes: nothing is compared byte by byte -/
theorem code_word {y : MethodName} {bytes : ByteArray} {mx : Nat} {rt : Option FieldType} {a : Array Value} {s : State} {m : MethodId} {meth : Method} {c : Code} (h1 : s.methodNamed? y = some m) (h2 : s.vm.method? m = some meth) (h3 : meth.code = some c) (h4 : c.code = bytes)
    (h5 : (c.maxLocals == mx && c.exceptionTable.isEmpty && decide (c.maxStack ≤ mostOperands) && decide (meth.sig.returnType = rt) && !meth.locks && decide (parseMethodDescriptor y.desc = some meth.sig)) = true) : (Jvm.Cond.code y bytes mx rt).before a s = true := by
  simp only [Bool.and_eq_true, beq_iff_eq, Bool.not_eq_true', decide_eq_true_eq] at h5
  obtain ⟨⟨⟨⟨⟨g1, g2⟩, g3⟩, g4⟩, g5⟩, g6⟩ := h5
  simp [Cond.before, Cond.holds, Cond.value, h1, h2, h3, h4, g1, g2, g3, g4, g5, g6]
def isCode : Jvm.Cond → Bool
  | .code _ _ _ _ => true
  | _ => false
theorem all_split {L : List Jvm.Cond} {P : Jvm.Cond → Bool} (h1 : L.all (fun c => isCode c || P c) = true) (h2 : ∀ c ∈ L.filter isCode, P c = true) : L.all P = true := by
  refine List.all_eq_true.mpr fun c hc => ?_
  have h := List.all_eq_true.mp h1 c hc
  rcases Bool.eq_false_or_eq_true (isCode c) with hi | hi
  · exact h2 c (List.mem_filter.mpr ⟨hc, hi⟩)
  · simpa [hi] using h
set_option maxRecDepth 65536 in
theorem w_c0 : (Jvm.Cond.code x code maxLocals ret).before args0 about1 = true := code_word (m := ⟨1, 1⟩) (meth := k1m1) (c := k1c1) (by decide +kernel) rfl rfl rfl (by decide +kernel)
set_option maxRecDepth 65536 in
theorem w_c1 : (Jvm.Cond.code ({ cls := "com/example/leveler/leveler/leveling/DistanceQueue", name := "<init>", desc := "(I)V" } : Jvm.MethodName) prog_47_method_1_code (2 : Nat) (Option.none : Option Jvm.ClassFile.FieldType)).before args0 about1 = true := code_word (m := ⟨2, 0⟩) (meth := k2m0) (c := k2c0) (by decide +kernel) rfl rfl rfl (by decide +kernel)
set_option maxRecDepth 65536 in
theorem w_c2 : (Jvm.Cond.code ({ cls := "java/lang/Object", name := "<init>", desc := "()V" } : Jvm.MethodName) object_method_1_code (1 : Nat) (Option.none : Option Jvm.ClassFile.FieldType)).before args0 about1 = true := code_word (m := ⟨0, 0⟩) (meth := k0m0) (c := k0c0) (by decide +kernel) rfl rfl rfl (by decide +kernel)
set_option maxRecDepth 65536 in
theorem w_c3 : (Jvm.Cond.code ({ cls := "java/lang/Math", name := "max", desc := "(II)I" } : Jvm.MethodName) jdk_29_method_65_code (2 : Nat) (Option.some Jvm.ClassFile.FieldType.int)).before args0 about1 = true := code_word (m := ⟨3, 1⟩) (meth := k3m1) (c := k3c1) (by decide +kernel) rfl rfl rfl (by decide +kernel)
set_option maxRecDepth 65536 in
theorem w_c4 : (Jvm.Cond.code ({ cls := "com/example/leveler/leveler/leveling/DistanceQueue", name := "add", desc := "(II)V" } : Jvm.MethodName) prog_47_method_5_code (6 : Nat) (Option.none : Option Jvm.ClassFile.FieldType)).before args0 about1 = true := code_word (m := ⟨2, 3⟩) (meth := k2m3) (c := k2c3) (by decide +kernel) rfl rfl rfl (by decide +kernel)
set_option maxRecDepth 65536 in
theorem w_c5 : (Jvm.Cond.code ({ cls := "java/util/Arrays", name := "copyOf", desc := "([JI)[J" } : Jvm.MethodName) jdk_65_method_124_code (3 : Nat) (Option.some (Jvm.ClassFile.FieldType.array Jvm.ClassFile.FieldType.long))).before args0 about1 = true := code_word (m := ⟨4, 2⟩) (meth := k4m2) (c := k4c2) (by decide +kernel) rfl rfl rfl (by decide +kernel)
set_option maxRecDepth 65536 in
theorem w_c6 : (Jvm.Cond.code ({ cls := "java/lang/Math", name := "min", desc := "(II)I" } : Jvm.MethodName) jdk_29_method_69_code (2 : Nat) (Option.some Jvm.ClassFile.FieldType.int)).before args0 about1 = true := code_word (m := ⟨3, 2⟩) (meth := k3m2) (c := k3c2) (by decide +kernel) rfl rfl rfl (by decide +kernel)
set_option maxRecDepth 65536 in
theorem w_c7 : (Jvm.Cond.code ({ cls := "java/util/Arrays", name := "copyOf", desc := "([II)[I" } : Jvm.MethodName) jdk_65_method_123_code (3 : Nat) (Option.some (Jvm.ClassFile.FieldType.array Jvm.ClassFile.FieldType.int))).before args0 about1 = true := code_word (m := ⟨4, 1⟩) (meth := k4m1) (c := k4c1) (by decide +kernel) rfl rfl rfl (by decide +kernel)
set_option maxRecDepth 65536 in
theorem w_c8 : (Jvm.Cond.code ({ cls := "com/example/leveler/leveler/leveling/DistanceQueue", name := "isEmpty", desc := "()Z" } : Jvm.MethodName) prog_47_method_3_code (1 : Nat) (Option.some Jvm.ClassFile.FieldType.boolean)).before args0 about1 = true := code_word (m := ⟨2, 2⟩) (meth := k2m2) (c := k2c2) (by decide +kernel) rfl rfl rfl (by decide +kernel)
set_option maxRecDepth 65536 in
theorem w_c9 : (Jvm.Cond.code ({ cls := "com/example/leveler/leveler/leveling/DistanceQueue", name := "take", desc := "()I" } : Jvm.MethodName) prog_47_method_8_code (7 : Nat) (Option.some Jvm.ClassFile.FieldType.int)).before args0 about1 = true := code_word (m := ⟨2, 4⟩) (meth := k2m4) (c := k2c4) (by decide +kernel) rfl rfl rfl (by decide +kernel)
set_option maxRecDepth 65536 in
theorem w_c10 : (Jvm.Cond.code ({ cls := "com/example/leveler/leveler/leveling/DistanceQueue", name := "requireEntry", desc := "()V" } : Jvm.MethodName) prog_47_method_9_code (1 : Nat) (Option.none : Option Jvm.ClassFile.FieldType)).before args0 about1 = true := code_word (m := ⟨2, 5⟩) (meth := k2m5) (c := k2c5) (by decide +kernel) rfl rfl rfl (by decide +kernel)
set_option maxRecDepth 65536 in
theorem w_c11 : (Jvm.Cond.code ({ cls := "com/example/leveler/leveler/leveling/DistanceQueue", name := "clear", desc := "()V" } : Jvm.MethodName) prog_47_method_2_code (1 : Nat) (Option.none : Option Jvm.ClassFile.FieldType)).before args0 about1 = true := code_word (m := ⟨2, 1⟩) (meth := k2m1) (c := k2c1) (by decide +kernel) rfl rfl rfl (by decide +kernel)
def codes1 : List Jvm.Cond := [Jvm.Cond.code x code maxLocals ret, Jvm.Cond.code ({ cls := "com/example/leveler/leveler/leveling/DistanceQueue", name := "<init>", desc := "(I)V" } : Jvm.MethodName) prog_47_method_1_code (2 : Nat) (Option.none : Option Jvm.ClassFile.FieldType), Jvm.Cond.code ({ cls := "java/lang/Object", name := "<init>", desc := "()V" } : Jvm.MethodName) object_method_1_code (1 : Nat) (Option.none : Option Jvm.ClassFile.FieldType), Jvm.Cond.code ({ cls := "java/lang/Math", name := "max", desc := "(II)I" } : Jvm.MethodName) jdk_29_method_65_code (2 : Nat) (Option.some Jvm.ClassFile.FieldType.int), Jvm.Cond.code ({ cls := "com/example/leveler/leveler/leveling/DistanceQueue", name := "add", desc := "(II)V" } : Jvm.MethodName) prog_47_method_5_code (6 : Nat) (Option.none : Option Jvm.ClassFile.FieldType), Jvm.Cond.code ({ cls := "java/util/Arrays", name := "copyOf", desc := "([JI)[J" } : Jvm.MethodName) jdk_65_method_124_code (3 : Nat) (Option.some (Jvm.ClassFile.FieldType.array Jvm.ClassFile.FieldType.long)), Jvm.Cond.code ({ cls := "java/lang/Math", name := "min", desc := "(II)I" } : Jvm.MethodName) jdk_29_method_69_code (2 : Nat) (Option.some Jvm.ClassFile.FieldType.int), Jvm.Cond.code ({ cls := "java/util/Arrays", name := "copyOf", desc := "([II)[I" } : Jvm.MethodName) jdk_65_method_123_code (3 : Nat) (Option.some (Jvm.ClassFile.FieldType.array Jvm.ClassFile.FieldType.int)), Jvm.Cond.code ({ cls := "com/example/leveler/leveler/leveling/DistanceQueue", name := "isEmpty", desc := "()Z" } : Jvm.MethodName) prog_47_method_3_code (1 : Nat) (Option.some Jvm.ClassFile.FieldType.boolean), Jvm.Cond.code ({ cls := "com/example/leveler/leveler/leveling/DistanceQueue", name := "take", desc := "()I" } : Jvm.MethodName) prog_47_method_8_code (7 : Nat) (Option.some Jvm.ClassFile.FieldType.int), Jvm.Cond.code ({ cls := "com/example/leveler/leveler/leveling/DistanceQueue", name := "requireEntry", desc := "()V" } : Jvm.MethodName) prog_47_method_9_code (1 : Nat) (Option.none : Option Jvm.ClassFile.FieldType), Jvm.Cond.code ({ cls := "com/example/leveler/leveler/leveling/DistanceQueue", name := "clear", desc := "()V" } : Jvm.MethodName) prog_47_method_2_code (1 : Nat) (Option.none : Option Jvm.ClassFile.FieldType)]
set_option maxRecDepth 65536 in
theorem codes_eq : words1.filter isCode = codes1 := rfl
theorem w_codes : ∀ c ∈ words1.filter isCode, c.before args0 about1 = true := by
  rw [codes_eq]
  intro c hc
  simp only [codes1, List.mem_cons, List.not_mem_nil, or_false] at hc
  rcases hc with rfl | rfl | rfl | rfl | rfl | rfl | rfl | rfl | rfl | rfl | rfl | rfl
  · exact w_c0
  · exact w_c1
  · exact w_c2
  · exact w_c3
  · exact w_c4
  · exact w_c5
  · exact w_c6
  · exact w_c7
  · exact w_c8
  · exact w_c9
  · exact w_c10
  · exact w_c11
set_option maxRecDepth 65536 in
theorem w_t1 : (words1.take 24).all (fun c => isCode c || c.before args0 about1) = true := by decide +kernel
set_option maxRecDepth 65536 in
theorem w_t2 : ((words1.drop 24).take 24).all (fun c => isCode c || c.before args0 about1) = true := by decide +kernel
set_option maxRecDepth 65536 in
theorem w_t3 : ((words1.drop 24).drop 24).all (fun c => isCode c || c.before args0 about1) = true := by decide +kernel
theorem w_tables : (allAtoms (Jvm.Cond.code x code maxLocals ret :: tables_1)).before args0 about1 = true := by
  rw [allAtoms_all]
  show words1.all (fun c => c.before args0 about1) = true
  refine all_split ?_ w_codes
  rw [← List.take_append_drop 24 words1, List.all_append, w_t1, ← List.take_append_drop 24 (words1.drop 24), List.all_append, w_t2, w_t3]
  rfl
set_option maxRecDepth 65536 in
theorem w_case : (Jvm.Cond.and given_1 narrow_1).before args0 about1 = true := by decide +kernel
theorem w_applies : (headSpec (Jvm.Cond.code x code maxLocals ret :: tables_1) room_1).applies x e0.platform about1 = true :=
  (Spec.applies_iff w_frames).mpr ⟨w_running, w_runnable, w_alone, w_named, w_hears, w_ripe, w_room, w_tables⟩
theorem atStart : AtStart classFile x code maxLocals ret World_1 tables_1 room_1 Calls_1 rest_1 Pre_1 launch0 p0 e0 about1 theMethod args0 below0 :=
  ⟨lists_1, trivial, launch0.admits_env _ _ _, launch0.least_env, fairChoices_fair.cas, fairChoices_fair.clock, w_frames, w_args, w_heap, w_applies, trivial, trivial, w_case⟩
end start1
theorem witness_1 : WitnessClaimed_1 := ⟨start1.p0, start1.e0, start1.about1, start1.theMethod, start1.args0, start1.below0, start1.atStart⟩
end Jvm.Pilot.@@N@@
