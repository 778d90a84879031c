import JvmDerived
import JvmDerived.Pilot.@@N@@Statement
import JvmDerived.Pilot.@@N@@Code
set_option linter.unusedVariables false
set_option linter.unusedSimpArgs false
namespace Jvm.Own
open Jvm Sem ClassFile Op Lib Jvm.Stand Jvm.Free Jvm.LawKit Jvm.RoadKit Bundle
/-- from the state U on the body comes to its end, and what it leaves answers to Q -/
def Ends (tb : Tables) (e : Env) (below : List Frame) (s : State) (Q : Option Value → Heap → List Loc → Prop) (C S : Nat) (U : State) : Prop :=
  ∃ s₂ o, Steps tb e below U s₂ ∧ s₂.status = .running ∧ Ended s₂ below o ∧ ∃ v L, o = .returned v ∧ Q v s₂.heap L ∧ FrameEnd s o s₂ L C S
section Walk
variable {p : Program} {l : Launch} {e : Env} {R : Room} {s : State} {m : MethodId} {args : Array Value} {below : List Frame} {meth : Method} {c : Code} {T : State} {locs : List Loc} {cells slots : Nat} {Q : Option Value → Heap → List Loc → Prop} {C S : Nat} {pc : Nat} {Ls : Array Slot} {st : List Value} {Z : State} {a0 : Array Value} {h : Heap}
theorem Ends.step {tb : Tables} {U V : State} (k : Ends tb e below s Q C S V) (hs : ∀ t, Steps tb e below V t → Steps tb e below U t) : Ends tb e below s Q C S U := by
  obtain ⟨s₂, o, h1, r⟩ := k
  exact ⟨s₂, o, hs _ h1, r⟩
theorem Ends.mono {tb : Tables} {U : State} {Q' : Option Value → Heap → List Loc → Prop} (k : Ends tb e below s Q' C S U) (hq : ∀ v h L, Q' v h L → Q v h L) : Ends tb e below s Q C S U := by
  obtain ⟨s₂, o, h1, h2, h3, v, L, h4, h5, h6⟩ := k
  exact ⟨s₂, o, h1, h2, h3, v, L, h4, hq _ _ _ h5, h6⟩
theorem iload (n : Nat) (X : Stand p l e R s m args below meth c T locs cells slots) (hx : p.tables.exec = Jvm.exec) {k : Nat} {v : Int32} (hd : decode c.code pc = .ok (.iload k, 2)) (hn : pc + 2 = n) (hl : Ls[k]? = some (.val (.int v))) (K : Ends p.tables e below s Q C S (T.setTop (mkF m n Ls (.int v :: st)))) : Ends p.tables e below s Q C S (T.setTop (mkF m pc Ls (st))) := by
  subst hn; exact K.step fun t k => XS.iload (g := mkF m pc Ls (st)) X.here hx rfl hd hl k
theorem iloadN (n : Nat) (X : Stand p l e R s m args below meth c T locs cells slots) (hx : p.tables.exec = Jvm.exec) {k : Fin 4} {v : Int32} (hd : decode c.code pc = .ok (.iload_n k, 1)) (hn : pc + 1 = n) (hl : Ls[k.val]? = some (.val (.int v))) (K : Ends p.tables e below s Q C S (T.setTop (mkF m n Ls (.int v :: st)))) : Ends p.tables e below s Q C S (T.setTop (mkF m pc Ls (st))) := by
  subst hn; exact K.step fun t k => XS.iloadN (g := mkF m pc Ls (st)) X.here hx rfl hd hl k
theorem lload (n : Nat) (X : Stand p l e R s m args below meth c T locs cells slots) (hx : p.tables.exec = Jvm.exec) {k : Nat} {v : Int64} (hd : decode c.code pc = .ok (.lload k, 2)) (hn : pc + 2 = n) (hl : Ls[k]? = some (.val (.long v))) (K : Ends p.tables e below s Q C S (T.setTop (mkF m n Ls (.long v :: st)))) : Ends p.tables e below s Q C S (T.setTop (mkF m pc Ls (st))) := by
  subst hn; exact K.step fun t k => XS.lload (g := mkF m pc Ls (st)) X.here hx rfl hd hl k
theorem lloadN (n : Nat) (X : Stand p l e R s m args below meth c T locs cells slots) (hx : p.tables.exec = Jvm.exec) {k : Fin 4} {v : Int64} (hd : decode c.code pc = .ok (.lload_n k, 1)) (hn : pc + 1 = n) (hl : Ls[k.val]? = some (.val (.long v))) (K : Ends p.tables e below s Q C S (T.setTop (mkF m n Ls (.long v :: st)))) : Ends p.tables e below s Q C S (T.setTop (mkF m pc Ls (st))) := by
  subst hn; exact K.step fun t k => XS.lloadN (g := mkF m pc Ls (st)) X.here hx rfl hd hl k
theorem aload (n : Nat) (X : Stand p l e R s m args below meth c T locs cells slots) (hx : p.tables.exec = Jvm.exec) {k : Nat} {v : Value} (hd : decode c.code pc = .ok (.aload k, 2)) (hn : pc + 2 = n) (hl : Ls[k]? = some (.val v)) (hv : v.isRef = true) (K : Ends p.tables e below s Q C S (T.setTop (mkF m n Ls (v :: st)))) : Ends p.tables e below s Q C S (T.setTop (mkF m pc Ls (st))) := by
  subst hn; exact K.step fun t k => XS.aload (g := mkF m pc Ls (st)) X.here hx rfl hd hl hv k
theorem aloadN (n : Nat) (X : Stand p l e R s m args below meth c T locs cells slots) (hx : p.tables.exec = Jvm.exec) {k : Fin 4} {v : Value} (hd : decode c.code pc = .ok (.aload_n k, 1)) (hn : pc + 1 = n) (hl : Ls[k.val]? = some (.val v)) (hv : v.isRef = true) (K : Ends p.tables e below s Q C S (T.setTop (mkF m n Ls (v :: st)))) : Ends p.tables e below s Q C S (T.setTop (mkF m pc Ls (st))) := by
  subst hn; exact K.step fun t k => XS.aloadN (g := mkF m pc Ls (st)) X.here hx rfl hd hl hv k
theorem iconst (n : Nat) (X : Stand p l e R s m args below meth c T locs cells slots) (hx : p.tables.exec = Jvm.exec) {i : Int} (v : Int32) (hd : decode c.code pc = .ok (.iconst i, 1)) (hn : pc + 1 = n) (hv : Int32.ofInt i = v) (K : Ends p.tables e below s Q C S (T.setTop (mkF m n Ls (.int v :: st)))) : Ends p.tables e below s Q C S (T.setTop (mkF m pc Ls (st))) := by
  subst hn; exact K.step fun t k => XS.iconst (g := mkF m pc Ls (st)) X.here hx rfl hd (hv ▸ k)
theorem bipush (n : Nat) (X : Stand p l e R s m args below meth c T locs cells slots) (hx : p.tables.exec = Jvm.exec) {i : Int} (v : Int32) (hd : decode c.code pc = .ok (.bipush i, 2)) (hn : pc + 2 = n) (hv : (Int8.ofInt i).toInt32 = v) (K : Ends p.tables e below s Q C S (T.setTop (mkF m n Ls (.int v :: st)))) : Ends p.tables e below s Q C S (T.setTop (mkF m pc Ls (st))) := by
  subst hn; exact K.step fun t k => XS.bipush (g := mkF m pc Ls (st)) X.here hx rfl hd (hv ▸ k)
theorem sipush (n : Nat) (X : Stand p l e R s m args below meth c T locs cells slots) (hx : p.tables.exec = Jvm.exec) {i : Int} (v : Int32) (hd : decode c.code pc = .ok (.sipush i, 3)) (hn : pc + 3 = n) (hv : (Int16.ofInt i).toInt32 = v) (K : Ends p.tables e below s Q C S (T.setTop (mkF m n Ls (.int v :: st)))) : Ends p.tables e below s Q C S (T.setTop (mkF m pc Ls (st))) := by
  subst hn; exact K.step fun t k => XS.sipush (g := mkF m pc Ls (st)) X.here hx rfl hd (hv ▸ k)
theorem lconst (n : Nat) (X : Stand p l e R s m args below meth c T locs cells slots) (hx : p.tables.exec = Jvm.exec) {i : Fin 2} (v : Int64) (hd : decode c.code pc = .ok (.lconst i, 1)) (hn : pc + 1 = n) (hv : Int64.ofNat i = v) (K : Ends p.tables e below s Q C S (T.setTop (mkF m n Ls (.long v :: st)))) : Ends p.tables e below s Q C S (T.setTop (mkF m pc Ls (st))) := by
  subst hn; exact K.step fun t k => XS.lconst (g := mkF m pc Ls (st)) X.here hx rfl hd (hv ▸ k)
theorem aconstNull (n : Nat) (X : Stand p l e R s m args below meth c T locs cells slots) (hx : p.tables.exec = Jvm.exec)  (hd : decode c.code pc = .ok (.aconst_null, 1)) (hn : pc + 1 = n)  (K : Ends p.tables e below s Q C S (T.setTop (mkF m n Ls (.null :: st)))) : Ends p.tables e below s Q C S (T.setTop (mkF m pc Ls (st))) := by
  subst hn; exact K.step fun t k => XS.aconstNull (g := mkF m pc Ls (st)) X.here hx rfl hd k
theorem iadd (n : Nat) (X : Stand p l e R s m args below meth c T locs cells slots) (hx : p.tables.exec = Jvm.exec) {x y r : Int32} {rest : List Value} (hd : decode c.code pc = .ok (.iadd, 1)) (hn : pc + 1 = n) (hr : x + y = r) (K : Ends p.tables e below s Q C S (T.setTop (mkF m n Ls (.int r :: rest)))) : Ends p.tables e below s Q C S (T.setTop (mkF m pc Ls (.int y :: .int x :: rest))) := by
  subst hn; exact K.step fun t k => XS.iadd (g := mkF m pc Ls (.int y :: .int x :: rest)) X.here hx rfl hd rfl (hr ▸ k)
theorem isub (n : Nat) (X : Stand p l e R s m args below meth c T locs cells slots) (hx : p.tables.exec = Jvm.exec) {x y r : Int32} {rest : List Value} (hd : decode c.code pc = .ok (.isub, 1)) (hn : pc + 1 = n) (hr : x - y = r) (K : Ends p.tables e below s Q C S (T.setTop (mkF m n Ls (.int r :: rest)))) : Ends p.tables e below s Q C S (T.setTop (mkF m pc Ls (.int y :: .int x :: rest))) := by
  subst hn; exact K.step fun t k => XS.isub (g := mkF m pc Ls (.int y :: .int x :: rest)) X.here hx rfl hd rfl (hr ▸ k)
theorem iand (n : Nat) (X : Stand p l e R s m args below meth c T locs cells slots) (hx : p.tables.exec = Jvm.exec) {x y r : Int32} {rest : List Value} (hd : decode c.code pc = .ok (.iand, 1)) (hn : pc + 1 = n) (hr : x &&& y = r) (K : Ends p.tables e below s Q C S (T.setTop (mkF m n Ls (.int r :: rest)))) : Ends p.tables e below s Q C S (T.setTop (mkF m pc Ls (.int y :: .int x :: rest))) := by
  subst hn; exact K.step fun t k => XS.iand (g := mkF m pc Ls (.int y :: .int x :: rest)) X.here hx rfl hd rfl (hr ▸ k)
theorem imul (n : Nat) (X : Stand p l e R s m args below meth c T locs cells slots) (hx : p.tables.exec = Jvm.exec) {x y r : Int32} {rest : List Value} (hd : decode c.code pc = .ok (.imul, 1)) (hn : pc + 1 = n) (hr : x * y = r) (K : Ends p.tables e below s Q C S (T.setTop (mkF m n Ls (.int r :: rest)))) : Ends p.tables e below s Q C S (T.setTop (mkF m pc Ls (.int y :: .int x :: rest))) := by
  subst hn; exact K.step fun t k => XS.imul (g := mkF m pc Ls (.int y :: .int x :: rest)) X.here hx rfl hd rfl (hr ▸ k)
theorem ior (n : Nat) (X : Stand p l e R s m args below meth c T locs cells slots) (hx : p.tables.exec = Jvm.exec) {x y r : Int32} {rest : List Value} (hd : decode c.code pc = .ok (.ior, 1)) (hn : pc + 1 = n) (hr : x ||| y = r) (K : Ends p.tables e below s Q C S (T.setTop (mkF m n Ls (.int r :: rest)))) : Ends p.tables e below s Q C S (T.setTop (mkF m pc Ls (.int y :: .int x :: rest))) := by
  subst hn; exact K.step fun t k => XS.ior (g := mkF m pc Ls (.int y :: .int x :: rest)) X.here hx rfl hd rfl (hr ▸ k)
theorem ixor (n : Nat) (X : Stand p l e R s m args below meth c T locs cells slots) (hx : p.tables.exec = Jvm.exec) {x y r : Int32} {rest : List Value} (hd : decode c.code pc = .ok (.ixor, 1)) (hn : pc + 1 = n) (hr : x ^^^ y = r) (K : Ends p.tables e below s Q C S (T.setTop (mkF m n Ls (.int r :: rest)))) : Ends p.tables e below s Q C S (T.setTop (mkF m pc Ls (.int y :: .int x :: rest))) := by
  subst hn; exact K.step fun t k => XS.ixor (g := mkF m pc Ls (.int y :: .int x :: rest)) X.here hx rfl hd rfl (hr ▸ k)
theorem ishl (n : Nat) (X : Stand p l e R s m args below meth c T locs cells slots) (hx : p.tables.exec = Jvm.exec) {x y r : Int32} {rest : List Value} (hd : decode c.code pc = .ok (.ishl, 1)) (hn : pc + 1 = n) (hr : x <<< (y &&& 31) = r) (K : Ends p.tables e below s Q C S (T.setTop (mkF m n Ls (.int r :: rest)))) : Ends p.tables e below s Q C S (T.setTop (mkF m pc Ls (.int y :: .int x :: rest))) := by
  subst hn; exact K.step fun t k => XS.ishl (g := mkF m pc Ls (.int y :: .int x :: rest)) X.here hx rfl hd rfl (hr ▸ k)
theorem ishr (n : Nat) (X : Stand p l e R s m args below meth c T locs cells slots) (hx : p.tables.exec = Jvm.exec) {x y r : Int32} {rest : List Value} (hd : decode c.code pc = .ok (.ishr, 1)) (hn : pc + 1 = n) (hr : x >>> (y &&& 31) = r) (K : Ends p.tables e below s Q C S (T.setTop (mkF m n Ls (.int r :: rest)))) : Ends p.tables e below s Q C S (T.setTop (mkF m pc Ls (.int y :: .int x :: rest))) := by
  subst hn; exact K.step fun t k => XS.ishr (g := mkF m pc Ls (.int y :: .int x :: rest)) X.here hx rfl hd rfl (hr ▸ k)
theorem iushr (n : Nat) (X : Stand p l e R s m args below meth c T locs cells slots) (hx : p.tables.exec = Jvm.exec) {x y r : Int32} {rest : List Value} (hd : decode c.code pc = .ok (.iushr, 1)) (hn : pc + 1 = n) (hr : (x.toUInt32 >>> (y &&& 31).toUInt32).toInt32 = r) (K : Ends p.tables e below s Q C S (T.setTop (mkF m n Ls (.int r :: rest)))) : Ends p.tables e below s Q C S (T.setTop (mkF m pc Ls (.int y :: .int x :: rest))) := by
  subst hn; exact K.step fun t k => XS.iushr (g := mkF m pc Ls (.int y :: .int x :: rest)) X.here hx rfl hd rfl (hr ▸ k)
theorem ladd (n : Nat) (X : Stand p l e R s m args below meth c T locs cells slots) (hx : p.tables.exec = Jvm.exec) {x y r : Int64} {rest : List Value} (hd : decode c.code pc = .ok (.ladd, 1)) (hn : pc + 1 = n) (hr : x + y = r) (K : Ends p.tables e below s Q C S (T.setTop (mkF m n Ls (.long r :: rest)))) : Ends p.tables e below s Q C S (T.setTop (mkF m pc Ls (.long y :: .long x :: rest))) := by
  subst hn; exact K.step fun t k => XS.ladd (g := mkF m pc Ls (.long y :: .long x :: rest)) X.here hx rfl hd rfl (hr ▸ k)
theorem lsub (n : Nat) (X : Stand p l e R s m args below meth c T locs cells slots) (hx : p.tables.exec = Jvm.exec) {x y r : Int64} {rest : List Value} (hd : decode c.code pc = .ok (.lsub, 1)) (hn : pc + 1 = n) (hr : x - y = r) (K : Ends p.tables e below s Q C S (T.setTop (mkF m n Ls (.long r :: rest)))) : Ends p.tables e below s Q C S (T.setTop (mkF m pc Ls (.long y :: .long x :: rest))) := by
  subst hn; exact K.step fun t k => XS.lsub (g := mkF m pc Ls (.long y :: .long x :: rest)) X.here hx rfl hd rfl (hr ▸ k)
theorem land (n : Nat) (X : Stand p l e R s m args below meth c T locs cells slots) (hx : p.tables.exec = Jvm.exec) {x y r : Int64} {rest : List Value} (hd : decode c.code pc = .ok (.land, 1)) (hn : pc + 1 = n) (hr : x &&& y = r) (K : Ends p.tables e below s Q C S (T.setTop (mkF m n Ls (.long r :: rest)))) : Ends p.tables e below s Q C S (T.setTop (mkF m pc Ls (.long y :: .long x :: rest))) := by
  subst hn; exact K.step fun t k => XS.land (g := mkF m pc Ls (.long y :: .long x :: rest)) X.here hx rfl hd rfl (hr ▸ k)
theorem lmul (n : Nat) (X : Stand p l e R s m args below meth c T locs cells slots) (hx : p.tables.exec = Jvm.exec) {x y r : Int64} {rest : List Value} (hd : decode c.code pc = .ok (.lmul, 1)) (hn : pc + 1 = n) (hr : x * y = r) (K : Ends p.tables e below s Q C S (T.setTop (mkF m n Ls (.long r :: rest)))) : Ends p.tables e below s Q C S (T.setTop (mkF m pc Ls (.long y :: .long x :: rest))) := by
  subst hn; exact K.step fun t k => XS.lmul (g := mkF m pc Ls (.long y :: .long x :: rest)) X.here hx rfl hd rfl (hr ▸ k)
theorem lor (n : Nat) (X : Stand p l e R s m args below meth c T locs cells slots) (hx : p.tables.exec = Jvm.exec) {x y r : Int64} {rest : List Value} (hd : decode c.code pc = .ok (.lor, 1)) (hn : pc + 1 = n) (hr : x ||| y = r) (K : Ends p.tables e below s Q C S (T.setTop (mkF m n Ls (.long r :: rest)))) : Ends p.tables e below s Q C S (T.setTop (mkF m pc Ls (.long y :: .long x :: rest))) := by
  subst hn; exact K.step fun t k => XS.lor (g := mkF m pc Ls (.long y :: .long x :: rest)) X.here hx rfl hd rfl (hr ▸ k)
theorem lxor (n : Nat) (X : Stand p l e R s m args below meth c T locs cells slots) (hx : p.tables.exec = Jvm.exec) {x y r : Int64} {rest : List Value} (hd : decode c.code pc = .ok (.lxor, 1)) (hn : pc + 1 = n) (hr : x ^^^ y = r) (K : Ends p.tables e below s Q C S (T.setTop (mkF m n Ls (.long r :: rest)))) : Ends p.tables e below s Q C S (T.setTop (mkF m pc Ls (.long y :: .long x :: rest))) := by
  subst hn; exact K.step fun t k => XS.lxor (g := mkF m pc Ls (.long y :: .long x :: rest)) X.here hx rfl hd rfl (hr ▸ k)
theorem lshl (n : Nat) (X : Stand p l e R s m args below meth c T locs cells slots) (hx : p.tables.exec = Jvm.exec) {x r : Int64} {y : Int32} {rest : List Value} (hd : decode c.code pc = .ok (.lshl, 1)) (hn : pc + 1 = n) (hr : x <<< (y &&& 0x3f).toInt64 = r) (K : Ends p.tables e below s Q C S (T.setTop (mkF m n Ls (.long r :: rest)))) : Ends p.tables e below s Q C S (T.setTop (mkF m pc Ls (.int y :: .long x :: rest))) := by
  subst hn; exact K.step fun t k => XS.lshl (g := mkF m pc Ls (.int y :: .long x :: rest)) X.here hx rfl hd rfl (hr ▸ k)
theorem lshr (n : Nat) (X : Stand p l e R s m args below meth c T locs cells slots) (hx : p.tables.exec = Jvm.exec) {x r : Int64} {y : Int32} {rest : List Value} (hd : decode c.code pc = .ok (.lshr, 1)) (hn : pc + 1 = n) (hr : x >>> (y &&& 0x3f).toInt64 = r) (K : Ends p.tables e below s Q C S (T.setTop (mkF m n Ls (.long r :: rest)))) : Ends p.tables e below s Q C S (T.setTop (mkF m pc Ls (.int y :: .long x :: rest))) := by
  subst hn; exact K.step fun t k => XS.lshr (g := mkF m pc Ls (.int y :: .long x :: rest)) X.here hx rfl hd rfl (hr ▸ k)
theorem lushr (n : Nat) (X : Stand p l e R s m args below meth c T locs cells slots) (hx : p.tables.exec = Jvm.exec) {x r : Int64} {y : Int32} {rest : List Value} (hd : decode c.code pc = .ok (.lushr, 1)) (hn : pc + 1 = n) (hr : (x.toUInt64 >>> (y &&& 0x3f).toInt64.toUInt64).toInt64 = r) (K : Ends p.tables e below s Q C S (T.setTop (mkF m n Ls (.long r :: rest)))) : Ends p.tables e below s Q C S (T.setTop (mkF m pc Ls (.int y :: .long x :: rest))) := by
  subst hn; exact K.step fun t k => XS.lushr (g := mkF m pc Ls (.int y :: .long x :: rest)) X.here hx rfl hd rfl (hr ▸ k)
theorem idiv (n : Nat) (X : Stand p l e R s m args below meth c T locs cells slots) (hx : p.tables.exec = Jvm.exec) {x y r : Int32} {rest : List Value} (hd : decode c.code pc = .ok (.idiv, 1)) (hn : pc + 1 = n) (hy : y ≠ 0) (hr : x / y = r) (K : Ends p.tables e below s Q C S (T.setTop (mkF m n Ls (.int r :: rest)))) : Ends p.tables e below s Q C S (T.setTop (mkF m pc Ls (.int y :: .int x :: rest))) := by
  subst hn; exact K.step fun t k => XS.idiv (g := mkF m pc Ls (.int y :: .int x :: rest)) X.here hx rfl hd rfl hy (hr ▸ k)
theorem irem (n : Nat) (X : Stand p l e R s m args below meth c T locs cells slots) (hx : p.tables.exec = Jvm.exec) {x y r : Int32} {rest : List Value} (hd : decode c.code pc = .ok (.irem, 1)) (hn : pc + 1 = n) (hy : y ≠ 0) (hr : x % y = r) (K : Ends p.tables e below s Q C S (T.setTop (mkF m n Ls (.int r :: rest)))) : Ends p.tables e below s Q C S (T.setTop (mkF m pc Ls (.int y :: .int x :: rest))) := by
  subst hn; exact K.step fun t k => iremM (g := mkF m pc Ls (.int y :: .int x :: rest)) X hx rfl hd rfl hy (hr ▸ k)
theorem ldiv (n : Nat) (X : Stand p l e R s m args below meth c T locs cells slots) (hx : p.tables.exec = Jvm.exec) {x y r : Int64} {rest : List Value} (hd : decode c.code pc = .ok (.ldiv, 1)) (hn : pc + 1 = n) (hy : y ≠ 0) (hr : x / y = r) (K : Ends p.tables e below s Q C S (T.setTop (mkF m n Ls (.long r :: rest)))) : Ends p.tables e below s Q C S (T.setTop (mkF m pc Ls (.long y :: .long x :: rest))) := by
  subst hn; exact K.step fun t k => XS.ldiv (g := mkF m pc Ls (.long y :: .long x :: rest)) X.here hx rfl hd rfl hy (hr ▸ k)
theorem lrem (n : Nat) (X : Stand p l e R s m args below meth c T locs cells slots) (hx : p.tables.exec = Jvm.exec) {x y r : Int64} {rest : List Value} (hd : decode c.code pc = .ok (.lrem, 1)) (hn : pc + 1 = n) (hy : y ≠ 0) (hr : x % y = r) (K : Ends p.tables e below s Q C S (T.setTop (mkF m n Ls (.long r :: rest)))) : Ends p.tables e below s Q C S (T.setTop (mkF m pc Ls (.long y :: .long x :: rest))) := by
  subst hn; exact K.step fun t k => XS.lrem (g := mkF m pc Ls (.long y :: .long x :: rest)) X.here hx rfl hd rfl hy (by rw [lrem_mod, hr]; exact k)
theorem ineg (n : Nat) (X : Stand p l e R s m args below meth c T locs cells slots) (hx : p.tables.exec = Jvm.exec) {x : Int32} {r : Int32} {rest : List Value} (hd : decode c.code pc = .ok (.ineg, 1)) (hn : pc + 1 = n) (hr : -x = r) (K : Ends p.tables e below s Q C S (T.setTop (mkF m n Ls (.int r :: rest)))) : Ends p.tables e below s Q C S (T.setTop (mkF m pc Ls (.int x :: rest))) := by
  subst hn; exact K.step fun t k => XS.ineg (g := mkF m pc Ls (.int x :: rest)) X.here hx rfl hd rfl (hr ▸ k)
theorem lneg (n : Nat) (X : Stand p l e R s m args below meth c T locs cells slots) (hx : p.tables.exec = Jvm.exec) {x : Int64} {r : Int64} {rest : List Value} (hd : decode c.code pc = .ok (.lneg, 1)) (hn : pc + 1 = n) (hr : -x = r) (K : Ends p.tables e below s Q C S (T.setTop (mkF m n Ls (.long r :: rest)))) : Ends p.tables e below s Q C S (T.setTop (mkF m pc Ls (.long x :: rest))) := by
  subst hn; exact K.step fun t k => XS.lneg (g := mkF m pc Ls (.long x :: rest)) X.here hx rfl hd rfl (hr ▸ k)
theorem i2l (n : Nat) (X : Stand p l e R s m args below meth c T locs cells slots) (hx : p.tables.exec = Jvm.exec) {x : Int32} {r : Int64} {rest : List Value} (hd : decode c.code pc = .ok (.i2l, 1)) (hn : pc + 1 = n) (hr : x.toInt64 = r) (K : Ends p.tables e below s Q C S (T.setTop (mkF m n Ls (.long r :: rest)))) : Ends p.tables e below s Q C S (T.setTop (mkF m pc Ls (.int x :: rest))) := by
  subst hn; exact K.step fun t k => XS.i2l (g := mkF m pc Ls (.int x :: rest)) X.here hx rfl hd rfl (hr ▸ k)
theorem l2i (n : Nat) (X : Stand p l e R s m args below meth c T locs cells slots) (hx : p.tables.exec = Jvm.exec) {x : Int64} {r : Int32} {rest : List Value} (hd : decode c.code pc = .ok (.l2i, 1)) (hn : pc + 1 = n) (hr : x.toInt32 = r) (K : Ends p.tables e below s Q C S (T.setTop (mkF m n Ls (.int r :: rest)))) : Ends p.tables e below s Q C S (T.setTop (mkF m pc Ls (.long x :: rest))) := by
  subst hn; exact K.step fun t k => XS.l2i (g := mkF m pc Ls (.long x :: rest)) X.here hx rfl hd rfl (hr ▸ k)
theorem i2b (n : Nat) (X : Stand p l e R s m args below meth c T locs cells slots) (hx : p.tables.exec = Jvm.exec) {x : Int32} {r : Int32} {rest : List Value} (hd : decode c.code pc = .ok (.i2b, 1)) (hn : pc + 1 = n) (hr : x.toInt8.toInt32 = r) (K : Ends p.tables e below s Q C S (T.setTop (mkF m n Ls (.int r :: rest)))) : Ends p.tables e below s Q C S (T.setTop (mkF m pc Ls (.int x :: rest))) := by
  subst hn; exact K.step fun t k => XS.i2b (g := mkF m pc Ls (.int x :: rest)) X.here hx rfl hd rfl (hr ▸ k)
theorem i2c (n : Nat) (X : Stand p l e R s m args below meth c T locs cells slots) (hx : p.tables.exec = Jvm.exec) {x : Int32} {r : Int32} {rest : List Value} (hd : decode c.code pc = .ok (.i2c, 1)) (hn : pc + 1 = n) (hr : x.toUInt32.toUInt16.toUInt32.toInt32 = r) (K : Ends p.tables e below s Q C S (T.setTop (mkF m n Ls (.int r :: rest)))) : Ends p.tables e below s Q C S (T.setTop (mkF m pc Ls (.int x :: rest))) := by
  subst hn; exact K.step fun t k => XS.i2c (g := mkF m pc Ls (.int x :: rest)) X.here hx rfl hd rfl (hr ▸ k)
theorem i2s (n : Nat) (X : Stand p l e R s m args below meth c T locs cells slots) (hx : p.tables.exec = Jvm.exec) {x : Int32} {r : Int32} {rest : List Value} (hd : decode c.code pc = .ok (.i2s, 1)) (hn : pc + 1 = n) (hr : x.toInt16.toInt32 = r) (K : Ends p.tables e below s Q C S (T.setTop (mkF m n Ls (.int r :: rest)))) : Ends p.tables e below s Q C S (T.setTop (mkF m pc Ls (.int x :: rest))) := by
  subst hn; exact K.step fun t k => XS.i2s (g := mkF m pc Ls (.int x :: rest)) X.here hx rfl hd rfl (hr ▸ k)
theorem dup (n : Nat) (X : Stand p l e R s m args below meth c T locs cells slots) (hx : p.tables.exec = Jvm.exec) {x : Value} {rest : List Value} (hd : decode c.code pc = .ok (.dup, 1)) (hn : pc + 1 = n) (hc : x.category = 1) (K : Ends p.tables e below s Q C S (T.setTop (mkF m n Ls (x :: x :: rest)))) : Ends p.tables e below s Q C S (T.setTop (mkF m pc Ls (x :: rest))) := by
  subst hn; exact K.step fun t k => XS.dup (g := mkF m pc Ls (x :: rest)) X.here hx rfl hd rfl hc k
theorem pop (n : Nat) (X : Stand p l e R s m args below meth c T locs cells slots) (hx : p.tables.exec = Jvm.exec) {x : Value} {rest : List Value} (hd : decode c.code pc = .ok (.pop, 1)) (hn : pc + 1 = n) (hc : x.category = 1) (K : Ends p.tables e below s Q C S (T.setTop (mkF m n Ls (rest)))) : Ends p.tables e below s Q C S (T.setTop (mkF m pc Ls (x :: rest))) := by
  subst hn; exact K.step fun t k => XS.pop (g := mkF m pc Ls (x :: rest)) X.here hx rfl hd rfl hc k
theorem dupX1 (n : Nat) (X : Stand p l e R s m args below meth c T locs cells slots) (hx : p.tables.exec = Jvm.exec) {x y : Value} {rest : List Value} (hd : decode c.code pc = .ok (.dup_x1, 1)) (hn : pc + 1 = n) (hc : x.category = 1) (hc2 : y.category = 1) (K : Ends p.tables e below s Q C S (T.setTop (mkF m n Ls (x :: y :: x :: rest)))) : Ends p.tables e below s Q C S (T.setTop (mkF m pc Ls (x :: y :: rest))) := by
  subst hn; exact K.step fun t k => XS.dupX1 (g := mkF m pc Ls (x :: y :: rest)) X.here hx rfl hd rfl hc hc2 k
theorem istore (n : Nat) (F : Int32 → Array Slot) (X : Stand p l e R s m args below meth c T locs cells slots) (hx : p.tables.exec = Jvm.exec) {k : Nat} {x : Int32} {rest : List Value} (hd : decode c.code pc = .ok (.istore k, 2)) (hn : pc + 2 = n) (hl : ∀ z, storeLocals Ls k (.int z) = some (F z)) (K : ∀ z, z = x → Ends p.tables e below s Q C S (T.setTop (mkF m n (F z) (rest)))) : Ends p.tables e below s Q C S (T.setTop (mkF m pc Ls (.int x :: rest))) := by
  subst hn; exact (K x rfl).step fun t k => XS.istore (g := mkF m pc Ls (.int x :: rest)) X.here hx rfl hd rfl (hl x) k
theorem istoreV (n : Nat) (L1 : Array Slot) (X : Stand p l e R s m args below meth c T locs cells slots) (hx : p.tables.exec = Jvm.exec) {k : Nat} {x : Int32} {rest : List Value} (hd : decode c.code pc = .ok (.istore k, 2)) (hn : pc + 2 = n) (hl : storeLocals Ls k (.int x) = some L1) (K : Ends p.tables e below s Q C S (T.setTop (mkF m n L1 (rest)))) : Ends p.tables e below s Q C S (T.setTop (mkF m pc Ls (.int x :: rest))) := by
  subst hn; exact K.step fun t k => XS.istore (g := mkF m pc Ls (.int x :: rest)) X.here hx rfl hd rfl hl k
theorem istoreN (n : Nat) (F : Int32 → Array Slot) (X : Stand p l e R s m args below meth c T locs cells slots) (hx : p.tables.exec = Jvm.exec) {k : Fin 4} {x : Int32} {rest : List Value} (hd : decode c.code pc = .ok (.istore_n k, 1)) (hn : pc + 1 = n) (hl : ∀ z, storeLocals Ls k.val (.int z) = some (F z)) (K : ∀ z, z = x → Ends p.tables e below s Q C S (T.setTop (mkF m n (F z) (rest)))) : Ends p.tables e below s Q C S (T.setTop (mkF m pc Ls (.int x :: rest))) := by
  subst hn; exact (K x rfl).step fun t k => XS.istoreN (g := mkF m pc Ls (.int x :: rest)) X.here hx rfl hd rfl (hl x) k
theorem istoreNV (n : Nat) (L1 : Array Slot) (X : Stand p l e R s m args below meth c T locs cells slots) (hx : p.tables.exec = Jvm.exec) {k : Fin 4} {x : Int32} {rest : List Value} (hd : decode c.code pc = .ok (.istore_n k, 1)) (hn : pc + 1 = n) (hl : storeLocals Ls k.val (.int x) = some L1) (K : Ends p.tables e below s Q C S (T.setTop (mkF m n L1 (rest)))) : Ends p.tables e below s Q C S (T.setTop (mkF m pc Ls (.int x :: rest))) := by
  subst hn; exact K.step fun t k => XS.istoreN (g := mkF m pc Ls (.int x :: rest)) X.here hx rfl hd rfl hl k
theorem lstore (n : Nat) (F : Int64 → Array Slot) (X : Stand p l e R s m args below meth c T locs cells slots) (hx : p.tables.exec = Jvm.exec) {k : Nat} {x : Int64} {rest : List Value} (hd : decode c.code pc = .ok (.lstore k, 2)) (hn : pc + 2 = n) (hl : ∀ z, storeLocals Ls k (.long z) = some (F z)) (K : ∀ z, z = x → Ends p.tables e below s Q C S (T.setTop (mkF m n (F z) (rest)))) : Ends p.tables e below s Q C S (T.setTop (mkF m pc Ls (.long x :: rest))) := by
  subst hn; exact (K x rfl).step fun t k => XS.lstore (g := mkF m pc Ls (.long x :: rest)) X.here hx rfl hd rfl (hl x) k
theorem lstoreV (n : Nat) (L1 : Array Slot) (X : Stand p l e R s m args below meth c T locs cells slots) (hx : p.tables.exec = Jvm.exec) {k : Nat} {x : Int64} {rest : List Value} (hd : decode c.code pc = .ok (.lstore k, 2)) (hn : pc + 2 = n) (hl : storeLocals Ls k (.long x) = some L1) (K : Ends p.tables e below s Q C S (T.setTop (mkF m n L1 (rest)))) : Ends p.tables e below s Q C S (T.setTop (mkF m pc Ls (.long x :: rest))) := by
  subst hn; exact K.step fun t k => XS.lstore (g := mkF m pc Ls (.long x :: rest)) X.here hx rfl hd rfl hl k
theorem lstoreN (n : Nat) (F : Int64 → Array Slot) (X : Stand p l e R s m args below meth c T locs cells slots) (hx : p.tables.exec = Jvm.exec) {k : Fin 4} {x : Int64} {rest : List Value} (hd : decode c.code pc = .ok (.lstore_n k, 1)) (hn : pc + 1 = n) (hl : ∀ z, storeLocals Ls k.val (.long z) = some (F z)) (K : ∀ z, z = x → Ends p.tables e below s Q C S (T.setTop (mkF m n (F z) (rest)))) : Ends p.tables e below s Q C S (T.setTop (mkF m pc Ls (.long x :: rest))) := by
  subst hn; exact (K x rfl).step fun t k => XS.lstoreN (g := mkF m pc Ls (.long x :: rest)) X.here hx rfl hd rfl (hl x) k
theorem lstoreNV (n : Nat) (L1 : Array Slot) (X : Stand p l e R s m args below meth c T locs cells slots) (hx : p.tables.exec = Jvm.exec) {k : Fin 4} {x : Int64} {rest : List Value} (hd : decode c.code pc = .ok (.lstore_n k, 1)) (hn : pc + 1 = n) (hl : storeLocals Ls k.val (.long x) = some L1) (K : Ends p.tables e below s Q C S (T.setTop (mkF m n L1 (rest)))) : Ends p.tables e below s Q C S (T.setTop (mkF m pc Ls (.long x :: rest))) := by
  subst hn; exact K.step fun t k => XS.lstoreN (g := mkF m pc Ls (.long x :: rest)) X.here hx rfl hd rfl hl k
theorem astore (n : Nat) (L1 : Array Slot) (X : Stand p l e R s m args below meth c T locs cells slots) (hx : p.tables.exec = Jvm.exec) {k : Nat} {x : Value} {rest : List Value} (hd : decode c.code pc = .ok (.astore k, 2)) (hn : pc + 2 = n) (hv : x.isRef = true) (hl : storeLocals Ls k x = some L1) (K : Ends p.tables e below s Q C S (T.setTop (mkF m n L1 (rest)))) : Ends p.tables e below s Q C S (T.setTop (mkF m pc Ls (x :: rest))) := by
  subst hn; exact K.step fun t k => XS.astore (g := mkF m pc Ls (x :: rest)) X.here hx rfl hd rfl hv hl k
theorem astoreN (n : Nat) (L1 : Array Slot) (X : Stand p l e R s m args below meth c T locs cells slots) (hx : p.tables.exec = Jvm.exec) {k : Fin 4} {x : Value} {rest : List Value} (hd : decode c.code pc = .ok (.astore_n k, 1)) (hn : pc + 1 = n) (hv : x.isRef = true) (hl : storeLocals Ls k.val x = some L1) (K : Ends p.tables e below s Q C S (T.setTop (mkF m n L1 (rest)))) : Ends p.tables e below s Q C S (T.setTop (mkF m pc Ls (x :: rest))) := by
  subst hn; exact K.step fun t k => XS.astoreN (g := mkF m pc Ls (x :: rest)) X.here hx rfl hd rfl hv hl k
theorem iinc (n : Nat) (F : Int32 → Array Slot) (X : Stand p l e R s m args below meth c T locs cells slots) (hx : p.tables.exec = Jvm.exec) {k : Nat} {cst : Int} {x : Int32} (d : Int32) (hd : decode c.code pc = .ok (.iinc k cst, 3)) (hn : pc + 3 = n) (hc : Int32.ofInt cst = d) (hl : Ls[k]? = some (.val (.int x))) (hl2 : ∀ z, storeLocals Ls k (.int z) = some (F z)) (K : ∀ z, z = x + d → Ends p.tables e below s Q C S (T.setTop (mkF m n (F z) (st)))) : Ends p.tables e below s Q C S (T.setTop (mkF m pc Ls (st))) := by
  subst hn hc; exact (K _ rfl).step fun t k => XS.iinc (g := mkF m pc Ls st) X.here hx rfl hd hl (hl2 _) k
theorem goto (n : Nat) (X : Stand p l e R s m args below meth c T locs cells slots) (hx : p.tables.exec = Jvm.exec) {o : Int} (hd : decode c.code pc = .ok (.goto o, 3)) (hn : 0 ≤ (pc : Int) + o ∧ ((pc : Int) + o).toNat = n) (K : Ends p.tables e below s Q C S (T.setTop (mkF m n Ls (st)))) : Ends p.tables e below s Q C S (T.setTop (mkF m pc Ls (st))) :=
  K.step fun t k => XS.goto (g := mkF m pc Ls st) X.here hx rfl (pc0 := pc) (pc' := n) rfl hd hn.1 hn.2 k
theorem icmpB (nY nN : Nat) (X : Stand p l e R s m args below meth c T locs cells slots) (hx : p.tables.exec = Jvm.exec) {cd : ClassFile.Cond} {o : Int} {x y : Int32} {rest : List Value} (hd : decode c.code pc = .ok (.if_icmp cd o, 3)) (hY : 0 ≤ (pc : Int) + o ∧ ((pc : Int) + o).toNat = nY) (hN : pc + 3 = nN) (KY : if_icmp.holds cd x y = true → Ends p.tables e below s Q C S (T.setTop (mkF m nY Ls (rest)))) (KN : if_icmp.holds cd x y = false → Ends p.tables e below s Q C S (T.setTop (mkF m nN Ls (rest)))) : Ends p.tables e below s Q C S (T.setTop (mkF m pc Ls (.int y :: .int x :: rest))) := by
  subst hN
  cases hb : if_icmp.holds cd x y with
  | true => exact (KY hb).step fun t k => XS.icmpYes (g := mkF m pc Ls (.int y :: .int x :: rest)) X.here hx rfl (pc0 := pc) (pc' := nY) rfl hd rfl hb hY.1 hY.2 k
  | false => exact (KN hb).step fun t k => XS.icmpNo (g := mkF m pc Ls (.int y :: .int x :: rest)) X.here hx rfl hd rfl hb k
theorem ifB (nY nN : Nat) (X : Stand p l e R s m args below meth c T locs cells slots) (hx : p.tables.exec = Jvm.exec) {cd : ClassFile.Cond} {o : Int} {x : Int32} {rest : List Value} (hd : decode c.code pc = .ok (.ifCond cd o, 3)) (hY : 0 ≤ (pc : Int) + o ∧ ((pc : Int) + o).toNat = nY) (hN : pc + 3 = nN) (KY : if_icmp.holds cd x 0 = true → Ends p.tables e below s Q C S (T.setTop (mkF m nY Ls (rest)))) (KN : if_icmp.holds cd x 0 = false → Ends p.tables e below s Q C S (T.setTop (mkF m nN Ls (rest)))) : Ends p.tables e below s Q C S (T.setTop (mkF m pc Ls (.int x :: rest))) := by
  subst hN
  cases hb : if_icmp.holds cd x 0 with
  | true => exact (KY hb).step fun t k => XS.ifYes (g := mkF m pc Ls (.int x :: rest)) X.here hx rfl (pc0 := pc) (pc' := nY) rfl hd rfl ((if0 _ _).trans hb) hY.1 hY.2 k
  | false => exact (KN hb).step fun t k => XS.ifNo (g := mkF m pc Ls (.int x :: rest)) X.here hx rfl hd rfl ((if0 _ _).trans hb) k
theorem h_lt {x y : Int32} : (if_icmp.holds .lt x y = true → x < y) ∧ (if_icmp.holds .lt x y = false → ¬ x < y) := by simp [if_icmp.holds]
theorem h_ge {x y : Int32} : (if_icmp.holds .ge x y = true → ¬ x < y) ∧ (if_icmp.holds .ge x y = false → x < y) := by simp [if_icmp.holds, Int32.not_lt, Int32.not_le]
theorem h_gt {x y : Int32} : (if_icmp.holds .gt x y = true → y < x) ∧ (if_icmp.holds .gt x y = false → ¬ y < x) := by simp [if_icmp.holds, Int32.not_lt, Int32.not_le]
theorem h_le {x y : Int32} : (if_icmp.holds .le x y = true → ¬ y < x) ∧ (if_icmp.holds .le x y = false → y < x) := by simp [if_icmp.holds, Int32.not_lt, Int32.not_le]
theorem h_eq {x y : Int32} : (if_icmp.holds .eq x y = true → x = y) ∧ (if_icmp.holds .eq x y = false → ¬ x = y) := by simp [if_icmp.holds]
theorem h_ne {x y : Int32} : (if_icmp.holds .ne x y = true → ¬ x = y) ∧ (if_icmp.holds .ne x y = false → x = y) := by simp [if_icmp.holds]
theorem icmp_lt (nY nN : Nat) (X : Stand p l e R s m args below meth c T locs cells slots) (hx : p.tables.exec = Jvm.exec) {o : Int} {x y : Int32} {rest : List Value} (hd : decode c.code pc = .ok (.if_icmp .lt o, 3)) (hY : 0 ≤ (pc : Int) + o ∧ ((pc : Int) + o).toNat = nY) (hN : pc + 3 = nN) (KY : x < y → Ends p.tables e below s Q C S (T.setTop (mkF m nY Ls (rest)))) (KN : ¬ x < y → Ends p.tables e below s Q C S (T.setTop (mkF m nN Ls (rest)))) : Ends p.tables e below s Q C S (T.setTop (mkF m pc Ls (.int y :: .int x :: rest))) :=
  icmpB nY nN X hx hd hY hN (fun hb => KY (h_lt.1 hb)) (fun hb => KN (h_lt.2 hb))
theorem if_lt (nY nN : Nat) (X : Stand p l e R s m args below meth c T locs cells slots) (hx : p.tables.exec = Jvm.exec) {o : Int} {x : Int32} {rest : List Value} (hd : decode c.code pc = .ok (.ifCond .lt o, 3)) (hY : 0 ≤ (pc : Int) + o ∧ ((pc : Int) + o).toNat = nY) (hN : pc + 3 = nN) (KY : x < 0 → Ends p.tables e below s Q C S (T.setTop (mkF m nY Ls (rest)))) (KN : ¬ x < 0 → Ends p.tables e below s Q C S (T.setTop (mkF m nN Ls (rest)))) : Ends p.tables e below s Q C S (T.setTop (mkF m pc Ls (.int x :: rest))) :=
  ifB nY nN X hx hd hY hN (fun hb => KY (h_lt.1 hb)) (fun hb => KN (h_lt.2 hb))
theorem icmp_ge (nY nN : Nat) (X : Stand p l e R s m args below meth c T locs cells slots) (hx : p.tables.exec = Jvm.exec) {o : Int} {x y : Int32} {rest : List Value} (hd : decode c.code pc = .ok (.if_icmp .ge o, 3)) (hY : 0 ≤ (pc : Int) + o ∧ ((pc : Int) + o).toNat = nY) (hN : pc + 3 = nN) (KY : ¬ x < y → Ends p.tables e below s Q C S (T.setTop (mkF m nY Ls (rest)))) (KN : x < y → Ends p.tables e below s Q C S (T.setTop (mkF m nN Ls (rest)))) : Ends p.tables e below s Q C S (T.setTop (mkF m pc Ls (.int y :: .int x :: rest))) :=
  icmpB nY nN X hx hd hY hN (fun hb => KY (h_ge.1 hb)) (fun hb => KN (h_ge.2 hb))
theorem if_ge (nY nN : Nat) (X : Stand p l e R s m args below meth c T locs cells slots) (hx : p.tables.exec = Jvm.exec) {o : Int} {x : Int32} {rest : List Value} (hd : decode c.code pc = .ok (.ifCond .ge o, 3)) (hY : 0 ≤ (pc : Int) + o ∧ ((pc : Int) + o).toNat = nY) (hN : pc + 3 = nN) (KY : ¬ x < 0 → Ends p.tables e below s Q C S (T.setTop (mkF m nY Ls (rest)))) (KN : x < 0 → Ends p.tables e below s Q C S (T.setTop (mkF m nN Ls (rest)))) : Ends p.tables e below s Q C S (T.setTop (mkF m pc Ls (.int x :: rest))) :=
  ifB nY nN X hx hd hY hN (fun hb => KY (h_ge.1 hb)) (fun hb => KN (h_ge.2 hb))
theorem icmp_gt (nY nN : Nat) (X : Stand p l e R s m args below meth c T locs cells slots) (hx : p.tables.exec = Jvm.exec) {o : Int} {x y : Int32} {rest : List Value} (hd : decode c.code pc = .ok (.if_icmp .gt o, 3)) (hY : 0 ≤ (pc : Int) + o ∧ ((pc : Int) + o).toNat = nY) (hN : pc + 3 = nN) (KY : y < x → Ends p.tables e below s Q C S (T.setTop (mkF m nY Ls (rest)))) (KN : ¬ y < x → Ends p.tables e below s Q C S (T.setTop (mkF m nN Ls (rest)))) : Ends p.tables e below s Q C S (T.setTop (mkF m pc Ls (.int y :: .int x :: rest))) :=
  icmpB nY nN X hx hd hY hN (fun hb => KY (h_gt.1 hb)) (fun hb => KN (h_gt.2 hb))
theorem if_gt (nY nN : Nat) (X : Stand p l e R s m args below meth c T locs cells slots) (hx : p.tables.exec = Jvm.exec) {o : Int} {x : Int32} {rest : List Value} (hd : decode c.code pc = .ok (.ifCond .gt o, 3)) (hY : 0 ≤ (pc : Int) + o ∧ ((pc : Int) + o).toNat = nY) (hN : pc + 3 = nN) (KY : 0 < x → Ends p.tables e below s Q C S (T.setTop (mkF m nY Ls (rest)))) (KN : ¬ 0 < x → Ends p.tables e below s Q C S (T.setTop (mkF m nN Ls (rest)))) : Ends p.tables e below s Q C S (T.setTop (mkF m pc Ls (.int x :: rest))) :=
  ifB nY nN X hx hd hY hN (fun hb => KY (h_gt.1 hb)) (fun hb => KN (h_gt.2 hb))
theorem icmp_le (nY nN : Nat) (X : Stand p l e R s m args below meth c T locs cells slots) (hx : p.tables.exec = Jvm.exec) {o : Int} {x y : Int32} {rest : List Value} (hd : decode c.code pc = .ok (.if_icmp .le o, 3)) (hY : 0 ≤ (pc : Int) + o ∧ ((pc : Int) + o).toNat = nY) (hN : pc + 3 = nN) (KY : ¬ y < x → Ends p.tables e below s Q C S (T.setTop (mkF m nY Ls (rest)))) (KN : y < x → Ends p.tables e below s Q C S (T.setTop (mkF m nN Ls (rest)))) : Ends p.tables e below s Q C S (T.setTop (mkF m pc Ls (.int y :: .int x :: rest))) :=
  icmpB nY nN X hx hd hY hN (fun hb => KY (h_le.1 hb)) (fun hb => KN (h_le.2 hb))
theorem if_le (nY nN : Nat) (X : Stand p l e R s m args below meth c T locs cells slots) (hx : p.tables.exec = Jvm.exec) {o : Int} {x : Int32} {rest : List Value} (hd : decode c.code pc = .ok (.ifCond .le o, 3)) (hY : 0 ≤ (pc : Int) + o ∧ ((pc : Int) + o).toNat = nY) (hN : pc + 3 = nN) (KY : ¬ 0 < x → Ends p.tables e below s Q C S (T.setTop (mkF m nY Ls (rest)))) (KN : 0 < x → Ends p.tables e below s Q C S (T.setTop (mkF m nN Ls (rest)))) : Ends p.tables e below s Q C S (T.setTop (mkF m pc Ls (.int x :: rest))) :=
  ifB nY nN X hx hd hY hN (fun hb => KY (h_le.1 hb)) (fun hb => KN (h_le.2 hb))
theorem icmp_eq (nY nN : Nat) (X : Stand p l e R s m args below meth c T locs cells slots) (hx : p.tables.exec = Jvm.exec) {o : Int} {x y : Int32} {rest : List Value} (hd : decode c.code pc = .ok (.if_icmp .eq o, 3)) (hY : 0 ≤ (pc : Int) + o ∧ ((pc : Int) + o).toNat = nY) (hN : pc + 3 = nN) (KY : x = y → Ends p.tables e below s Q C S (T.setTop (mkF m nY Ls (rest)))) (KN : ¬ x = y → Ends p.tables e below s Q C S (T.setTop (mkF m nN Ls (rest)))) : Ends p.tables e below s Q C S (T.setTop (mkF m pc Ls (.int y :: .int x :: rest))) :=
  icmpB nY nN X hx hd hY hN (fun hb => KY (h_eq.1 hb)) (fun hb => KN (h_eq.2 hb))
theorem if_eq (nY nN : Nat) (X : Stand p l e R s m args below meth c T locs cells slots) (hx : p.tables.exec = Jvm.exec) {o : Int} {x : Int32} {rest : List Value} (hd : decode c.code pc = .ok (.ifCond .eq o, 3)) (hY : 0 ≤ (pc : Int) + o ∧ ((pc : Int) + o).toNat = nY) (hN : pc + 3 = nN) (KY : x = 0 → Ends p.tables e below s Q C S (T.setTop (mkF m nY Ls (rest)))) (KN : ¬ x = 0 → Ends p.tables e below s Q C S (T.setTop (mkF m nN Ls (rest)))) : Ends p.tables e below s Q C S (T.setTop (mkF m pc Ls (.int x :: rest))) :=
  ifB nY nN X hx hd hY hN (fun hb => KY (h_eq.1 hb)) (fun hb => KN (h_eq.2 hb))
theorem icmp_ne (nY nN : Nat) (X : Stand p l e R s m args below meth c T locs cells slots) (hx : p.tables.exec = Jvm.exec) {o : Int} {x y : Int32} {rest : List Value} (hd : decode c.code pc = .ok (.if_icmp .ne o, 3)) (hY : 0 ≤ (pc : Int) + o ∧ ((pc : Int) + o).toNat = nY) (hN : pc + 3 = nN) (KY : ¬ x = y → Ends p.tables e below s Q C S (T.setTop (mkF m nY Ls (rest)))) (KN : x = y → Ends p.tables e below s Q C S (T.setTop (mkF m nN Ls (rest)))) : Ends p.tables e below s Q C S (T.setTop (mkF m pc Ls (.int y :: .int x :: rest))) :=
  icmpB nY nN X hx hd hY hN (fun hb => KY (h_ne.1 hb)) (fun hb => KN (h_ne.2 hb))
theorem if_ne (nY nN : Nat) (X : Stand p l e R s m args below meth c T locs cells slots) (hx : p.tables.exec = Jvm.exec) {o : Int} {x : Int32} {rest : List Value} (hd : decode c.code pc = .ok (.ifCond .ne o, 3)) (hY : 0 ≤ (pc : Int) + o ∧ ((pc : Int) + o).toNat = nY) (hN : pc + 3 = nN) (KY : ¬ x = 0 → Ends p.tables e below s Q C S (T.setTop (mkF m nY Ls (rest)))) (KN : x = 0 → Ends p.tables e below s Q C S (T.setTop (mkF m nN Ls (rest)))) : Ends p.tables e below s Q C S (T.setTop (mkF m pc Ls (.int x :: rest))) :=
  ifB nY nN X hx hd hY hN (fun hb => KY (h_ne.1 hb)) (fun hb => KN (h_ne.2 hb))
theorem w_lt {x y : Int64} : lcmpW x y < 0 → x < y := (lw_lt x y).mp
theorem w_nlt {x y : Int64} : ¬ lcmpW x y < 0 → ¬ x < y := fun q r => q ((lw_lt x y).mpr r)
theorem w_gt {x y : Int64} : 0 < lcmpW x y → y < x := (lw_gt x y).mp
theorem w_ngt {x y : Int64} : ¬ 0 < lcmpW x y → ¬ y < x := fun q r => q ((lw_gt x y).mpr r)
theorem w_eq {x y : Int64} : lcmpW x y = 0 → x = y := (lw_eq x y).mp
theorem w_neq {x y : Int64} : ¬ lcmpW x y = 0 → ¬ x = y := fun q r => q ((lw_eq x y).mpr r)
theorem lif_lt (nY nN : Nat) (X : Stand p l e R s m args below meth c T locs cells slots) (hx : p.tables.exec = Jvm.exec) {o : Int} {x y : Int64} {rest : List Value} (hd0 : decode c.code pc = .ok (.lcmp, 1)) {pc1 : Nat} (hp : pc + 1 = pc1) (hd : decode c.code pc1 = .ok (.ifCond .lt o, 3)) (hY : 0 ≤ (pc1 : Int) + o ∧ ((pc1 : Int) + o).toNat = nY) (hN : pc1 + 3 = nN) (KY : x < y → Ends p.tables e below s Q C S (T.setTop (mkF m nY Ls (rest)))) (KN : ¬ x < y → Ends p.tables e below s Q C S (T.setTop (mkF m nN Ls (rest)))) : Ends p.tables e below s Q C S (T.setTop (mkF m pc Ls (.long y :: .long x :: rest))) := by
  subst hp
  refine Ends.step ?_ fun t k => XS.lcmp (g := mkF m pc Ls (.long y :: .long x :: rest)) X.here hx rfl hd0 rfl k
  exact if_lt nY nN X hx hd hY hN (fun hb => KY (w_lt hb)) (fun hb => KN (w_nlt hb))
theorem lif_ge (nY nN : Nat) (X : Stand p l e R s m args below meth c T locs cells slots) (hx : p.tables.exec = Jvm.exec) {o : Int} {x y : Int64} {rest : List Value} (hd0 : decode c.code pc = .ok (.lcmp, 1)) {pc1 : Nat} (hp : pc + 1 = pc1) (hd : decode c.code pc1 = .ok (.ifCond .ge o, 3)) (hY : 0 ≤ (pc1 : Int) + o ∧ ((pc1 : Int) + o).toNat = nY) (hN : pc1 + 3 = nN) (KY : ¬ x < y → Ends p.tables e below s Q C S (T.setTop (mkF m nY Ls (rest)))) (KN : x < y → Ends p.tables e below s Q C S (T.setTop (mkF m nN Ls (rest)))) : Ends p.tables e below s Q C S (T.setTop (mkF m pc Ls (.long y :: .long x :: rest))) := by
  subst hp
  refine Ends.step ?_ fun t k => XS.lcmp (g := mkF m pc Ls (.long y :: .long x :: rest)) X.here hx rfl hd0 rfl k
  exact if_ge nY nN X hx hd hY hN (fun hb => KY (w_nlt hb)) (fun hb => KN (w_lt hb))
theorem lif_gt (nY nN : Nat) (X : Stand p l e R s m args below meth c T locs cells slots) (hx : p.tables.exec = Jvm.exec) {o : Int} {x y : Int64} {rest : List Value} (hd0 : decode c.code pc = .ok (.lcmp, 1)) {pc1 : Nat} (hp : pc + 1 = pc1) (hd : decode c.code pc1 = .ok (.ifCond .gt o, 3)) (hY : 0 ≤ (pc1 : Int) + o ∧ ((pc1 : Int) + o).toNat = nY) (hN : pc1 + 3 = nN) (KY : y < x → Ends p.tables e below s Q C S (T.setTop (mkF m nY Ls (rest)))) (KN : ¬ y < x → Ends p.tables e below s Q C S (T.setTop (mkF m nN Ls (rest)))) : Ends p.tables e below s Q C S (T.setTop (mkF m pc Ls (.long y :: .long x :: rest))) := by
  subst hp
  refine Ends.step ?_ fun t k => XS.lcmp (g := mkF m pc Ls (.long y :: .long x :: rest)) X.here hx rfl hd0 rfl k
  exact if_gt nY nN X hx hd hY hN (fun hb => KY (w_gt hb)) (fun hb => KN (w_ngt hb))
theorem lif_le (nY nN : Nat) (X : Stand p l e R s m args below meth c T locs cells slots) (hx : p.tables.exec = Jvm.exec) {o : Int} {x y : Int64} {rest : List Value} (hd0 : decode c.code pc = .ok (.lcmp, 1)) {pc1 : Nat} (hp : pc + 1 = pc1) (hd : decode c.code pc1 = .ok (.ifCond .le o, 3)) (hY : 0 ≤ (pc1 : Int) + o ∧ ((pc1 : Int) + o).toNat = nY) (hN : pc1 + 3 = nN) (KY : ¬ y < x → Ends p.tables e below s Q C S (T.setTop (mkF m nY Ls (rest)))) (KN : y < x → Ends p.tables e below s Q C S (T.setTop (mkF m nN Ls (rest)))) : Ends p.tables e below s Q C S (T.setTop (mkF m pc Ls (.long y :: .long x :: rest))) := by
  subst hp
  refine Ends.step ?_ fun t k => XS.lcmp (g := mkF m pc Ls (.long y :: .long x :: rest)) X.here hx rfl hd0 rfl k
  exact if_le nY nN X hx hd hY hN (fun hb => KY (w_ngt hb)) (fun hb => KN (w_gt hb))
theorem lif_eq (nY nN : Nat) (X : Stand p l e R s m args below meth c T locs cells slots) (hx : p.tables.exec = Jvm.exec) {o : Int} {x y : Int64} {rest : List Value} (hd0 : decode c.code pc = .ok (.lcmp, 1)) {pc1 : Nat} (hp : pc + 1 = pc1) (hd : decode c.code pc1 = .ok (.ifCond .eq o, 3)) (hY : 0 ≤ (pc1 : Int) + o ∧ ((pc1 : Int) + o).toNat = nY) (hN : pc1 + 3 = nN) (KY : x = y → Ends p.tables e below s Q C S (T.setTop (mkF m nY Ls (rest)))) (KN : ¬ x = y → Ends p.tables e below s Q C S (T.setTop (mkF m nN Ls (rest)))) : Ends p.tables e below s Q C S (T.setTop (mkF m pc Ls (.long y :: .long x :: rest))) := by
  subst hp
  refine Ends.step ?_ fun t k => XS.lcmp (g := mkF m pc Ls (.long y :: .long x :: rest)) X.here hx rfl hd0 rfl k
  exact if_eq nY nN X hx hd hY hN (fun hb => KY (w_eq hb)) (fun hb => KN (w_neq hb))
theorem lif_ne (nY nN : Nat) (X : Stand p l e R s m args below meth c T locs cells slots) (hx : p.tables.exec = Jvm.exec) {o : Int} {x y : Int64} {rest : List Value} (hd0 : decode c.code pc = .ok (.lcmp, 1)) {pc1 : Nat} (hp : pc + 1 = pc1) (hd : decode c.code pc1 = .ok (.ifCond .ne o, 3)) (hY : 0 ≤ (pc1 : Int) + o ∧ ((pc1 : Int) + o).toNat = nY) (hN : pc1 + 3 = nN) (KY : ¬ x = y → Ends p.tables e below s Q C S (T.setTop (mkF m nY Ls (rest)))) (KN : x = y → Ends p.tables e below s Q C S (T.setTop (mkF m nN Ls (rest)))) : Ends p.tables e below s Q C S (T.setTop (mkF m pc Ls (.long y :: .long x :: rest))) := by
  subst hp
  refine Ends.step ?_ fun t k => XS.lcmp (g := mkF m pc Ls (.long y :: .long x :: rest)) X.here hx rfl hd0 rfl k
  exact if_ne nY nN X hx hd hY hN (fun hb => KY (w_neq hb)) (fun hb => KN (w_eq hb))
theorem ifnull (nY nN : Nat) (X : Stand p l e R s m args below meth c T locs cells slots) (hx : p.tables.exec = Jvm.exec) {o : Int} {v : Value} {rest : List Value} (hd : decode c.code pc = .ok (.ifnull o, 3)) (hv : v.isRef = true) (hY : 0 ≤ (pc : Int) + o ∧ ((pc : Int) + o).toNat = nY) (hN : pc + 3 = nN) (KY : v = .null → Ends p.tables e below s Q C S (T.setTop (mkF m nY Ls (rest)))) (KN : ∀ a, v = .ref a → Ends p.tables e below s Q C S (T.setTop (mkF m nN Ls (rest)))) : Ends p.tables e below s Q C S (T.setTop (mkF m pc Ls (v :: rest))) := by
  subst hN
  rcases ref_cases hv with rfl | ⟨a, rfl⟩
  · exact (KY rfl).step fun t k => XS.ifnullYes (g := mkF m pc Ls (.null :: rest)) X.here hx rfl (pc0 := pc) (pc' := nY) rfl hd rfl hY.1 hY.2 k
  · exact (KN a rfl).step fun t k => XS.ifnullNo (g := mkF m pc Ls (.ref a :: rest)) X.here hx rfl hd rfl k
theorem ifnonnull (nY nN : Nat) (X : Stand p l e R s m args below meth c T locs cells slots) (hx : p.tables.exec = Jvm.exec) {o : Int} {v : Value} {rest : List Value} (hd : decode c.code pc = .ok (.ifnonnull o, 3)) (hv : v.isRef = true) (hY : 0 ≤ (pc : Int) + o ∧ ((pc : Int) + o).toNat = nY) (hN : pc + 3 = nN) (KY : ∀ a, v = .ref a → Ends p.tables e below s Q C S (T.setTop (mkF m nY Ls (rest)))) (KN : v = .null → Ends p.tables e below s Q C S (T.setTop (mkF m nN Ls (rest)))) : Ends p.tables e below s Q C S (T.setTop (mkF m pc Ls (v :: rest))) := by
  subst hN
  rcases ref_cases hv with rfl | ⟨a, rfl⟩
  · exact (KN rfl).step fun t k => XS.ifnonnullNo (g := mkF m pc Ls (.null :: rest)) X.here hx rfl hd rfl k
  · exact (KY a rfl).step fun t k => XS.ifnonnullYes (g := mkF m pc Ls (.ref a :: rest)) X.here hx rfl (pc0 := pc) (pc' := nY) rfl hd rfl hY.1 hY.2 k
theorem retI (X : Stand p l e R s m args below meth c T locs cells slots) (hx : p.tables.exec = Jvm.exec) {pc : Nat} {Ls : Array Slot} {z : Int32} {rest : List Value} (hret : meth.sig.returnType = some .int) (hd : decode c.code pc = .ok (.ireturn, 1)) {fs : List Frame}
    (hl : ∀ (f : JFrame) (acts : List Action), f.method = m → f.locked = none → f.entered = [] → (doReturn e (T.setTop f) acts (some (.int z))).1 = T.setFrames fs) : Steps p.tables e below (T.setTop (mkF m pc Ls (.int z :: rest))) (T.setFrames fs) := by
  have hm' : T.vm.method? m = some meth := X.method'
  have hn : narrow .int (.int z) = .int z := rfl
  show Steps p.tables e below (T.setTop { method := m, pc := pc, locals := Ls, stack := _ :: rest, locked := none }) _
  jvm_step X.here [X.here.top, hx, hd, hm', hret, hn]
  first | (intro acts; rw [hl _ acts rfl rfl rfl]) | rw [hl _ _ rfl rfl rfl]
  exact Steps.refl _
theorem fin {fs : List Frame} {v : Option Value} {U : State} (X : Stand p l e R s m args below meth c T locs cells slots) (hst : Steps p.tables e below U (T.setFrames fs)) (hrun : (T.setFrames fs).status = .running) (hend : Ended (T.setFrames fs) below (.returned v)) (hW : s.WarmedH (T.setFrames fs).vm) (hsame : s.sameButNew ({ T.setFrames fs with vm := s.vm } : State) locs cells slots) (q : Q v T.heap locs) (hC : cells ≤ C) (hS : slots ≤ S) : Ends p.tables e below s Q C S U :=
  ⟨_, _, hst, hrun, hend, _, _, rfl, q, ⟨_, rfl⟩, hW, hsame.mono hC hS⟩
theorem retInt (X : Stand p l e R s m args below meth c T locs cells slots) (hx : p.tables.exec = Jvm.exec) {z : Int32} {rest : List Value} (hlk : meth.locks = false) (hret : meth.sig.returnType = some .int) (hd : decode c.code pc = .ok (.ireturn, 1)) (hC : cells ≤ C) (hS : slots ≤ S) (q : Q (some (.int z)) T.heap locs) : Ends p.tables e below s Q C S (T.setTop (mkF m pc Ls (.int z :: rest))) := by
  obtain ⟨fs, hr, hrun, hended, hW, hsame⟩ := X.leave (v := some (.int z)) (fun h => by rw [hret] at h; cases h) hlk
  exact fin X (retI X hx hret hd hr) hrun hended hW hsame q hC hS
theorem retBool (X : Stand p l e R s m args below meth c T locs cells slots) (hx : p.tables.exec = Jvm.exec) {z : Int32} {rest : List Value} (hlk : meth.locks = false) (hret : meth.sig.returnType = some .boolean) (hd : decode c.code pc = .ok (.ireturn, 1)) (hC : cells ≤ C) (hS : slots ≤ S) (q : Q (some (.int (nar .boolean z))) T.heap locs) : Ends p.tables e below s Q C S (T.setTop (mkF m pc Ls (.int z :: rest))) := by
  obtain ⟨fs, hr, hrun, hended, hW, hsame⟩ := X.leave (v := some (.int (nar .boolean z))) (fun h => by rw [hret] at h; cases h) hlk
  exact fin X (retN X hx hret (Or.inl rfl) hd hr) hrun hended hW hsame q hC hS
theorem retLong (X : Stand p l e R s m args below meth c T locs cells slots) (hx : p.tables.exec = Jvm.exec) {z : Int64} (hlk : meth.locks = false) (hret : meth.sig.returnType = some .long) (hd : decode c.code pc = .ok (.lreturn, 1)) (hC : cells ≤ C) (hS : slots ≤ S) (q : Q (some (.long z)) T.heap locs) : Ends p.tables e below s Q C S (T.setTop (mkF m pc Ls ([.long z]))) := by
  obtain ⟨fs, hr, hrun, hended, hW, hsame⟩ := X.leave (v := some (.long z)) (fun h => by rw [hret] at h; cases h) hlk
  exact fin X (X.lreturnOut hx hret hd hr) hrun hended hW hsame q hC hS
theorem retRef (X : Stand p l e R s m args below meth c T locs cells slots) (hx : p.tables.exec = Jvm.exec) {v : Value} {t : FieldType} (hlk : meth.locks = false) (hv : v.isRef = true) (hret : meth.sig.returnType = some t) (ht : t.isReference = true) (hd : decode c.code pc = .ok (.areturn, 1)) (hC : cells ≤ C) (hS : slots ≤ S) (q : Q (some v) T.heap locs) : Ends p.tables e below s Q C S (T.setTop (mkF m pc Ls ([v]))) := by
  obtain ⟨fs, hr, hrun, hended, hW, hsame⟩ := X.leave (v := some v) (fun h => by rw [hret] at h; cases h) hlk
  exact fin X (X.areturnOut hx hv hret ht hd hr) hrun hended hW hsame q hC hS
theorem retVoid (X : Stand p l e R s m args below meth c T locs cells slots) (hx : p.tables.exec = Jvm.exec) (hlk : meth.locks = false) (hret : meth.sig.returnType = none) (hd : decode c.code pc = .ok (.return_, 1)) (hC : cells ≤ C) (hS : slots ≤ S) (q : Q none T.heap locs) : Ends p.tables e below s Q C S (T.setTop (mkF m pc Ls ([]))) := by
  obtain ⟨fs, hr, hrun, hended, hW, hsame⟩ := X.leave (v := none) (fun _ => rfl) hlk
  exact fin X (X.returnOut hx hret hd hr) hrun hended hW hsame q hC hS
theorem ldcInt (n : Nat) (X : Stand p l e R s m args below meth c T locs cells slots) (hx : p.tables.exec = Jvm.exec) (hZ : Z.Warmed39 s.vm) {own : String} {index : Nat} (v : Int32) (hown : s.vm.findClass own = some m.cls) (w : (Cond.constant own index v).before a0 Z = true) (hd : decode c.code pc = .ok (.ldc index, 2)) (hn : pc + 2 = n) (K : Ends p.tables e below s Q C S (T.setTop (mkF m n Ls (.int v :: st)))) : Ends p.tables e below s Q C S (T.setTop (mkF m pc Ls (st))) := by
  subst hn; exact K.step fun t k => X.ldcInt hx hown (mvT hZ w) (g := mkF m pc Ls st) rfl hd _ k
theorem ldcwInt (n : Nat) (X : Stand p l e R s m args below meth c T locs cells slots) (hx : p.tables.exec = Jvm.exec) (hZ : Z.Warmed39 s.vm) {own : String} {index : Nat} (v : Int32) (hown : s.vm.findClass own = some m.cls) (w : (Cond.constant own index v).before a0 Z = true) (hd : decode c.code pc = .ok (.ldc_w index, 3)) (hn : pc + 3 = n) (K : Ends p.tables e below s Q C S (T.setTop (mkF m n Ls (.int v :: st)))) : Ends p.tables e below s Q C S (T.setTop (mkF m pc Ls (st))) := by
  subst hn; exact K.step fun t k => X.ldcwInt hx hown (mvT hZ w) (g := mkF m pc Ls st) rfl hd _ k
theorem ldc2Long (n : Nat) (X : Stand p l e R s m args below meth c T locs cells slots) (hx : p.tables.exec = Jvm.exec) (hZ : Z.Warmed39 s.vm) {own : String} {index : Nat} (v : Int64) (hown : s.vm.findClass own = some m.cls) (w : (Cond.constantLong own index v).before a0 Z = true) (hd : decode c.code pc = .ok (.ldc2_w index, 3)) (hn : pc + 3 = n) (K : Ends p.tables e below s Q C S (T.setTop (mkF m n Ls (.long v :: st)))) : Ends p.tables e below s Q C S (T.setTop (mkF m pc Ls (st))) := by
  subst hn; exact K.step fun t k => X.ldc2Long hx hown (mvT hZ w) (g := mkF m pc Ls st) rfl hd _ k
theorem getFld (n : Nat) (X : Stand p l e R s m args below meth c T locs cells slots) (hx : p.tables.exec = Jvm.exec) (hZ : Z.Warmed39 s.vm) {own R0 O nm d host : String} {index : Nat} (hown : s.vm.findClass own = some m.cls) (w : (Cond.fieldLink own index R0 nm d).before a0 Z = true ∨ (Cond.fieldLinkNest own index R0 nm d host).before a0 Z = true) (via : Via Z R0 O nm d) (eT : T.heap = h) {a : Addr} {v : Value} (F : Fld Z h a O nm d v) {rest : List Value} (hd : decode c.code pc = .ok (.getfield index, 3)) (hn : pc + 3 = n) (K : ∀ T', Stand p l e R s m args below meth c T' locs cells slots → T'.heap = h → Ends p.tables e below s Q C S (T'.setTop (mkF m n Ls (v :: rest)))) : Ends p.tables e below s Q C S (T.setTop (mkF m pc Ls (.ref a :: rest))) := by
  subst hn
  obtain ⟨T1, X1, e1, st1⟩ := getF X hx hZ hown w via eT F (g := mkF m pc Ls (.ref a :: rest)) rfl rfl hd
  exact (K T1 X1 e1).step st1
theorem getSta (n : Nat) (X : Stand p l e R s m args below meth c T locs cells slots) (hx : p.tables.exec = Jvm.exec) (hZ : Z.Warmed39 s.vm) {own R0 O nm d host : String} {index : Nat} (hown : s.vm.findClass own = some m.cls) (w : (Cond.fieldLink own index R0 nm d).before a0 Z = true ∨ (Cond.fieldLinkNest own index R0 nm d host).before a0 Z = true) (via : Via Z R0 O nm d) (eT : T.heap = h) {v : Value} (F : Sta Z h O nm d v) (hd : decode c.code pc = .ok (.getstatic index, 3)) (hn : pc + 3 = n) (K : ∀ T', Stand p l e R s m args below meth c T' locs cells slots → T'.heap = h → Ends p.tables e below s Q C S (T'.setTop (mkF m n Ls (v :: st)))) : Ends p.tables e below s Q C S (T.setTop (mkF m pc Ls (st))) := by
  subst hn
  obtain ⟨T1, X1, e1, st1⟩ := getS2 X hx hZ hown w via eT F (g := mkF m pc Ls st) rfl hd
  exact (K T1 X1 e1).step st1
theorem putFld (n : Nat) (X : Stand p l e R s m args below meth c T locs cells slots) (hx : p.tables.exec = Jvm.exec) (hZ : Z.Warmed39 s.vm) {own R0 O nm d host CC : String} {index kk : Nat} {ty : FieldType} (hown : s.vm.findClass own = some m.cls) (w : (Cond.fieldLink own index R0 nm d).before a0 Z = true ∨ (Cond.fieldLinkNest own index R0 nm d host).before a0 Z = true) (via : Via Z R0 O nm d) (eT : T.heap = h) {a : Addr} {v old : Value} (F : Fld Z h a O nm d old) (E : Exa Z h a CC) (L : (Cond.lays CC O nm d).before a0 Z = true ∨ ((Cond.laysFinal CC O nm d).before a0 Z = true ∧ own = O ∧ meth.name = "<init>")) (wi : (Cond.instantiable CC kk).before a0 Z = true) (hty : parseFieldDescriptor d = some ty) (hnw : narrow ty v = v) (hf : fits ty v = true) {rest : List Value} (hd : decode c.code pc = .ok (.putfield index, 3)) (hn : pc + 3 = n) (K : ∀ T' h', Stand p l e R s m args below meth c T' (locs ++ [⟨a, Jvm.RoadKit.slotOf Z O nm d⟩]) cells slots → T'.heap = h' → Wr h h' a (Jvm.RoadKit.slotOf Z O nm d) v → Ends p.tables e below s Q C S (T'.setTop (mkF m n Ls (rest)))) : Ends p.tables e below s Q C S (T.setTop (mkF m pc Ls (v :: .ref a :: rest))) := by
  subst hn
  obtain ⟨T1, h1, X1, e1, W1, st1⟩ := putF X hx hZ hown w via eT F E L wi hty hnw hf (g := mkF m pc Ls (v :: .ref a :: rest)) rfl rfl hd
  exact (K T1 h1 X1 e1 W1).step st1
theorem newObj (n : Nat) (X : Stand p l e R s m args below meth c T locs cells slots) (hx : p.tables.exec = Jvm.exec) (hZ : Z.Warmed39 s.vm) {own CC : String} {index sz : Nat} (hown : s.vm.findClass own = some m.cls) (w : (Cond.classLink own index CC).before a0 Z = true) (wi : (Cond.instantiable CC sz).before a0 Z = true) (wz : (Cond.initialized CC).before a0 Z = true) (eT : T.heap = h) (hd : decode c.code pc = .ok (.new index, 3)) (hn : pc + 3 = n) (hc : cells + 1 ≤ R.cells) (hl : slots + sz ≤ R.slots) (K : ∀ T' h' a, a = h.size → Stand p l e R s m args below meth c T' locs (cells + 1) (slots + sz) → T'.heap = h' → Ext h h' → Exa Z h' a CC → (∀ {O nm d : String} {ty : FieldType}, Laid Z a0 CC O nm d → parseFieldDescriptor d = some ty → Fld Z h' a O nm d (defaultValue ty)) → Ends p.tables e below s Q C S (T'.setTop (mkF m n Ls (.ref a :: st)))) : Ends p.tables e below s Q C S (T.setTop (mkF m pc Ls (st))) := by
  subst hn
  obtain ⟨T1, h1, X1, e1, E1, A1, D1, -, st1⟩ := newO X hx hZ hown w wi wz eT (g := mkF m pc Ls st) rfl hd hc hl
  exact (K T1 h1 _ rfl X1 e1 E1 A1 (fun L q => D1 L q)).step st1
theorem initObj (n W : Nat) (X : Stand p l e R s m args below meth c T locs cells slots) (hx : p.tables.exec = Jvm.exec) (hZ : Z.Warmed39 s.vm) {own : String} {index : Nat} (hown : s.vm.findClass own = some m.cls) (w1 : (Cond.methodLink own index Lib.objectInit).before a0 Z = true) (w2 : (Cond.instanceMethod Lib.objectInit).before a0 Z = true) (w3 : (Cond.code Lib.objectInit ⟨#[0xb1]⟩ 1 none).before a0 Z = true) (eT : T.heap = h) {a : Addr} {rest : List Value} (hsz : Ls.size = c.maxLocals) (hd : decode c.code pc = .ok (.invokespecial index, 3)) (hn : pc + 3 = n) (hf : 1 ≤ R.frames) (hW : (rest.map fun v => v.category).sum ≤ W) (hl : W + 12 ≤ R.locals) (K : ∀ T', Stand p l e R s m args below meth c T' locs cells slots → T'.heap = h → Ends p.tables e below s Q C S (T'.setTop (mkF m n Ls (rest)))) : Ends p.tables e below s Q C S (T.setTop (mkF m pc Ls (.ref a :: rest))) := by
  subst hn
  obtain ⟨T1, X1, e1, st1⟩ := initO X hx hZ hown w1 w2 w3 eT (g := mkF m pc Ls (.ref a :: rest)) rfl hsz rfl hd hf (W := W) (by show 2 * 0 + _ ≤ _; omega) hl
  exact (K T1 X1 e1).step st1
/-- the contract of a body: entered with these arguments at this heap it returns, and what it leaves answers to QQ -/
def Met (l : Launch) (Z : State) (y : MethodName) (bytes : ByteArray) (maxL : Nat) (ret : Option FieldType) (ws : List Cond) (rm : Room) (as : Array Value) (h : Heap) (QQ : Option Value → Heap → List Loc → Prop) : Prop :=
  MetFree l y (head1 (Cond.code y bytes maxL ret :: ws) rm) (fun a U => a = as ∧ Z.Warmed39 U.vm ∧ U.heap = h) (fun _ _ _ _ _ => True) (fun _ U o U' => ∃ v L, o = .returned v ∧ QQ v U'.heap L ∧ FrameEnd U o U' L rm.cells rm.slots)
theorem Met.of {y : MethodName} {bytes : ByteArray} {maxL : Nat} {ret : Option FieldType} {ws : List Cond} {rm : Room} {as : Array Value} {QQ : Option Value → Heap → List Loc → Prop} (hp : plainFor y = true)
    (body : ∀ (p : Program) (e : Env) (s : State) (m : MethodId) (below : List Frame) (meth : Method) (c : Code) (T : State), p.tables.exec = Jvm.exec → c.code = bytes → c.maxLocals = maxL → s.vm.findClass y.cls = some m.cls → meth.name = y.name → meth.sig.returnType = ret → meth.locks = false → Z.Warmed39 s.vm → Stand p l e rm s m as below meth c T [] 0 0 → T.heap = h → Ends p.tables e below s QQ rm.cells rm.slots (T.setTop (entryFrame m as maxL))) :
    Met l Z y bytes maxL ret ws rm as h QQ := by
  refine MetFree.of_bodySF hp hisR ?_
  intro p e s m args below meth c s₁ Bd hml0 hP hK
  obtain ⟨rfl, hZ, hh⟩ := hP
  exact body p e s m below meth c s₁ Bd.exec Bd.bytes hml0 (findClass_of_methodNamed Bd.named) (name_of_methodNamed Bd.named Bd.method).1 Bd.returns Bd.notSynchronized hZ (Stand.of_body Bd) (by rw [← hh, Bd.state]; rfl)
theorem callSt (n W : Nat) (argsL rest : List Value) (X : Stand p l e R s m args below meth c T locs cells slots) (hx : p.tables.exec = Jvm.exec) (hZ : Z.Warmed39 s.vm) {own : String} {index : Nat} {y : MethodName} {bytes : ByteArray} {maxL : Nat} {ret : Option FieldType} {rm : Room} {QQ : Option Value → Heap → List Loc → Prop} (hown : s.vm.findClass own = some m.cls) (hM : Met l Z y bytes maxL ret [] rm argsL.toArray h QQ) (wl : (Cond.methodLink own index y).before a0 Z = true) (ws : (Cond.static y).before a0 Z = true) (wi : (Cond.initialized y.cls).before a0 Z = true) (wc : (Cond.code y bytes maxL ret).before a0 Z = true) (hy : y.cls ≠ "java/lang/invoke/MethodHandle" ∧ y.cls ≠ "java/lang/invoke/VarHandle") (eT : T.heap = h) (hfr : rm.frames + 1 ≤ R.frames) (hlc : W + (maxL + 11) + rm.locals ≤ R.locals) (hc : cells + rm.cells ≤ R.cells) (hs : slots + rm.slots ≤ R.slots) (hsz : Ls.size = c.maxLocals) (hlen : ∀ sig, parseMethodDescriptor y.desc = some sig → argsL.length = sig.parameters.length) (hst : st = argsL.reverse ++ rest) (hW : (rest.map fun v => v.category).sum ≤ W) (hd : decode c.code pc = .ok (.invokestatic index, 3)) (hn : pc + 3 = n) (K : ∀ v T' L', Stand p l e R s m args below meth c T' (locs ++ L') (cells + rm.cells) (slots + rm.slots) → QQ v T'.heap L' → Ends p.tables e below s Q C S (T'.setTop (mkF m n Ls (v.toList ++ rest)))) : Ends p.tables e below s Q C S (T.setTop (mkF m pc Ls (st))) := by
  subst hn
  obtain ⟨v, vm1, ⟨T1, L1, k1, n1⟩, -, X1, ⟨Lc, hQ, l1, y1, z1⟩, st1⟩ := Jvm.LawKit.callS X hx (y := y) hown (mvT hZ wl) (mvT hZ ws) (mvT hZ wi) (mvT hZ wc) hy (backOf (W := W) hM hZ wc wi hfr hlc) (g := mkF m pc Ls st) rfl hsz (argsL := argsL) (rest := rest) hlen hst (by show 2 * 0 + _ ≤ _; omega) hd (fun _ _ => ⟨rfl, eT, hc, hs⟩)
  dsimp only [Pt.U, Pt.locs, Pt.cells, Pt.slots] at X1 l1 y1 z1 st1 hQ
  subst l1 y1 z1
  exact (K v T1 Lc X1 hQ).step st1
theorem callInit (n W : Nat) (a : Addr) (argsL rest : List Value) (X : Stand p l e R s m args below meth c T locs cells slots) (hx : p.tables.exec = Jvm.exec) (hZ : Z.Warmed39 s.vm) {own : String} {index : Nat} {y : MethodName} {bytes : ByteArray} {maxL : Nat} {rm : Room} {QQ : Option Value → Heap → List Loc → Prop} (hown : s.vm.findClass own = some m.cls) (hM : Met l Z y bytes maxL none [] rm (.ref a :: argsL).toArray h QQ) (hy1 : y.name = "<init>") (wl : (Cond.methodLink own index y).before a0 Z = true) (ws : (Cond.instanceMethod y).before a0 Z = true) (wi : (Cond.initialized y.cls).before a0 Z = true) (wc : (Cond.code y bytes maxL none).before a0 Z = true) (hy : y.cls ≠ "java/lang/invoke/MethodHandle" ∧ y.cls ≠ "java/lang/invoke/VarHandle") (eT : T.heap = h) (hfr : rm.frames + 1 ≤ R.frames) (hlc : W + (maxL + 11) + rm.locals ≤ R.locals) (hc : cells + rm.cells ≤ R.cells) (hs : slots + rm.slots ≤ R.slots) (hsz : Ls.size = c.maxLocals) (hlen : ∀ sig, parseMethodDescriptor y.desc = some sig → argsL.length = sig.parameters.length) (hst : st = argsL.reverse ++ .ref a :: rest) (hW : (rest.map fun v => v.category).sum ≤ W) (hd : decode c.code pc = .ok (.invokespecial index, 3)) (hn : pc + 3 = n) (K : ∀ v T' L', Stand p l e R s m args below meth c T' (locs ++ L') (cells + rm.cells) (slots + rm.slots) → QQ v T'.heap L' → Ends p.tables e below s Q C S (T'.setTop (mkF m n Ls (v.toList ++ rest)))) : Ends p.tables e below s Q C S (T.setTop (mkF m pc Ls (st))) := by
  subst hn
  obtain ⟨v, vm1, ⟨T1, L1, k1, n1⟩, -, X1, ⟨Lc, hQ, l1, y1, z1⟩, st1⟩ := X.specialBack hx (y := y) hy1 hown (mvT hZ wl) (mvT hZ ws) (mvT hZ wc) hy (backOf (W := W) hM hZ wc wi hfr hlc) (g := mkF m pc Ls st) rfl hsz (Steps.refl _) (a := a) (argsL := argsL) (rest := rest) hlen hst (by show 2 * 0 + _ ≤ _; omega) hd (fun _ _ => ⟨rfl, eT, hc, hs⟩)
  dsimp only [Pt.U, Pt.locs, Pt.cells, Pt.slots] at X1 l1 y1 z1 st1 hQ
  subst l1 y1 z1
  exact (K v T1 Lc X1 hQ).step fun t k => st1.trans k
theorem callVt (n W : Nat) (a : Addr) (argsL rest : List Value) (X : Stand p l e R s m args below meth c T locs cells slots) (hx : p.tables.exec = Jvm.exec) (hZ : Z.Warmed39 s.vm) {own CC : String} {index : Nat} {y z : MethodName} {bytes : ByteArray} {maxL : Nat} {ret : Option FieldType} {rm : Room} {QQ : Option Value → Heap → List Loc → Prop} (hown : s.vm.findClass own = some m.cls) (hM : Met l Z z bytes maxL ret [] rm (.ref a :: argsL).toArray h QQ) (E : Exa Z h a CC) (hnf : NotFace s y) (wl : (Cond.methodLink own index y).before a0 Z = true) (wd : (Cond.declares y).before a0 Z = true) (wsel : (Cond.selects CC y z).before a0 Z = true) (ws : (Cond.instanceMethod z).before a0 Z = true) (wi : (Cond.initialized z.cls).before a0 Z = true) (wc : (Cond.code z bytes maxL ret).before a0 Z = true) (hy : y.cls ≠ "java/lang/invoke/MethodHandle" ∧ y.cls ≠ "java/lang/invoke/VarHandle") (eT : T.heap = h) (hfr : rm.frames + 1 ≤ R.frames) (hlc : W + (maxL + 11) + rm.locals ≤ R.locals) (hc : cells + rm.cells ≤ R.cells) (hs : slots + rm.slots ≤ R.slots) (hsz : Ls.size = c.maxLocals) (hlen : ∀ sig, parseMethodDescriptor y.desc = some sig → argsL.length = sig.parameters.length) (hst : st = argsL.reverse ++ .ref a :: rest) (hW : (rest.map fun v => v.category).sum ≤ W) (hd : decode c.code pc = .ok (.invokevirtual index, 3)) (hn : pc + 3 = n) (K : ∀ v T' L', Stand p l e R s m args below meth c T' (locs ++ L') (cells + rm.cells) (slots + rm.slots) → QQ v T'.heap L' → Ends p.tables e below s Q C S (T'.setTop (mkF m n Ls (v.toList ++ rest)))) : Ends p.tables e below s Q C S (T.setTop (mkF m pc Ls (st))) := by
  subst hn
  obtain ⟨cq, kq, qa, qb, qc⟩ := isOf hZ eT E
  obtain ⟨v, vm1, ⟨T1, L1, k1, n1⟩, -, X1, ⟨Lc, hQ, l1, y1, z1⟩, st1⟩ := X.virtualBack hx (y := y) (z := z) hown (mvT hZ wl) (mvT hZ wd) hnf (mvT hZ wsel) (mvT hZ ws) hy (backOf (W := W) hM hZ wc wi hfr hlc) qa qc (g := mkF m pc Ls st) rfl hsz (Steps.refl _) (argsL := argsL) (rest := rest) hlen hst (by show 2 * 0 + _ ≤ _; omega) hd (fun _ _ => ⟨rfl, eT, hc, hs⟩)
  dsimp only [Pt.U, Pt.locs, Pt.cells, Pt.slots] at X1 l1 y1 z1 st1 hQ
  subst l1 y1 z1
  exact (K v T1 Lc X1 hQ).step fun t k => st1.trans k
theorem callPr (n W : Nat) (a : Addr) (argsL rest : List Value) (X : Stand p l e R s m args below meth c T locs cells slots) (hx : p.tables.exec = Jvm.exec) (hZ : Z.Warmed39 s.vm) {own CC : String} {index : Nat} {y : MethodName} {bytes : ByteArray} {maxL : Nat} {ret : Option FieldType} {rm : Room} {QQ : Option Value → Heap → List Loc → Prop} (hown : s.vm.findClass own = some m.cls) (hM : Met l Z y bytes maxL ret [] rm (.ref a :: argsL).toArray h QQ) (E : Exa Z h a CC) (wl : (Cond.methodLink own index y).before a0 Z = true) (wp : (Cond.privateMethod y).before a0 Z = true) {kk : Nat} (wk : (Cond.instantiable y.cls kk).before a0 Z = true) (ws : (Cond.instanceMethod y).before a0 Z = true) (wi : (Cond.initialized y.cls).before a0 Z = true) (wc : (Cond.code y bytes maxL ret).before a0 Z = true) (hy : y.cls ≠ "java/lang/invoke/MethodHandle" ∧ y.cls ≠ "java/lang/invoke/VarHandle") (eT : T.heap = h) (hfr : rm.frames + 1 ≤ R.frames) (hlc : W + (maxL + 11) + rm.locals ≤ R.locals) (hc : cells + rm.cells ≤ R.cells) (hs : slots + rm.slots ≤ R.slots) (hsz : Ls.size = c.maxLocals) (hlen : ∀ sig, parseMethodDescriptor y.desc = some sig → argsL.length = sig.parameters.length) (hst : st = argsL.reverse ++ .ref a :: rest) (hW : (rest.map fun v => v.category).sum ≤ W) (hd : decode c.code pc = .ok (.invokevirtual index, 3)) (hn : pc + 3 = n) (K : ∀ v T' L', Stand p l e R s m args below meth c T' (locs ++ L') (cells + rm.cells) (slots + rm.slots) → QQ v T'.heap L' → Ends p.tables e below s Q C S (T'.setTop (mkF m n Ls (v.toList ++ rest)))) : Ends p.tables e below s Q C S (T.setTop (mkF m pc Ls (st))) := by
  subst hn
  obtain ⟨cq, qa, qb⟩ := E.cell
  obtain ⟨cI, kI, i1, i2, -, i4, -⟩ := Cond.instantiable_spec (mvT (args := args) hZ wk)
  obtain ⟨v, vm1, ⟨T1, L1, k1, n1⟩, -, X1, ⟨Lc, hQ, l1, y1, z1⟩, st1⟩ := X.privateBack hx (y := y) hown (mvT hZ wl) (mvT hZ ws) (selects_self_of_private i1 i2 (by simpa using (Bool.or_eq_false_iff.mp i4).1) (Cond.privateMethod_at (mvP hZ wp (args := #[]))) (mvT hZ ws) hy) (Cond.privateMethod_at (mvP hZ wp (args := #[]))) (mvT hZ wc) hy (backOf (W := W) hM hZ wc wi hfr hlc) (g := mkF m pc Ls st) rfl hsz (Steps.refl _) (a := a) (by rw [eT]; exact qa) qb (argsL := argsL) (rest := rest) hlen hst (by show 2 * 0 + _ ≤ _; omega) hd (fun _ _ => ⟨rfl, eT, hc, hs⟩)
  dsimp only [Pt.U, Pt.locs, Pt.cells, Pt.slots] at X1 l1 y1 z1 st1 hQ
  subst l1 y1 z1
  exact (K v T1 Lc X1 hQ).step fun t k => st1.trans k
theorem arrLen (n : Nat) (X : Stand p l e R s m args below meth c T locs cells slots) (hx : p.tables.exec = Jvm.exec) (hZ : Z.Warmed39 s.vm) (eT : T.heap = h) {a : Addr} {k : ClassId} {ty : FieldType} {z : Int32} {vs : List Value} {dv : Value} {rest : List Value} (A : Arv Z h a k ty z vs dv) (hd : decode c.code pc = .ok (.arraylength, 1)) (hn : pc + 1 = n) (K : Ends p.tables e below s Q C S (T.setTop (mkF m n Ls (.int z :: rest)))) : Ends p.tables e below s Q C S (T.setTop (mkF m pc Ls (.ref a :: rest))) := by
  subst hn
  obtain ⟨cl, Ar, -, Sz, Nz, -, -⟩ := A
  refine K.step fun t kk => X.arraylength hx (by rw [eT]; exact Ar.1) (State.isArrayOf_alike hZ.alike Ar.2.1) (g := mkF m pc Ls (.ref a :: rest)) rfl rfl hd _ ?_
  rw [len_of Sz Nz]; exact kk
theorem iaload (n : Nat) (X : Stand p l e R s m args below meth c T locs cells slots) (hx : p.tables.exec = Jvm.exec) (hZ : Z.Warmed39 s.vm) (eT : T.heap = h) {a : Addr} {k : ClassId} {z j : Int32} (v : Int32) {vs : List Value} {dv : Value} {rest : List Value} (A : Arv Z h a k .int z vs dv) (hj : ¬ j < 0 ∧ j < z) (hv : vs.getD j.toNatClampNeg dv = .int v) (hd : decode c.code pc = .ok (.iaload, 1)) (hn : pc + 1 = n) (K : Ends p.tables e below s Q C S (T.setTop (mkF m n Ls (.int v :: rest)))) : Ends p.tables e below s Q C S (T.setTop (mkF m pc Ls (.int j :: .ref a :: rest))) := by
  subst hn
  obtain ⟨cl, Ar, -, Sz, Nz, Hs, -⟩ := A
  have hin := inb_of Sz hj
  exact K.step fun t kk => X.iaload hx (j := j) (v := .int v) (by rw [eT]; exact Ar.1) (State.isArrayOf_alike hZ.alike Ar.2.1) Ar.2.2 hin (Hs.at hin hv) (g := mkF m pc Ls (.int j :: .ref a :: rest)) rfl rfl hd _ kk
theorem laload (n : Nat) (X : Stand p l e R s m args below meth c T locs cells slots) (hx : p.tables.exec = Jvm.exec) (hZ : Z.Warmed39 s.vm) (eT : T.heap = h) {a : Addr} {k : ClassId} {z j : Int32} (v : Int64) {vs : List Value} {dv : Value} {rest : List Value} (A : Arv Z h a k .long z vs dv) (hj : ¬ j < 0 ∧ j < z) (hv : vs.getD j.toNatClampNeg dv = .long v) (hd : decode c.code pc = .ok (.laload, 1)) (hn : pc + 1 = n) (K : Ends p.tables e below s Q C S (T.setTop (mkF m n Ls (.long v :: rest)))) : Ends p.tables e below s Q C S (T.setTop (mkF m pc Ls (.int j :: .ref a :: rest))) := by
  subst hn
  obtain ⟨cl, Ar, -, Sz, Nz, Hs, -⟩ := A
  have hin := inb_of Sz hj
  exact K.step fun t kk => X.laload hx (j := j) (v := .long v) (by rw [eT]; exact Ar.1) (State.isArrayOf_alike hZ.alike Ar.2.1) Ar.2.2 hin (Hs.at hin hv) (g := mkF m pc Ls (.int j :: .ref a :: rest)) rfl rfl hd _ kk
theorem baload (n : Nat) (X : Stand p l e R s m args below meth c T locs cells slots) (hx : p.tables.exec = Jvm.exec) (hZ : Z.Warmed39 s.vm) (eT : T.heap = h) {a : Addr} {k : ClassId} {z j : Int32} (v : Int32) {vs : List Value} {dv : Value} {rest : List Value} (A : Arv Z h a k .byte z vs dv) (hj : ¬ j < 0 ∧ j < z) (hv : vs.getD j.toNatClampNeg dv = .int v) (hd : decode c.code pc = .ok (.baload, 1)) (hn : pc + 1 = n) (K : Ends p.tables e below s Q C S (T.setTop (mkF m n Ls (.int v :: rest)))) : Ends p.tables e below s Q C S (T.setTop (mkF m pc Ls (.int j :: .ref a :: rest))) := by
  subst hn
  obtain ⟨cl, Ar, -, Sz, Nz, Hs, -⟩ := A
  have hin := inb_of Sz hj
  exact K.step fun t kk => X.baloadBytes hx (j := j) (v := .int v) (by rw [eT]; exact Ar.1) (State.isArrayOf_alike hZ.alike Ar.2.1) Ar.2.2 hin (Hs.at hin hv) (g := mkF m pc Ls (.int j :: .ref a :: rest)) rfl rfl hd _ kk
theorem caload (n : Nat) (X : Stand p l e R s m args below meth c T locs cells slots) (hx : p.tables.exec = Jvm.exec) (hZ : Z.Warmed39 s.vm) (eT : T.heap = h) {a : Addr} {k : ClassId} {z j : Int32} (v : Int32) {vs : List Value} {dv : Value} {rest : List Value} (A : Arv Z h a k .char z vs dv) (hj : ¬ j < 0 ∧ j < z) (hv : vs.getD j.toNatClampNeg dv = .int v) (hd : decode c.code pc = .ok (.caload, 1)) (hn : pc + 1 = n) (K : Ends p.tables e below s Q C S (T.setTop (mkF m n Ls (.int v :: rest)))) : Ends p.tables e below s Q C S (T.setTop (mkF m pc Ls (.int j :: .ref a :: rest))) := by
  subst hn
  obtain ⟨cl, Ar, -, Sz, Nz, Hs, -⟩ := A
  have hin := inb_of Sz hj
  exact K.step fun t kk => X.caload hx (j := j) (v := .int v) (by rw [eT]; exact Ar.1) (State.isArrayOf_alike hZ.alike Ar.2.1) Ar.2.2 hin (Hs.at hin hv) (g := mkF m pc Ls (.int j :: .ref a :: rest)) rfl rfl hd _ kk
theorem aaload (n : Nat) (X : Stand p l e R s m args below meth c T locs cells slots) (hx : p.tables.exec = Jvm.exec) (hZ : Z.Warmed39 s.vm) (eT : T.heap = h) {a : Addr} {k : ClassId} {z j : Int32} {ty : FieldType} (v : Value) {vs : List Value} {dv : Value} {rest : List Value} (A : Arv Z h a k ty z vs dv) (hty : ty.isReference = true) (hj : ¬ j < 0 ∧ j < z) (hv : vs.getD j.toNatClampNeg dv = v) (hd : decode c.code pc = .ok (.aaload, 1)) (hn : pc + 1 = n) (K : Ends p.tables e below s Q C S (T.setTop (mkF m n Ls (v :: rest)))) : Ends p.tables e below s Q C S (T.setTop (mkF m pc Ls (.int j :: .ref a :: rest))) := by
  subst hn
  obtain ⟨cl, Ar, -, Sz, Nz, Hs, -⟩ := A
  have hin := inb_of Sz hj
  exact K.step fun t kk => X.aaload hx (j := j) (v := v) (by rw [eT]; exact Ar.1) (State.isArrayOf_alike hZ.alike Ar.2.1) hty Ar.2.2 hin (Hs.at hin hv) (g := mkF m pc Ls (.int j :: .ref a :: rest)) rfl rfl hd _ kk
theorem iastore (n : Nat) (X : Stand p l e R s m args below meth c T locs cells slots) (hx : p.tables.exec = Jvm.exec) (hZ : Z.Warmed39 s.vm) (eT : T.heap = h) {a : Addr} {k : ClassId} {z j : Int32} {x : Int32} {vs : List Value} {dv : Value} {rest : List Value} (A : Arv Z h a k .int z vs dv) (hj : ¬ j < 0 ∧ j < z) (hlen : j.toNatClampNeg < vs.length) (hd : decode c.code pc = .ok (.iastore, 1)) (hn : pc + 1 = n) (K : ∀ T' h', Stand p l e R s m args below meth c T' (locs ++ [⟨a, j.toNatClampNeg⟩]) cells slots → T'.heap = h' → Wr h h' a j.toNatClampNeg (.int x) → Arv Z h' a k .int z (vs.set j.toNatClampNeg (.int x)) dv → Ends p.tables e below s Q C S (T'.setTop (mkF m n Ls (rest)))) : Ends p.tables e below s Q C S (T.setTop (mkF m pc Ls (.int x :: .int j :: .ref a :: rest))) := by
  subst hn
  obtain ⟨cl, Ar, q1, Sz, Nz, Hs, Gs⟩ := A
  obtain ⟨T1, h1, X1, e1, W1, st1⟩ := stI X hx hZ eT Ar (j := j) (inb_of Sz hj) (g := mkF m pc Ls (.int x :: .int j :: .ref a :: rest)) rfl rfl hd
  exact (K T1 h1 X1 e1 W1 (Arv.set Ar q1 Sz Nz Hs Gs rfl W1 _ rfl hlen)).step st1
theorem lastore (n : Nat) (X : Stand p l e R s m args below meth c T locs cells slots) (hx : p.tables.exec = Jvm.exec) (hZ : Z.Warmed39 s.vm) (eT : T.heap = h) {a : Addr} {k : ClassId} {z j : Int32} {x : Int64} {vs : List Value} {dv : Value} {rest : List Value} (A : Arv Z h a k .long z vs dv) (hj : ¬ j < 0 ∧ j < z) (hlen : j.toNatClampNeg < vs.length) (hd : decode c.code pc = .ok (.lastore, 1)) (hn : pc + 1 = n) (K : ∀ T' h', Stand p l e R s m args below meth c T' (locs ++ [⟨a, j.toNatClampNeg⟩]) cells slots → T'.heap = h' → Wr h h' a j.toNatClampNeg (.long x) → Arv Z h' a k .long z (vs.set j.toNatClampNeg (.long x)) dv → Ends p.tables e below s Q C S (T'.setTop (mkF m n Ls (rest)))) : Ends p.tables e below s Q C S (T.setTop (mkF m pc Ls (.long x :: .int j :: .ref a :: rest))) := by
  subst hn
  obtain ⟨cl, Ar, q1, Sz, Nz, Hs, Gs⟩ := A
  obtain ⟨T1, h1, X1, e1, W1, st1⟩ := stJ X hx hZ eT Ar (j := j) (inb_of Sz hj) (g := mkF m pc Ls (.long x :: .int j :: .ref a :: rest)) rfl rfl hd
  exact (K T1 h1 X1 e1 W1 (Arv.set Ar q1 Sz Nz Hs Gs rfl W1 _ rfl hlen)).step st1
theorem bastore (n : Nat) (X : Stand p l e R s m args below meth c T locs cells slots) (hx : p.tables.exec = Jvm.exec) (hZ : Z.Warmed39 s.vm) (eT : T.heap = h) {a : Addr} {k : ClassId} {z j : Int32} {x : Int32} {vs : List Value} {dv : Value} {rest : List Value} (A : Arv Z h a k .byte z vs dv) (hj : ¬ j < 0 ∧ j < z) (hlen : j.toNatClampNeg < vs.length) (hd : decode c.code pc = .ok (.bastore, 1)) (hn : pc + 1 = n) (K : ∀ T' h', Stand p l e R s m args below meth c T' (locs ++ [⟨a, j.toNatClampNeg⟩]) cells slots → T'.heap = h' → Wr h h' a j.toNatClampNeg (.int x.toInt8.toInt32) → Arv Z h' a k .byte z (vs.set j.toNatClampNeg (.int x.toInt8.toInt32)) dv → Ends p.tables e below s Q C S (T'.setTop (mkF m n Ls (rest)))) : Ends p.tables e below s Q C S (T.setTop (mkF m pc Ls (.int x :: .int j :: .ref a :: rest))) := by
  subst hn
  obtain ⟨cl, Ar, q1, Sz, Nz, Hs, Gs⟩ := A
  obtain ⟨T1, h1, X1, e1, W1, st1⟩ := stB X hx hZ eT Ar (j := j) (inb_of Sz hj) (g := mkF m pc Ls (.int x :: .int j :: .ref a :: rest)) rfl rfl hd
  exact (K T1 h1 X1 e1 W1 (Arv.set Ar q1 Sz Nz Hs Gs (fits_nar_byte _) W1 _ rfl hlen)).step st1
theorem castore (n : Nat) (X : Stand p l e R s m args below meth c T locs cells slots) (hx : p.tables.exec = Jvm.exec) (hZ : Z.Warmed39 s.vm) (eT : T.heap = h) {a : Addr} {k : ClassId} {z j : Int32} {x : Int32} {vs : List Value} {dv : Value} {rest : List Value} (A : Arv Z h a k .char z vs dv) (hj : ¬ j < 0 ∧ j < z) (hlen : j.toNatClampNeg < vs.length) (hd : decode c.code pc = .ok (.castore, 1)) (hn : pc + 1 = n) (K : ∀ T' h', Stand p l e R s m args below meth c T' (locs ++ [⟨a, j.toNatClampNeg⟩]) cells slots → T'.heap = h' → Wr h h' a j.toNatClampNeg (.int (nar .char x)) → Arv Z h' a k .char z (vs.set j.toNatClampNeg (.int (nar .char x))) dv → Ends p.tables e below s Q C S (T'.setTop (mkF m n Ls (rest)))) : Ends p.tables e below s Q C S (T.setTop (mkF m pc Ls (.int x :: .int j :: .ref a :: rest))) := by
  subst hn
  obtain ⟨cl, Ar, q1, Sz, Nz, Hs, Gs⟩ := A
  obtain ⟨T1, h1, X1, e1, W1, st1⟩ := stC X hx hZ eT Ar (j := j) (inb_of Sz hj) (g := mkF m pc Ls (.int x :: .int j :: .ref a :: rest)) rfl rfl hd
  exact (K T1 h1 X1 e1 W1 (Arv.set Ar q1 Sz Nz Hs Gs (fits_nar_char _) W1 _ rfl hlen)).step st1
theorem newArr (n cap : Nat) (X : Stand p l e R s m args below meth c T locs cells slots) (hx : p.tables.exec = Jvm.exec) (hZ : Z.Warmed39 s.vm) {aty : ArrayType} (w : (Cond.arrayClass (newarray.typeOf aty)).before a0 Z = true) (eT : T.heap = h) {z : Int32} {rest : List Value} (hz : ¬ z < 0) (hcap : z.toNatClampNeg ≤ cap) (hb : cap * 8 ≤ 536870912) (hd : decode c.code pc = .ok (.newarray aty, 2)) (hn : pc + 2 = n) (hc : cells + 1 ≤ R.cells) (hl : slots + cap ≤ R.slots) (K : ∀ T' h' a k, a = h.size → Stand p l e R s m args below meth c T' locs (cells + 1) (slots + cap) → T'.heap = h' → Ext h h' → Arv Z h' a k (newarray.typeOf aty) z (List.replicate z.toNatClampNeg (defaultValue (newarray.typeOf aty))) (defaultValue (newarray.typeOf aty)) → Ends p.tables e below s Q C S (T'.setTop (mkF m n Ls (.ref a :: rest)))) : Ends p.tables e below s Q C S (T.setTop (mkF m pc Ls (.int z :: rest))) := by
  subst hn
  obtain ⟨T1, h1, k1, X1, e1, E1, A1, st1⟩ := newP X hx hZ w eT (g := mkF m pc Ls (.int z :: rest)) rfl hd rfl hz (cap := cap) hcap hb hc hl
  exact (K T1 h1 _ k1 rfl X1 e1 E1 ((Arv.new A1 hz).pad (pad_rep [] _ _))).step st1
theorem arrCopy (n W : Nat) (X : Stand p l e R s m args below meth c T locs cells slots) (hx : p.tables.exec = Jvm.exec) (hZ : Z.Warmed39 s.vm) {own : String} {index : Nat} (hown : s.vm.findClass own = some m.cls) (w1 : (Cond.methodLink own index Jvm.Stand.acN).before a0 Z = true) (w2 : (Cond.native Jvm.Stand.acN).before a0 Z = true) (w3 : (Cond.static Jvm.Stand.acN).before a0 Z = true) (w4 : (Cond.initialized "java/lang/System").before a0 Z = true) (eT : T.heap = h) {a b : Addr} {k k2 : ClassId} {ty : FieldType} {z z2 sp dp nn : Int32} {vs vd : List Value} {dv dd : Value} (A : Arv Z h a k ty z vs dv) (B : Arv Z h b k2 ty z2 vd dd) (hty : refKind ty = false) (h1 : ¬ sp < 0) (h2 : ¬ dp < 0) (h3 : ¬ nn < 0) (h4 : sp.toNatClampNeg + nn.toNatClampNeg ≤ z.toNatClampNeg) (h5 : dp.toNatClampNeg + nn.toNatClampNeg ≤ z2.toNatClampNeg) (hl : dp.toNatClampNeg + nn.toNatClampNeg ≤ vd.length) {n0 : Nat} (N : Fr n0 locs) (ge : n0 ≤ b) (hsz : Ls.size = c.maxLocals) {rest : List Value} (hd : decode c.code pc = .ok (.invokestatic index, 3)) (hn : pc + 3 = n) (hf : 1 ≤ R.frames) (hW : (rest.map fun v => v.category).sum ≤ W) (hlo : W + (nativeFrameWords "java/lang/System" "arraycopy" 5 + 11) ≤ R.locals) (K : ∀ T' h' L vs', Stand p l e R s m args below meth c T' L cells slots → T'.heap = h' → Fr n0 L → Keep h h' [b] → vs' = vd.take dp.toNatClampNeg ++ ((List.range nn.toNatClampNeg).map fun i => vs.getD (sp.toNatClampNeg + i) dv) ++ vd.drop (dp.toNatClampNeg + nn.toNatClampNeg) → vs'.length = vd.length → Arv Z h' b k2 ty z2 vs' dd → Ends p.tables e below s Q C S (T'.setTop (mkF m n Ls (rest)))) : Ends p.tables e below s Q C S (T.setTop (mkF m pc Ls (.int nn :: .int dp :: .ref b :: .int sp :: .ref a :: rest))) := by
  subst hn
  obtain ⟨T1, hh1, L1, X1, e1, N1, K1, V1, st1⟩ := cpA X hx hZ hown w1 w2 w3 w4 eT A B (Or.inl ⟨rfl, hty⟩) h1 h2 h3 h4 h5 rfl hl N ge (g := mkF m pc Ls (.int nn :: .int dp :: .ref b :: .int sp :: .ref a :: rest)) rfl hsz rfl hd hf (W := W) (by show 2 * 0 + _ ≤ _; omega) hlo
  exact (K T1 hh1 L1 _ X1 e1 N1 K1 rfl (by simp; omega) V1).step st1
/-- an array of this kind and length, whatever it holds -/
def Ax (Z : State) (h : Heap) (a : Addr) (ty : FieldType) (z : Int32) : Prop := ∃ (k : ClassId) (vs : List Value), vs.length = z.toNatClampNeg ∧ Arv Z h a k ty z vs (defaultValue ty)
theorem Ax.lt {a : Addr} {ty : FieldType} {z : Int32} (F : Ax Z h a ty z) : a < h.size := by obtain ⟨k, vs, -, A⟩ := F; exact A.lt
theorem Ax.ext {h' : Heap} {a : Addr} {ty : FieldType} {z : Int32} (F : Ax Z h a ty z) (E : Ext h h') : Ax Z h' a ty z := by obtain ⟨k, vs, q, A⟩ := F; exact ⟨k, vs, q, A.ext E⟩
theorem Ax.keep {h' : Heap} {a : Addr} {ty : FieldType} {z : Int32} {ws : List Addr} (F : Ax Z h a ty z) (K : Keep h h' ws) (q : a ∉ ws) : Ax Z h' a ty z := by obtain ⟨k, vs, r, A⟩ := F; exact ⟨k, vs, r, A.keep K q⟩
theorem Ax.other {h' : Heap} {a b : Addr} {sl : Nat} {v : Value} {ty : FieldType} {z : Int32} (F : Ax Z h a ty z) (W : Wr h h' b sl v) (q : a ≠ b) : Ax Z h' a ty z := by obtain ⟨k, vs, r, A⟩ := F; exact ⟨k, vs, r, A.other W q⟩
theorem Ax.nn {a : Addr} {ty : FieldType} {z : Int32} (F : Ax Z h a ty z) : ¬ z < 0 := by obtain ⟨k, vs, -, c, -, -, -, N, -⟩ := F; exact N
theorem axLen (n : Nat) (X : Stand p l e R s m args below meth c T locs cells slots) (hx : p.tables.exec = Jvm.exec) (hZ : Z.Warmed39 s.vm) (eT : T.heap = h) {a : Addr} {ty : FieldType} {z : Int32} {rest : List Value} (A : Ax Z h a ty z) (hd : decode c.code pc = .ok (.arraylength, 1)) (hn : pc + 1 = n) (K : Ends p.tables e below s Q C S (T.setTop (mkF m n Ls (.int z :: rest)))) : Ends p.tables e below s Q C S (T.setTop (mkF m pc Ls (.ref a :: rest))) := by
  obtain ⟨k, vs, -, A⟩ := A
  exact arrLen n X hx hZ eT A hd hn K
theorem axLoadI (n : Nat) (X : Stand p l e R s m args below meth c T locs cells slots) (hx : p.tables.exec = Jvm.exec) (hZ : Z.Warmed39 s.vm) (eT : T.heap = h) {a : Addr} {z j : Int32} {rest : List Value} (A : Ax Z h a .int z) (hj : ¬ j < 0 ∧ j < z) (hd : decode c.code pc = .ok (.iaload, 1)) (hn : pc + 1 = n) (K : ∀ v : Int32, Ends p.tables e below s Q C S (T.setTop (mkF m n Ls (.int v :: rest)))) : Ends p.tables e below s Q C S (T.setTop (mkF m pc Ls (.int j :: .ref a :: rest))) := by
  obtain ⟨k, vs, -, A⟩ := A
  have A1 := A
  obtain ⟨cl, Ar, -, Sz, Nz, Hs, Gs⟩ := A1
  have hin := inb_of Sz hj
  have G := Gs j.toNatClampNeg (Nat.lt_of_not_le fun y => hin (Or.inr y))
  obtain ⟨v, hv⟩ := fit_I G (Or.inl rfl)
  exact iaload n X hx hZ eT v A hj hv hd hn (K v)
theorem axLoadJ (n : Nat) (X : Stand p l e R s m args below meth c T locs cells slots) (hx : p.tables.exec = Jvm.exec) (hZ : Z.Warmed39 s.vm) (eT : T.heap = h) {a : Addr} {z j : Int32} {rest : List Value} (A : Ax Z h a .long z) (hj : ¬ j < 0 ∧ j < z) (hd : decode c.code pc = .ok (.laload, 1)) (hn : pc + 1 = n) (K : ∀ v : Int64, Ends p.tables e below s Q C S (T.setTop (mkF m n Ls (.long v :: rest)))) : Ends p.tables e below s Q C S (T.setTop (mkF m pc Ls (.int j :: .ref a :: rest))) := by
  obtain ⟨k, vs, -, A⟩ := A
  have A1 := A
  obtain ⟨cl, Ar, -, Sz, Nz, Hs, Gs⟩ := A1
  have hin := inb_of Sz hj
  have G := Gs j.toNatClampNeg (Nat.lt_of_not_le fun y => hin (Or.inr y))
  obtain ⟨v, hv⟩ := fit_J G
  exact laload n X hx hZ eT v A hj hv hd hn (K v)
theorem axLoadB (n : Nat) (X : Stand p l e R s m args below meth c T locs cells slots) (hx : p.tables.exec = Jvm.exec) (hZ : Z.Warmed39 s.vm) (eT : T.heap = h) {a : Addr} {z j : Int32} {rest : List Value} (A : Ax Z h a .byte z) (hj : ¬ j < 0 ∧ j < z) (hd : decode c.code pc = .ok (.baload, 1)) (hn : pc + 1 = n) (K : ∀ v : Int32, Ends p.tables e below s Q C S (T.setTop (mkF m n Ls (.int v :: rest)))) : Ends p.tables e below s Q C S (T.setTop (mkF m pc Ls (.int j :: .ref a :: rest))) := by
  obtain ⟨k, vs, -, A⟩ := A
  have A1 := A
  obtain ⟨cl, Ar, -, Sz, Nz, Hs, Gs⟩ := A1
  have hin := inb_of Sz hj
  have G := Gs j.toNatClampNeg (Nat.lt_of_not_le fun y => hin (Or.inr y))
  obtain ⟨v, hv⟩ := fit_I G (Or.inr (Or.inr (Or.inl rfl)))
  exact baload n X hx hZ eT v A hj hv hd hn (K v)
theorem axStoreI (n : Nat) (X : Stand p l e R s m args below meth c T locs cells slots) (hx : p.tables.exec = Jvm.exec) (hZ : Z.Warmed39 s.vm) (eT : T.heap = h) {a : Addr} {z j : Int32} {x : Int32} {rest : List Value} (A : Ax Z h a .int z) (hj : ¬ j < 0 ∧ j < z) (hd : decode c.code pc = .ok (.iastore, 1)) (hn : pc + 1 = n) (K : ∀ T' h', Stand p l e R s m args below meth c T' (locs ++ [⟨a, j.toNatClampNeg⟩]) cells slots → T'.heap = h' → Wr h h' a j.toNatClampNeg (.int x) → Ax Z h' a .int z → Ends p.tables e below s Q C S (T'.setTop (mkF m n Ls (rest)))) : Ends p.tables e below s Q C S (T.setTop (mkF m pc Ls (.int x :: .int j :: .ref a :: rest))) := by
  obtain ⟨k, vs, hl, A⟩ := A
  have hjz : j.toNatClampNeg < z.toNatClampNeg := by
    have h1 := nat_of hj.1
    have h2 := hj.2
    have h3 := nat_of (Ax.nn ⟨k, vs, hl, A⟩)
    rw [Int32.lt_iff_toInt_lt] at h2
    omega
  exact iastore n X hx hZ eT A hj (by rw [hl]; exact hjz) hd hn (fun T1 h1 X1 e1 W1 A1 => K T1 h1 X1 e1 W1 ⟨k, _, by rw [List.length_set, hl], A1⟩)
theorem axStoreJ (n : Nat) (X : Stand p l e R s m args below meth c T locs cells slots) (hx : p.tables.exec = Jvm.exec) (hZ : Z.Warmed39 s.vm) (eT : T.heap = h) {a : Addr} {z j : Int32} {x : Int64} {rest : List Value} (A : Ax Z h a .long z) (hj : ¬ j < 0 ∧ j < z) (hd : decode c.code pc = .ok (.lastore, 1)) (hn : pc + 1 = n) (K : ∀ T' h', Stand p l e R s m args below meth c T' (locs ++ [⟨a, j.toNatClampNeg⟩]) cells slots → T'.heap = h' → Wr h h' a j.toNatClampNeg (.long x) → Ax Z h' a .long z → Ends p.tables e below s Q C S (T'.setTop (mkF m n Ls (rest)))) : Ends p.tables e below s Q C S (T.setTop (mkF m pc Ls (.long x :: .int j :: .ref a :: rest))) := by
  obtain ⟨k, vs, hl, A⟩ := A
  have hjz : j.toNatClampNeg < z.toNatClampNeg := by
    have h1 := nat_of hj.1
    have h2 := hj.2
    have h3 := nat_of (Ax.nn ⟨k, vs, hl, A⟩)
    rw [Int32.lt_iff_toInt_lt] at h2
    omega
  exact lastore n X hx hZ eT A hj (by rw [hl]; exact hjz) hd hn (fun T1 h1 X1 e1 W1 A1 => K T1 h1 X1 e1 W1 ⟨k, _, by rw [List.length_set, hl], A1⟩)
theorem axStoreB (n : Nat) (X : Stand p l e R s m args below meth c T locs cells slots) (hx : p.tables.exec = Jvm.exec) (hZ : Z.Warmed39 s.vm) (eT : T.heap = h) {a : Addr} {z j : Int32} {x : Int32} {rest : List Value} (A : Ax Z h a .byte z) (hj : ¬ j < 0 ∧ j < z) (hd : decode c.code pc = .ok (.bastore, 1)) (hn : pc + 1 = n) (K : ∀ T' h', Stand p l e R s m args below meth c T' (locs ++ [⟨a, j.toNatClampNeg⟩]) cells slots → T'.heap = h' → Wr h h' a j.toNatClampNeg (.int x.toInt8.toInt32) → Ax Z h' a .byte z → Ends p.tables e below s Q C S (T'.setTop (mkF m n Ls (rest)))) : Ends p.tables e below s Q C S (T.setTop (mkF m pc Ls (.int x :: .int j :: .ref a :: rest))) := by
  obtain ⟨k, vs, hl, A⟩ := A
  have hjz : j.toNatClampNeg < z.toNatClampNeg := by
    have h1 := nat_of hj.1
    have h2 := hj.2
    have h3 := nat_of (Ax.nn ⟨k, vs, hl, A⟩)
    rw [Int32.lt_iff_toInt_lt] at h2
    omega
  exact bastore n X hx hZ eT A hj (by rw [hl]; exact hjz) hd hn (fun T1 h1 X1 e1 W1 A1 => K T1 h1 X1 e1 W1 ⟨k, _, by rw [List.length_set, hl], A1⟩)
theorem axNew (n cap : Nat) (X : Stand p l e R s m args below meth c T locs cells slots) (hx : p.tables.exec = Jvm.exec) (hZ : Z.Warmed39 s.vm) {aty : ArrayType} (w : (Cond.arrayClass (newarray.typeOf aty)).before a0 Z = true) (eT : T.heap = h) {z : Int32} {rest : List Value} (hz : ¬ z < 0) (hcap : z.toNatClampNeg ≤ cap) (hb : cap * 8 ≤ 536870912) (hd : decode c.code pc = .ok (.newarray aty, 2)) (hn : pc + 2 = n) (hc : cells + 1 ≤ R.cells) (hl : slots + cap ≤ R.slots) (K : ∀ T' h' a, a = h.size → Stand p l e R s m args below meth c T' locs (cells + 1) (slots + cap) → T'.heap = h' → Ext h h' → Ax Z h' a (newarray.typeOf aty) z → Ends p.tables e below s Q C S (T'.setTop (mkF m n Ls (.ref a :: rest)))) : Ends p.tables e below s Q C S (T.setTop (mkF m pc Ls (.int z :: rest))) :=
  newArr n cap X hx hZ w eT hz hcap hb hd hn hc hl (fun T1 h1 a k q X1 e1 E1 A1 => K T1 h1 a q X1 e1 E1 ⟨k, _, List.length_replicate, A1⟩)
theorem axCopy (n W : Nat) (X : Stand p l e R s m args below meth c T locs cells slots) (hx : p.tables.exec = Jvm.exec) (hZ : Z.Warmed39 s.vm) {own : String} {index : Nat} (hown : s.vm.findClass own = some m.cls) (w1 : (Cond.methodLink own index Jvm.Stand.acN).before a0 Z = true) (w2 : (Cond.native Jvm.Stand.acN).before a0 Z = true) (w3 : (Cond.static Jvm.Stand.acN).before a0 Z = true) (w4 : (Cond.initialized "java/lang/System").before a0 Z = true) (eT : T.heap = h) {a b : Addr} {ty : FieldType} {z z2 sp dp nn : Int32} (A : Ax Z h a ty z) (B : Ax Z h b ty z2) (hty : refKind ty = false) (h1 : ¬ sp < 0) (h2 : ¬ dp < 0) (h3 : ¬ nn < 0) (h4 : sp.toNatClampNeg + nn.toNatClampNeg ≤ z.toNatClampNeg) (h5 : dp.toNatClampNeg + nn.toNatClampNeg ≤ z2.toNatClampNeg) {n0 : Nat} (N : Fr n0 locs) (ge : n0 ≤ b) (hsz : Ls.size = c.maxLocals) {rest : List Value} (hd : decode c.code pc = .ok (.invokestatic index, 3)) (hn : pc + 3 = n) (hf : 1 ≤ R.frames) (hW : (rest.map fun v => v.category).sum ≤ W) (hlo : W + (nativeFrameWords "java/lang/System" "arraycopy" 5 + 11) ≤ R.locals) (K : ∀ T' h' L, Stand p l e R s m args below meth c T' L cells slots → T'.heap = h' → Fr n0 L → Keep h h' [b] → Ax Z h' b ty z2 → Ends p.tables e below s Q C S (T'.setTop (mkF m n Ls (rest)))) : Ends p.tables e below s Q C S (T.setTop (mkF m pc Ls (.int nn :: .int dp :: .ref b :: .int sp :: .ref a :: rest))) := by
  obtain ⟨k, vs, hl, A⟩ := A
  obtain ⟨k2, vd, hl2, B⟩ := B
  exact arrCopy n W X hx hZ hown w1 w2 w3 w4 eT A B hty h1 h2 h3 h4 h5 (by rw [hl2]; exact h5) N ge hsz hd hn hf hW hlo (fun T1 hh1 L1 vs1 X1 e1 N1 K1 _ q V1 => K T1 hh1 L1 X1 e1 N1 K1 ⟨k2, vs1, q.trans hl2, V1⟩)
end Walk
end Jvm.Own
namespace Jvm.Pilot.@@N@@
open Jvm Jvm.ClassFile Sem Op Lib Jvm.Free Jvm.Stand Jvm.LawKit Jvm.RoadKit Bundle Jvm.Pilot.@@N@@.Jvm.D
theorem pd_0 : parseMethodDescriptor "(IIZ)J" = some ⟨[.int, .int, .boolean], some .long⟩ := by decide +kernel
theorem pd_1 : parseMethodDescriptor "(J)Z" = some ⟨[.long], some .boolean⟩ := by decide +kernel

def own_sh (c l w : Int32) : Int64 := (1 : Int64) <<< ((2 * (4 * c + l - 1) + (if w = 0 then 1 else 0)) &&& 0x3f).toInt64
def own_less (c l w c' l' w' : Int32) : Prop := (¬ c = c' ∧ c < c') ∨ (c = c' ∧ ¬ l = l' ∧ l < l') ∨ (c = c' ∧ l = l' ∧ ¬ w = 0 ∧ w' = 0)
instance (c l w c' l' w' : Int32) : Decidable (own_less c l w c' l' w') := by unfold own_less; infer_instance
def own_c (k : Fin 8) : Int32 := Int32.ofNat k.val
def own_l (k : Fin 4) : Int32 := Int32.ofNat k.val + 1
def own_w (k : Fin 2) : Int32 := Int32.ofNat k.val
set_option maxRecDepth 65536 in
theorem own_bit : ∀ (c : Fin 8) (l : Fin 4) (w : Fin 2), own_sh (own_c c) (own_l l) (own_w w) ≠ 0 ∧ own_sh (own_c c) (own_l l) (own_w w) &&& (own_sh (own_c c) (own_l l) (own_w w) - 1) = 0 := by decide +kernel
set_option maxRecDepth 65536 in
theorem own_eq : ∀ (c : Fin 8) (l : Fin 4) (w : Fin 2) (c' : Fin 8) (l' : Fin 4) (w' : Fin 2), (own_sh (own_c c) (own_l l) (own_w w) = own_sh (own_c c') (own_l l') (own_w w') ↔ (own_c c = own_c c' ∧ own_l l = own_l l' ∧ own_w w = own_w w')) ∧ (own_sh (own_c c) (own_l l) (own_w w) ^^^ (-9223372036854775808) < own_sh (own_c c') (own_l l') (own_w w') ^^^ (-9223372036854775808) ↔ own_less (own_c c) (own_l l) (own_w w) (own_c c') (own_l l') (own_w w')) := by decide +kernel
theorem own_of {x : Int32} {k : Nat} (h0 : 0 ≤ x.toInt) (h1 : x.toInt < k) : ∃ j : Fin k, x = Int32.ofNat j.val := by
  refine ⟨⟨x.toInt.toNat, by omega⟩, Int32.toInt_inj.mp ?_⟩
  have hr := rng32 x
  rw [show Int32.ofNat x.toInt.toNat = Int32.ofInt (x.toInt.toNat : Int) from (Int32.ofInt_eq_ofNat).symm, Int32.toInt_ofInt_of_le (by omega) (by omega)]
  show x.toInt = _
  omega
theorem own_c_of (x : Int32) : ∃ k, x &&& 7 = own_c k := by
  have h := c_mask x 7 3 (by decide) (by decide)
  exact own_of (k := 8) (by omega) (by omega)
theorem own_l_of (x : Int32) : ∃ k, (x &&& 3) + 1 = own_l k := by
  have h := c_mask x 3 2 (by decide) (by decide)
  obtain ⟨k, hk⟩ := own_of (x := x &&& 3) (k := 4) (by omega) (by omega)
  exact ⟨k, by rw [hk]; rfl⟩
theorem own_w_of {b : Int32} (h : b = 0 ∨ b = 1) : ∃ k, b = own_w k := by
  rcases h with rfl | rfl
  · exact ⟨0, rfl⟩
  · exact ⟨1, rfl⟩

theorem d1_0 : decode prog_30_method_3_code 0 = .ok (.lconst 1, 1) := by decide +kernel
theorem d1_1 : decode prog_30_method_3_code 1 = .ok (.iconst 2, 1) := by decide +kernel
theorem d1_2 : decode prog_30_method_3_code 2 = .ok (.iconst 4, 1) := by decide +kernel
theorem d1_3 : decode prog_30_method_3_code 3 = .ok (.iload_n 0, 1) := by decide +kernel
theorem d1_4 : decode prog_30_method_3_code 4 = .ok (.imul, 1) := by decide +kernel
theorem d1_5 : decode prog_30_method_3_code 5 = .ok (.iload_n 1, 1) := by decide +kernel
theorem d1_6 : decode prog_30_method_3_code 6 = .ok (.iadd, 1) := by decide +kernel
theorem d1_7 : decode prog_30_method_3_code 7 = .ok (.iconst 1, 1) := by decide +kernel
theorem d1_8 : decode prog_30_method_3_code 8 = .ok (.isub, 1) := by decide +kernel
theorem d1_9 : decode prog_30_method_3_code 9 = .ok (.imul, 1) := by decide +kernel
theorem d1_10 : decode prog_30_method_3_code 10 = .ok (.iload_n 2, 1) := by decide +kernel
theorem d1_11 : decode prog_30_method_3_code 11 = .ok (.ifCond .eq 7, 3) := by decide +kernel
theorem d1_14 : decode prog_30_method_3_code 14 = .ok (.iconst 0, 1) := by decide +kernel
theorem d1_15 : decode prog_30_method_3_code 15 = .ok (.goto 4, 3) := by decide +kernel
theorem d1_18 : decode prog_30_method_3_code 18 = .ok (.iconst 1, 1) := by decide +kernel
theorem d1_19 : decode prog_30_method_3_code 19 = .ok (.iadd, 1) := by decide +kernel
theorem d1_20 : decode prog_30_method_3_code 20 = .ok (.lshl, 1) := by decide +kernel
theorem d1_21 : decode prog_30_method_3_code 21 = .ok (.lreturn, 1) := by decide +kernel
set_option maxRecDepth 65536 in
set_option maxHeartbeats 40000000 in
theorem m1 (l : Launch) (Z : State) (a0 : Array Value) (w : ∀ (i : Nat) {d : Jvm.Cond}, tables_1[i]? = some d → d.before a0 Z = true) (x0 : Int32) (x1 : Int32) (x2 : Int32)  (h0 : Heap)  :
    Own.Met l Z (⟨"com/example/tablier/tablier/DiamMoves", "shift", "(IIZ)J"⟩ : MethodName) prog_30_method_3_code 3 (some .long) [] ({ frames := 0, cells := 0, slots := 0, locals := 0 } : Room) #[(.int x0), (.int x1), (.int x2)] h0 (fun v h L => v = some (.long (own_sh x0 x1 x2)) ∧ h = h0 ∧ L = []) := by
  refine Own.Met.of (plainFor_of_name (by first | (simp [plainName, overriddenIn]; done) | decide +kernel)) ?_
  intro p e s m below meth c T0 hx hby hml hown hnm hret hlk hZ X0 e0
  have hown : s.vm.findClass "com/example/tablier/tablier/DiamMoves" = some m.cls := hown
  have hml : c.maxLocals = 3 := hml
  have hnm : meth.name = "shift" := hnm
  have ef : entryFrame m #[(.int x0), (.int x1), (.int x2)] 3 = mkF m 0 #[.val (.int x0), .val (.int x1), .val (.int x2)] [] := by first | (simp [entryFrame, mkF, argsToLocals, Value.category]; done) | rfl
  rw [ef]
  refine Own.lconst 1 X0 hx ((1 : Int64)) (hb hby d1_0) rfl rfl ?_
  refine Own.iconst 2 X0 hx ((2 : Int32)) (hb hby d1_1) rfl rfl ?_
  refine Own.iconst 3 X0 hx ((4 : Int32)) (hb hby d1_2) rfl rfl ?_
  refine Own.iloadN 4 X0 hx (hb hby d1_3) rfl rfl ?_
  refine Own.imul 5 X0 hx (hb hby d1_4) rfl rfl ?_
  refine Own.iloadN 6 X0 hx (hb hby d1_5) rfl rfl ?_
  refine Own.iadd 7 X0 hx (hb hby d1_6) rfl rfl ?_
  refine Own.iconst 8 X0 hx ((1 : Int32)) (hb hby d1_7) rfl rfl ?_
  refine Own.isub 9 X0 hx (hb hby d1_8) rfl rfl ?_
  refine Own.imul 10 X0 hx (hb hby d1_9) rfl rfl ?_
  refine Own.iloadN 11 X0 hx (hb hby d1_10) rfl rfl ?_
  refine Own.if_eq 18 14 X0 hx (hb hby d1_11) (by decide) rfl (fun h1 => ?_) (fun h1 => ?_)
  ·
    refine Own.iconst 19 X0 hx ((1 : Int32)) (hb hby d1_18) rfl rfl ?_
    refine Own.iadd 20 X0 hx (hb hby d1_19) rfl rfl ?_
    refine Own.lshl 21 X0 hx (hb hby d1_20) rfl rfl ?_
    refine Own.retLong X0 hx hlk hret (hb hby d1_21) (by decide) (by decide) ?_
    exact ⟨by rw [own_sh, if_pos h1], e0, rfl⟩
  ·
    refine Own.iconst 15 X0 hx ((0 : Int32)) (hb hby d1_14) rfl rfl ?_
    refine Own.goto 19 X0 hx (hb hby d1_15) (by decide) ?_
    refine Own.iadd 20 X0 hx (hb hby d1_19) rfl rfl ?_
    refine Own.lshl 21 X0 hx (hb hby d1_20) rfl rfl ?_
    refine Own.retLong X0 hx hlk hret (hb hby d1_21) (by decide) (by decide) ?_
    exact ⟨by rw [own_sh, if_neg h1], e0, rfl⟩
theorem d2_0 : decode method_2_code 0 = .ok (.lload_n 0, 1) := by decide +kernel
theorem d2_1 : decode method_2_code 1 = .ok (.lconst 0, 1) := by decide +kernel
theorem d2_2 : decode method_2_code 2 = .ok (.lcmp, 1) := by decide +kernel
theorem d2_3 : decode method_2_code 3 = .ok (.ifCond .eq 17, 3) := by decide +kernel
theorem d2_6 : decode method_2_code 6 = .ok (.lload_n 0, 1) := by decide +kernel
theorem d2_7 : decode method_2_code 7 = .ok (.lload_n 0, 1) := by decide +kernel
theorem d2_8 : decode method_2_code 8 = .ok (.lconst 1, 1) := by decide +kernel
theorem d2_9 : decode method_2_code 9 = .ok (.lsub, 1) := by decide +kernel
theorem d2_10 : decode method_2_code 10 = .ok (.land, 1) := by decide +kernel
theorem d2_11 : decode method_2_code 11 = .ok (.lconst 0, 1) := by decide +kernel
theorem d2_12 : decode method_2_code 12 = .ok (.lcmp, 1) := by decide +kernel
theorem d2_13 : decode method_2_code 13 = .ok (.ifCond .ne 7, 3) := by decide +kernel
theorem d2_16 : decode method_2_code 16 = .ok (.iconst 1, 1) := by decide +kernel
theorem d2_17 : decode method_2_code 17 = .ok (.goto 4, 3) := by decide +kernel
theorem d2_20 : decode method_2_code 20 = .ok (.iconst 0, 1) := by decide +kernel
theorem d2_21 : decode method_2_code 21 = .ok (.ireturn, 1) := by decide +kernel
set_option maxRecDepth 65536 in
set_option maxHeartbeats 40000000 in
theorem m2 (l : Launch) (Z : State) (a0 : Array Value) (w : ∀ (i : Nat) {d : Jvm.Cond}, tables_1[i]? = some d → d.before a0 Z = true) (x0 : Int64)  (h0 : Heap)  :
    Own.Met l Z (⟨"com/example/tablier/tablier/DiamMovesShiftPinLaw", "singleBit", "(J)Z"⟩ : MethodName) method_2_code 2 (some .boolean) [] ({ frames := 0, cells := 0, slots := 0, locals := 0 } : Room) #[(.long x0)] h0 (fun v h L => ∃ r : Int32, v = some (.int r) ∧ (r = 1 ↔ (x0 ≠ 0 ∧ x0 &&& (x0 - 1) = 0)) ∧ h = h0 ∧ L = []) := by
  refine Own.Met.of (plainFor_of_name (by first | (simp [plainName, overriddenIn]; done) | decide +kernel)) ?_
  intro p e s m below meth c T0 hx hby hml hown hnm hret hlk hZ X0 e0
  have hown : s.vm.findClass "com/example/tablier/tablier/DiamMovesShiftPinLaw" = some m.cls := hown
  have hml : c.maxLocals = 2 := hml
  have hnm : meth.name = "singleBit" := hnm
  have ef : entryFrame m #[(.long x0)] 2 = mkF m 0 #[.val (.long x0), .second] [] := by first | (simp [entryFrame, mkF, argsToLocals, Value.category]; done) | rfl
  rw [ef]
  refine Own.lloadN 1 X0 hx (hb hby d2_0) rfl rfl ?_
  refine Own.lconst 2 X0 hx ((0 : Int64)) (hb hby d2_1) rfl rfl ?_
  refine Own.lif_eq 20 6 X0 hx (hb hby d2_2) rfl (hb hby d2_3) (by decide) rfl (fun h1 => ?_) (fun h1 => ?_)
  ·
    refine Own.iconst 21 X0 hx ((0 : Int32)) (hb hby d2_20) rfl rfl ?_
    refine Own.retBool X0 hx hlk hret (hb hby d2_21) (by decide) (by decide) ?_
    exact ⟨0, rfl, ⟨fun q => absurd q (by decide), fun q => absurd h1 q.1⟩, e0, rfl⟩
  ·
    refine Own.lloadN 7 X0 hx (hb hby d2_6) rfl rfl ?_
    refine Own.lloadN 8 X0 hx (hb hby d2_7) rfl rfl ?_
    refine Own.lconst 9 X0 hx ((1 : Int64)) (hb hby d2_8) rfl rfl ?_
    refine Own.lsub 10 X0 hx (hb hby d2_9) rfl rfl ?_
    refine Own.land 11 X0 hx (hb hby d2_10) rfl rfl ?_
    refine Own.lconst 12 X0 hx ((0 : Int64)) (hb hby d2_11) rfl rfl ?_
    refine Own.lif_ne 20 16 X0 hx (hb hby d2_12) rfl (hb hby d2_13) (by decide) rfl (fun h2 => ?_) (fun h2 => ?_)
    ·
      refine Own.iconst 21 X0 hx ((0 : Int32)) (hb hby d2_20) rfl rfl ?_
      refine Own.retBool X0 hx hlk hret (hb hby d2_21) (by decide) (by decide) ?_
      exact ⟨0, rfl, ⟨fun q => absurd q (by decide), fun q => absurd q.2 h2⟩, e0, rfl⟩
    ·
      refine Own.iconst 17 X0 hx ((1 : Int32)) (hb hby d2_16) rfl rfl ?_
      refine Own.goto 21 X0 hx (hb hby d2_17) (by decide) ?_
      refine Own.retBool X0 hx hlk hret (hb hby d2_21) (by decide) (by decide) ?_
      exact ⟨1, rfl, ⟨fun _ => ⟨h1, h2⟩, fun _ => rfl⟩, e0, rfl⟩
set_option maxRecDepth 65536 in
set_option maxHeartbeats 40000000 in
theorem m0 (l : Launch) (Z : State) (a0 : Array Value) (w : ∀ (i : Nat) {d : Jvm.Cond}, tables_1[i]? = some d → d.before a0 Z = true) (x0 : Int32) (x1 : Int32) (x2 : Int32) (x3 : Int32) (x4 : Int32) (x5 : Int32)  (h0 : Heap)  :
    Own.Met l Z x code maxLocals ret tables_1 room_1 #[(.int x0), (.int x1), (.int x2), (.int x3), (.int x4), (.int x5)] h0 (fun v h L => v = some (.int 1) ∧ Fr h0.size L) := by
  refine Own.Met.of (plainFor_of_name (by first | (simp [plainName, overriddenIn]; done) | decide +kernel)) ?_
  intro p e s m below meth c T0 hx hby hml hown hnm hret hlk hZ X0 e0
  have hown : s.vm.findClass "com/example/tablier/tablier/DiamMovesShiftPinLaw" = some m.cls := hown
  have hml : c.maxLocals = 22 := hml
  have hnm : meth.name = "law" := hnm
  have hret : meth.sig.returnType = some .boolean := hret
  have ef : entryFrame m #[(.int x0), (.int x1), (.int x2), (.int x3), (.int x4), (.int x5)] maxLocals = mkF m 0 #[.val (.int x0), .val (.int x1), .val (.int x2), .val (.int x3), .val (.int x4), .val (.int x5), .unset, .unset, .unset, .unset, .unset, .unset, .unset, .unset, .unset, .unset, .unset, .unset, .unset, .unset, .unset, .unset] [] := by first | (simp [entryFrame, mkF, argsToLocals, Value.category, maxLocals]; done) | rfl
  rw [ef]
  refine Own.iloadN 1 X0 hx (hb hby at_0) rfl rfl ?_
  refine Own.bipush 3 X0 hx ((7 : Int32)) (hb hby at_1) rfl rfl ?_
  refine Own.iand 4 X0 hx (hb hby at_3) rfl rfl ?_
  refine Own.istore 6 (fun v6_4 => #[.val (.int x0), .val (.int x1), .val (.int x2), .val (.int x3), .val (.int x4), .val (.int x5), .val (.int v6_4), .unset, .unset, .unset, .unset, .unset, .unset, .unset, .unset, .unset, .unset, .unset, .unset, .unset, .unset, .unset]) X0 hx (hb hby at_4) rfl (fun _ => rfl) fun v6_4 hv6_4 => ?_
  refine Own.iloadN 7 X0 hx (hb hby at_6) rfl rfl ?_
  refine Own.iconst 8 X0 hx ((3 : Int32)) (hb hby at_7) rfl rfl ?_
  refine Own.iand 9 X0 hx (hb hby at_8) rfl rfl ?_
  refine Own.iconst 10 X0 hx ((1 : Int32)) (hb hby at_9) rfl rfl ?_
  refine Own.iadd 11 X0 hx (hb hby at_10) rfl rfl ?_
  refine Own.istore 13 (fun v7_11 => #[.val (.int x0), .val (.int x1), .val (.int x2), .val (.int x3), .val (.int x4), .val (.int x5), .val (.int v6_4), .val (.int v7_11), .unset, .unset, .unset, .unset, .unset, .unset, .unset, .unset, .unset, .unset, .unset, .unset, .unset, .unset]) X0 hx (hb hby at_11) rfl (fun _ => rfl) fun v7_11 hv7_11 => ?_
  refine Own.iloadN 14 X0 hx (hb hby at_13) rfl rfl ?_
  refine Own.iconst 15 X0 hx ((1 : Int32)) (hb hby at_14) rfl rfl ?_
  refine Own.iand 16 X0 hx (hb hby at_15) rfl rfl ?_
  have J24 : ∀ (b1 : Int32) (hb1 : b1 = 0 ∨ b1 = 1), Own.Ends p.tables e below s (fun v h L => v = some (.int 1) ∧ Fr h0.size L) room_1.cells room_1.slots (T0.setTop (mkF m 24 #[.val (.int x0), .val (.int x1), .val (.int x2), .val (.int x3), .val (.int x4), .val (.int x5), .val (.int v6_4), .val (.int v7_11), .unset, .unset, .unset, .unset, .unset, .unset, .unset, .unset, .unset, .unset, .unset, .unset, .unset, .unset] [(.int b1)])) := by
    intro b1 hb1
    refine Own.istoreV 26 #[.val (.int x0), .val (.int x1), .val (.int x2), .val (.int x3), .val (.int x4), .val (.int x5), .val (.int v6_4), .val (.int v7_11), .val (.int b1), .unset, .unset, .unset, .unset, .unset, .unset, .unset, .unset, .unset, .unset, .unset, .unset, .unset] X0 hx (hb hby at_24) rfl rfl ?_
    refine Own.iloadN 27 X0 hx (hb hby at_26) rfl rfl ?_
    refine Own.bipush 29 X0 hx ((7 : Int32)) (hb hby at_27) rfl rfl ?_
    refine Own.iand 30 X0 hx (hb hby at_29) rfl rfl ?_
    refine Own.istore 32 (fun v9_30 => #[.val (.int x0), .val (.int x1), .val (.int x2), .val (.int x3), .val (.int x4), .val (.int x5), .val (.int v6_4), .val (.int v7_11), .val (.int b1), .val (.int v9_30), .unset, .unset, .unset, .unset, .unset, .unset, .unset, .unset, .unset, .unset, .unset, .unset]) X0 hx (hb hby at_30) rfl (fun _ => rfl) fun v9_30 hv9_30 => ?_
    refine Own.iload 34 X0 hx (hb hby at_32) rfl rfl ?_
    refine Own.iconst 35 X0 hx ((3 : Int32)) (hb hby at_34) rfl rfl ?_
    refine Own.iand 36 X0 hx (hb hby at_35) rfl rfl ?_
    refine Own.iconst 37 X0 hx ((1 : Int32)) (hb hby at_36) rfl rfl ?_
    refine Own.iadd 38 X0 hx (hb hby at_37) rfl rfl ?_
    refine Own.istore 40 (fun v10_38 => #[.val (.int x0), .val (.int x1), .val (.int x2), .val (.int x3), .val (.int x4), .val (.int x5), .val (.int v6_4), .val (.int v7_11), .val (.int b1), .val (.int v9_30), .val (.int v10_38), .unset, .unset, .unset, .unset, .unset, .unset, .unset, .unset, .unset, .unset, .unset]) X0 hx (hb hby at_38) rfl (fun _ => rfl) fun v10_38 hv10_38 => ?_
    refine Own.iload 42 X0 hx (hb hby at_40) rfl rfl ?_
    refine Own.iconst 43 X0 hx ((1 : Int32)) (hb hby at_42) rfl rfl ?_
    refine Own.iand 44 X0 hx (hb hby at_43) rfl rfl ?_
    have J52 : ∀ (b2 : Int32) (hb2 : b2 = 0 ∨ b2 = 1), Own.Ends p.tables e below s (fun v h L => v = some (.int 1) ∧ Fr h0.size L) room_1.cells room_1.slots (T0.setTop (mkF m 52 #[.val (.int x0), .val (.int x1), .val (.int x2), .val (.int x3), .val (.int x4), .val (.int x5), .val (.int v6_4), .val (.int v7_11), .val (.int b1), .val (.int v9_30), .val (.int v10_38), .unset, .unset, .unset, .unset, .unset, .unset, .unset, .unset, .unset, .unset, .unset] [(.int b2)])) := by
      intro b2 hb2
      refine Own.istoreV 54 #[.val (.int x0), .val (.int x1), .val (.int x2), .val (.int x3), .val (.int x4), .val (.int x5), .val (.int v6_4), .val (.int v7_11), .val (.int b1), .val (.int v9_30), .val (.int v10_38), .val (.int b2), .unset, .unset, .unset, .unset, .unset, .unset, .unset, .unset, .unset, .unset] X0 hx (hb hby at_52) rfl rfl ?_
      refine Own.iload 56 X0 hx (hb hby at_54) rfl rfl ?_
      refine Own.iload 58 X0 hx (hb hby at_56) rfl rfl ?_
      refine Own.iload 60 X0 hx (hb hby at_58) rfl rfl ?_
      refine Own.callSt 63 0 [(.int v6_4), (.int v7_11), (.int b1)] [] X0 hx hZ hown (m1 l Z a0 w v6_4 v7_11 b1 h0) (w 0 rfl) (w 1 rfl) (w 2 rfl) (w 3 rfl) (by decide) e0 (by decide) (by decide) (by decide) (by decide) (by rw [hml]; rfl) (lenOf pd_0 rfl) rfl (Nat.le_of_eq rfl) (hb hby at_60) rfl ?_
      rintro vv T1 L1 X1 ⟨rfl, hh1, rfl⟩
      refine Own.lstore 65 (fun v12_63 => #[.val (.int x0), .val (.int x1), .val (.int x2), .val (.int x3), .val (.int x4), .val (.int x5), .val (.int v6_4), .val (.int v7_11), .val (.int b1), .val (.int v9_30), .val (.int v10_38), .val (.int b2), .val (.long v12_63), .second, .unset, .unset, .unset, .unset, .unset, .unset, .unset, .unset]) X1 hx (hb hby at_63) rfl (fun _ => rfl) fun v12_63 hv12_63 => ?_
      refine Own.iload 67 X1 hx (hb hby at_65) rfl rfl ?_
      refine Own.iload 69 X1 hx (hb hby at_67) rfl rfl ?_
      refine Own.iload 71 X1 hx (hb hby at_69) rfl rfl ?_
      refine Own.callSt 74 0 [(.int v9_30), (.int v10_38), (.int b2)] [] X1 hx hZ hown (m1 l Z a0 w v9_30 v10_38 b2 h0) (w 0 rfl) (w 1 rfl) (w 2 rfl) (w 3 rfl) (by decide) hh1 (by decide) (by decide) (by decide) (by decide) (by rw [hml]; rfl) (lenOf pd_0 rfl) rfl (Nat.le_of_eq rfl) (hb hby at_71) rfl ?_
      rintro vv T2 L2 X2 ⟨rfl, hh2, rfl⟩
      refine Own.lstore 76 (fun v14_74 => #[.val (.int x0), .val (.int x1), .val (.int x2), .val (.int x3), .val (.int x4), .val (.int x5), .val (.int v6_4), .val (.int v7_11), .val (.int b1), .val (.int v9_30), .val (.int v10_38), .val (.int b2), .val (.long v12_63), .second, .val (.long v14_74), .second, .unset, .unset, .unset, .unset, .unset, .unset]) X2 hx (hb hby at_74) rfl (fun _ => rfl) fun v14_74 hv14_74 => ?_
      refine Own.lload 78 X2 hx (hb hby at_76) rfl rfl ?_
      obtain ⟨k1, q1⟩ := own_c_of x0
      obtain ⟨k2, q2⟩ := own_l_of x1
      obtain ⟨k3, q3⟩ := own_w_of hb1
      obtain ⟨k4, q4⟩ := own_c_of x3
      obtain ⟨k5, q5⟩ := own_l_of x4
      obtain ⟨k6, q6⟩ := own_w_of hb2
      rw [q1] at hv6_4
      rw [q2] at hv7_11
      rw [q4] at hv9_30
      rw [q5] at hv10_38
      have FB1 := own_bit k1 k2 k3
      have FB2 := own_bit k4 k5 k6
      obtain ⟨FE, FL⟩ := own_eq k1 k2 k3 k4 k5 k6
      rw [← hv6_4, ← hv7_11, ← q3] at FB1 FE FL
      rw [← hv9_30, ← hv10_38, ← q6] at FB2 FE FL
      rw [← hv12_63] at FB1 FE FL
      rw [← hv14_74] at FB2 FE FL
      refine Own.callSt 81 0 [(.long v12_63)] [] X2 hx hZ hown (m2 l Z a0 w v12_63 h0) (w 4 rfl) (w 5 rfl) (w 6 rfl) (w 7 rfl) (by decide) hh2 (by decide) (by decide) (by decide) (by decide) (by rw [hml]; rfl) (lenOf pd_1 rfl) rfl (Nat.le_of_eq rfl) (hb hby at_78) rfl ?_
      rintro vv T3 L3 X3 ⟨r1, rfl, hr, hh3, rfl⟩
      obtain rfl : r1 = 1 := hr.mpr FB1
      refine Own.if_eq 92 84 X3 hx (hb hby at_81) (by decide) rfl (fun tk => absurd tk (by decide)) (fun tk => ?_)
      refine Own.lload 86 X3 hx (hb hby at_84) rfl rfl ?_
      refine Own.callSt 89 0 [(.long v14_74)] [] X3 hx hZ hown (m2 l Z a0 w v14_74 h0) (w 4 rfl) (w 5 rfl) (w 6 rfl) (w 7 rfl) (by decide) hh3 (by decide) (by decide) (by decide) (by decide) (by rw [hml]; rfl) (lenOf pd_1 rfl) rfl (Nat.le_of_eq rfl) (hb hby at_86) rfl ?_
      rintro vv T4 L4 X4 ⟨r2, rfl, hr2, hh4, rfl⟩
      obtain rfl : r2 = 1 := hr2.mpr FB2
      refine Own.if_ne 94 92 X4 hx (hb hby at_89) (by decide) rfl (fun tk => ?_) (fun tk => absurd tk (by decide))
      refine Own.iload 96 X4 hx (hb hby at_94) rfl rfl ?_
      refine Own.iload 98 X4 hx (hb hby at_96) rfl rfl ?_
      have J187 : ∀ (s16 s17 : Int32) (h16 : s16 = 1 ∧ (v6_4 = v9_30 ∧ v7_11 = v10_38 ∧ b1 = b2) ∨ s16 = 0 ∧ ¬ (v6_4 = v9_30 ∧ v7_11 = v10_38 ∧ b1 = b2)) (h17 : s17 = 1 ∧ own_less v6_4 v7_11 b1 v9_30 v10_38 b2 ∨ s17 = 0 ∧ ¬ own_less v6_4 v7_11 b1 v9_30 v10_38 b2), Own.Ends p.tables e below s (fun v h L => v = some (.int 1) ∧ Fr h0.size L) room_1.cells room_1.slots (T4.setTop (mkF m 187 #[.val (.int x0), .val (.int x1), .val (.int x2), .val (.int x3), .val (.int x4), .val (.int x5), .val (.int v6_4), .val (.int v7_11), .val (.int b1), .val (.int v9_30), .val (.int v10_38), .val (.int b2), .val (.long v12_63), .second, .val (.long v14_74), .second, .val (.int s16), .val (.int s17), .unset, .unset, .unset, .unset] [])) := by
        intro s16 s17 h16 h17
        refine Own.lload 189 X4 hx (hb hby at_187) rfl rfl ?_
        refine Own.ldc2Long 192 X4 hx hZ ((-9223372036854775808 : Int64)) hown (w 8 rfl) (hb hby at_189) rfl ?_
        refine Own.lxor 193 X4 hx (hb hby at_192) rfl rfl ?_
        refine Own.lstore 195 (fun v18_193 => #[.val (.int x0), .val (.int x1), .val (.int x2), .val (.int x3), .val (.int x4), .val (.int x5), .val (.int v6_4), .val (.int v7_11), .val (.int b1), .val (.int v9_30), .val (.int v10_38), .val (.int b2), .val (.long v12_63), .second, .val (.long v14_74), .second, .val (.int s16), .val (.int s17), .val (.long v18_193), .second, .unset, .unset]) X4 hx (hb hby at_193) rfl (fun _ => rfl) fun v18_193 hv18_193 => ?_
        refine Own.lload 197 X4 hx (hb hby at_195) rfl rfl ?_
        refine Own.ldc2Long 200 X4 hx hZ ((-9223372036854775808 : Int64)) hown (w 8 rfl) (hb hby at_197) rfl ?_
        refine Own.lxor 201 X4 hx (hb hby at_200) rfl rfl ?_
        refine Own.lstore 203 (fun v20_201 => #[.val (.int x0), .val (.int x1), .val (.int x2), .val (.int x3), .val (.int x4), .val (.int x5), .val (.int v6_4), .val (.int v7_11), .val (.int b1), .val (.int v9_30), .val (.int v10_38), .val (.int b2), .val (.long v12_63), .second, .val (.long v14_74), .second, .val (.int s16), .val (.int s17), .val (.long v18_193), .second, .val (.long v20_201), .second]) X4 hx (hb hby at_201) rfl (fun _ => rfl) fun v20_201 hv20_201 => ?_
        refine Own.lload 205 X4 hx (hb hby at_203) rfl rfl ?_
        refine Own.lload 207 X4 hx (hb hby at_205) rfl rfl ?_
        rw [← hv18_193, ← hv20_201] at FL
        refine Own.lif_ne 215 211 X4 hx (hb hby at_207) rfl (hb hby at_208) (by decide) rfl (fun k7 => ?_) (fun k7 => ?_)
        ·
          refine Own.iconst 216 X4 hx ((0 : Int32)) (hb hby at_215) rfl rfl ?_
          refine Own.iload 218 X4 hx (hb hby at_216) rfl rfl ?_
          refine Own.icmp_ne 243 221 X4 hx (hb hby at_218) (by decide) rfl (fun tk => False.elim (by rcases h16 with ⟨rfl, q⟩ | ⟨rfl, q⟩ <;> first | exact tk rfl | exact absurd (FE.mpr q) k7)) (fun tk => ?_)
          refine Own.lload 223 X4 hx (hb hby at_221) rfl rfl ?_
          refine Own.lload 225 X4 hx (hb hby at_223) rfl rfl ?_
          refine Own.lif_ge 233 229 X4 hx (hb hby at_225) rfl (hb hby at_226) (by decide) rfl (fun k8 => ?_) (fun k8 => ?_)
          ·
            refine Own.iconst 234 X4 hx ((0 : Int32)) (hb hby at_233) rfl rfl ?_
            refine Own.iload 236 X4 hx (hb hby at_234) rfl rfl ?_
            refine Own.icmp_ne 243 239 X4 hx (hb hby at_236) (by decide) rfl (fun tk => False.elim (by rcases h17 with ⟨rfl, q⟩ | ⟨rfl, q⟩ <;> first | exact tk rfl | exact absurd (FL.mpr q) k8)) (fun tk => ?_)
            refine Own.iconst 240 X4 hx ((1 : Int32)) (hb hby at_239) rfl rfl ?_
            refine Own.goto 244 X4 hx (hb hby at_240) (by decide) ?_
            refine Own.retBool X4 hx hlk hret (hb hby at_244) (by decide) (by decide) ?_
            exact ⟨rfl, Fr.nil _⟩
          ·
            refine Own.iconst 230 X4 hx ((1 : Int32)) (hb hby at_229) rfl rfl ?_
            refine Own.goto 234 X4 hx (hb hby at_230) (by decide) ?_
            refine Own.iload 236 X4 hx (hb hby at_234) rfl rfl ?_
            refine Own.icmp_ne 243 239 X4 hx (hb hby at_236) (by decide) rfl (fun tk => False.elim (by rcases h17 with ⟨rfl, q⟩ | ⟨rfl, q⟩ <;> first | exact tk rfl | exact absurd (FL.mp k8) q)) (fun tk => ?_)
            refine Own.iconst 240 X4 hx ((1 : Int32)) (hb hby at_239) rfl rfl ?_
            refine Own.goto 244 X4 hx (hb hby at_240) (by decide) ?_
            refine Own.retBool X4 hx hlk hret (hb hby at_244) (by decide) (by decide) ?_
            exact ⟨rfl, Fr.nil _⟩
        ·
          refine Own.iconst 212 X4 hx ((1 : Int32)) (hb hby at_211) rfl rfl ?_
          refine Own.goto 216 X4 hx (hb hby at_212) (by decide) ?_
          refine Own.iload 218 X4 hx (hb hby at_216) rfl rfl ?_
          refine Own.icmp_ne 243 221 X4 hx (hb hby at_218) (by decide) rfl (fun tk => False.elim (by rcases h16 with ⟨rfl, q⟩ | ⟨rfl, q⟩ <;> first | exact tk rfl | exact absurd (FE.mp k7) q)) (fun tk => ?_)
          refine Own.lload 223 X4 hx (hb hby at_221) rfl rfl ?_
          refine Own.lload 225 X4 hx (hb hby at_223) rfl rfl ?_
          refine Own.lif_ge 233 229 X4 hx (hb hby at_225) rfl (hb hby at_226) (by decide) rfl (fun k8 => ?_) (fun k8 => ?_)
          ·
            refine Own.iconst 234 X4 hx ((0 : Int32)) (hb hby at_233) rfl rfl ?_
            refine Own.iload 236 X4 hx (hb hby at_234) rfl rfl ?_
            refine Own.icmp_ne 243 239 X4 hx (hb hby at_236) (by decide) rfl (fun tk => False.elim (by rcases h17 with ⟨rfl, q⟩ | ⟨rfl, q⟩ <;> first | exact tk rfl | exact absurd (FL.mpr q) k8)) (fun tk => ?_)
            refine Own.iconst 240 X4 hx ((1 : Int32)) (hb hby at_239) rfl rfl ?_
            refine Own.goto 244 X4 hx (hb hby at_240) (by decide) ?_
            refine Own.retBool X4 hx hlk hret (hb hby at_244) (by decide) (by decide) ?_
            exact ⟨rfl, Fr.nil _⟩
          ·
            refine Own.iconst 230 X4 hx ((1 : Int32)) (hb hby at_229) rfl rfl ?_
            refine Own.goto 234 X4 hx (hb hby at_230) (by decide) ?_
            refine Own.iload 236 X4 hx (hb hby at_234) rfl rfl ?_
            refine Own.icmp_ne 243 239 X4 hx (hb hby at_236) (by decide) rfl (fun tk => False.elim (by rcases h17 with ⟨rfl, q⟩ | ⟨rfl, q⟩ <;> first | exact tk rfl | exact absurd (FL.mp k8) q)) (fun tk => ?_)
            refine Own.iconst 240 X4 hx ((1 : Int32)) (hb hby at_239) rfl rfl ?_
            refine Own.goto 244 X4 hx (hb hby at_240) (by decide) ?_
            refine Own.retBool X4 hx hlk hret (hb hby at_244) (by decide) (by decide) ?_
            exact ⟨rfl, Fr.nil _⟩
      have J120 : ∀ (s16 : Int32) (h16 : s16 = 1 ∧ (v6_4 = v9_30 ∧ v7_11 = v10_38 ∧ b1 = b2) ∨ s16 = 0 ∧ ¬ (v6_4 = v9_30 ∧ v7_11 = v10_38 ∧ b1 = b2)), Own.Ends p.tables e below s (fun v h L => v = some (.int 1) ∧ Fr h0.size L) room_1.cells room_1.slots (T4.setTop (mkF m 120 #[.val (.int x0), .val (.int x1), .val (.int x2), .val (.int x3), .val (.int x4), .val (.int x5), .val (.int v6_4), .val (.int v7_11), .val (.int b1), .val (.int v9_30), .val (.int v10_38), .val (.int b2), .val (.long v12_63), .second, .val (.long v14_74), .second, .unset, .unset, .unset, .unset, .unset, .unset] [(.int s16)])) := by
        intro s16 h16
        refine Own.istoreV 122 #[.val (.int x0), .val (.int x1), .val (.int x2), .val (.int x3), .val (.int x4), .val (.int x5), .val (.int v6_4), .val (.int v7_11), .val (.int b1), .val (.int v9_30), .val (.int v10_38), .val (.int b2), .val (.long v12_63), .second, .val (.long v14_74), .second, .val (.int s16), .unset, .unset, .unset, .unset, .unset] X4 hx (hb hby at_120) rfl rfl ?_
        refine Own.iload 124 X4 hx (hb hby at_122) rfl rfl ?_
        refine Own.iload 126 X4 hx (hb hby at_124) rfl rfl ?_
        refine Own.icmp_eq 146 129 X4 hx (hb hby at_126) (by decide) rfl (fun c1 => ?_) (fun c1 => ?_)
        ·
          refine Own.iload 148 X4 hx (hb hby at_146) rfl rfl ?_
          refine Own.iload 150 X4 hx (hb hby at_148) rfl rfl ?_
          refine Own.icmp_eq 170 153 X4 hx (hb hby at_150) (by decide) rfl (fun c2 => ?_) (fun c2 => ?_)
          ·
            refine Own.iload 172 X4 hx (hb hby at_170) rfl rfl ?_
            refine Own.if_eq 184 175 X4 hx (hb hby at_172) (by decide) rfl (fun c3 => ?_) (fun c3 => ?_)
            ·
              refine Own.iconst 185 X4 hx ((0 : Int32)) (hb hby at_184) rfl rfl ?_
              refine Own.istoreV 187 #[.val (.int x0), .val (.int x1), .val (.int x2), .val (.int x3), .val (.int x4), .val (.int x5), .val (.int v6_4), .val (.int v7_11), .val (.int b1), .val (.int v9_30), .val (.int v10_38), .val (.int b2), .val (.long v12_63), .second, .val (.long v14_74), .second, .val (.int s16), .val (.int (0 : Int32)), .unset, .unset, .unset, .unset] X4 hx (hb hby at_185) rfl rfl ?_
              exact J187 s16 0 h16 (Or.inr ⟨rfl, fun q => by rcases q with q | q | q; exact q.1 c1; exact q.2.1 c2; exact q.2.2.1 c3⟩)
            ·
              refine Own.iload 177 X4 hx (hb hby at_175) rfl rfl ?_
              refine Own.if_ne 184 180 X4 hx (hb hby at_177) (by decide) rfl (fun c4 => ?_) (fun c4 => ?_)
              ·
                refine Own.iconst 185 X4 hx ((0 : Int32)) (hb hby at_184) rfl rfl ?_
                refine Own.istoreV 187 #[.val (.int x0), .val (.int x1), .val (.int x2), .val (.int x3), .val (.int x4), .val (.int x5), .val (.int v6_4), .val (.int v7_11), .val (.int b1), .val (.int v9_30), .val (.int v10_38), .val (.int b2), .val (.long v12_63), .second, .val (.long v14_74), .second, .val (.int s16), .val (.int (0 : Int32)), .unset, .unset, .unset, .unset] X4 hx (hb hby at_185) rfl rfl ?_
                exact J187 s16 0 h16 (Or.inr ⟨rfl, fun q => by rcases q with q | q | q; exact q.1 c1; exact q.2.1 c2; exact c4 q.2.2.2⟩)
              ·
                refine Own.iconst 181 X4 hx ((1 : Int32)) (hb hby at_180) rfl rfl ?_
                refine Own.goto 185 X4 hx (hb hby at_181) (by decide) ?_
                refine Own.istoreV 187 #[.val (.int x0), .val (.int x1), .val (.int x2), .val (.int x3), .val (.int x4), .val (.int x5), .val (.int v6_4), .val (.int v7_11), .val (.int b1), .val (.int v9_30), .val (.int v10_38), .val (.int b2), .val (.long v12_63), .second, .val (.long v14_74), .second, .val (.int s16), .val (.int (1 : Int32)), .unset, .unset, .unset, .unset] X4 hx (hb hby at_185) rfl rfl ?_
                exact J187 s16 1 h16 (Or.inl ⟨rfl, Or.inr (Or.inr ⟨c1, c2, c3, c4⟩)⟩)
          ·
            refine Own.iload 155 X4 hx (hb hby at_153) rfl rfl ?_
            refine Own.iload 157 X4 hx (hb hby at_155) rfl rfl ?_
            refine Own.icmp_ge 164 160 X4 hx (hb hby at_157) (by decide) rfl (fun c3 => ?_) (fun c3 => ?_)
            ·
              refine Own.iconst 165 X4 hx ((0 : Int32)) (hb hby at_164) rfl rfl ?_
              refine Own.istoreV 167 #[.val (.int x0), .val (.int x1), .val (.int x2), .val (.int x3), .val (.int x4), .val (.int x5), .val (.int v6_4), .val (.int v7_11), .val (.int b1), .val (.int v9_30), .val (.int v10_38), .val (.int b2), .val (.long v12_63), .second, .val (.long v14_74), .second, .val (.int s16), .val (.int (0 : Int32)), .unset, .unset, .unset, .unset] X4 hx (hb hby at_165) rfl rfl ?_
              refine Own.goto 187 X4 hx (hb hby at_167) (by decide) ?_
              exact J187 s16 0 h16 (Or.inr ⟨rfl, fun q => by rcases q with q | q | q; exact q.1 c1; exact c3 q.2.2; exact c2 q.2.1⟩)
            ·
              refine Own.iconst 161 X4 hx ((1 : Int32)) (hb hby at_160) rfl rfl ?_
              refine Own.goto 165 X4 hx (hb hby at_161) (by decide) ?_
              refine Own.istoreV 167 #[.val (.int x0), .val (.int x1), .val (.int x2), .val (.int x3), .val (.int x4), .val (.int x5), .val (.int v6_4), .val (.int v7_11), .val (.int b1), .val (.int v9_30), .val (.int v10_38), .val (.int b2), .val (.long v12_63), .second, .val (.long v14_74), .second, .val (.int s16), .val (.int (1 : Int32)), .unset, .unset, .unset, .unset] X4 hx (hb hby at_165) rfl rfl ?_
              refine Own.goto 187 X4 hx (hb hby at_167) (by decide) ?_
              exact J187 s16 1 h16 (Or.inl ⟨rfl, Or.inr (Or.inl ⟨c1, c2, c3⟩)⟩)
        ·
          refine Own.iload 131 X4 hx (hb hby at_129) rfl rfl ?_
          refine Own.iload 133 X4 hx (hb hby at_131) rfl rfl ?_
          refine Own.icmp_ge 140 136 X4 hx (hb hby at_133) (by decide) rfl (fun c2 => ?_) (fun c2 => ?_)
          ·
            refine Own.iconst 141 X4 hx ((0 : Int32)) (hb hby at_140) rfl rfl ?_
            refine Own.istoreV 143 #[.val (.int x0), .val (.int x1), .val (.int x2), .val (.int x3), .val (.int x4), .val (.int x5), .val (.int v6_4), .val (.int v7_11), .val (.int b1), .val (.int v9_30), .val (.int v10_38), .val (.int b2), .val (.long v12_63), .second, .val (.long v14_74), .second, .val (.int s16), .val (.int (0 : Int32)), .unset, .unset, .unset, .unset] X4 hx (hb hby at_141) rfl rfl ?_
            refine Own.goto 187 X4 hx (hb hby at_143) (by decide) ?_
            exact J187 s16 0 h16 (Or.inr ⟨rfl, fun q => by rcases q with q | q | q; exact c2 q.2; exact c1 q.1; exact c1 q.1⟩)
          ·
            refine Own.iconst 137 X4 hx ((1 : Int32)) (hb hby at_136) rfl rfl ?_
            refine Own.goto 141 X4 hx (hb hby at_137) (by decide) ?_
            refine Own.istoreV 143 #[.val (.int x0), .val (.int x1), .val (.int x2), .val (.int x3), .val (.int x4), .val (.int x5), .val (.int v6_4), .val (.int v7_11), .val (.int b1), .val (.int v9_30), .val (.int v10_38), .val (.int b2), .val (.long v12_63), .second, .val (.long v14_74), .second, .val (.int s16), .val (.int (1 : Int32)), .unset, .unset, .unset, .unset] X4 hx (hb hby at_141) rfl rfl ?_
            refine Own.goto 187 X4 hx (hb hby at_143) (by decide) ?_
            exact J187 s16 1 h16 (Or.inl ⟨rfl, Or.inl ⟨c1, c2⟩⟩)
      refine Own.icmp_ne 119 101 X4 hx (hb hby at_98) (by decide) rfl (fun c1 => ?_) (fun c1 => ?_)
      ·
        refine Own.iconst 120 X4 hx ((0 : Int32)) (hb hby at_119) rfl rfl ?_
        exact J120 0 (Or.inr ⟨rfl, fun q => c1 q.1⟩)
      ·
        refine Own.iload 103 X4 hx (hb hby at_101) rfl rfl ?_
        refine Own.iload 105 X4 hx (hb hby at_103) rfl rfl ?_
        refine Own.icmp_ne 119 108 X4 hx (hb hby at_105) (by decide) rfl (fun c2 => ?_) (fun c2 => ?_)
        ·
          refine Own.iconst 120 X4 hx ((0 : Int32)) (hb hby at_119) rfl rfl ?_
          exact J120 0 (Or.inr ⟨rfl, fun q => c2 q.2.1⟩)
        ·
          refine Own.iload 110 X4 hx (hb hby at_108) rfl rfl ?_
          refine Own.iload 112 X4 hx (hb hby at_110) rfl rfl ?_
          refine Own.icmp_ne 119 115 X4 hx (hb hby at_112) (by decide) rfl (fun c3 => ?_) (fun c3 => ?_)
          ·
            refine Own.iconst 120 X4 hx ((0 : Int32)) (hb hby at_119) rfl rfl ?_
            exact J120 0 (Or.inr ⟨rfl, fun q => c3 q.2.2⟩)
          ·
            refine Own.iconst 116 X4 hx ((1 : Int32)) (hb hby at_115) rfl rfl ?_
            refine Own.goto 120 X4 hx (hb hby at_116) (by decide) ?_
            exact J120 1 (Or.inl ⟨rfl, c1, c2, c3⟩)
    refine Own.if_eq 51 47 X0 hx (hb hby at_44) (by decide) rfl (fun h2 => ?_) (fun h2 => ?_)
    ·
      refine Own.iconst 52 X0 hx ((0 : Int32)) (hb hby at_51) rfl rfl ?_
      exact J52 0 (Or.inl rfl)
    ·
      refine Own.iconst 48 X0 hx ((1 : Int32)) (hb hby at_47) rfl rfl ?_
      refine Own.goto 52 X0 hx (hb hby at_48) (by decide) ?_
      exact J52 1 (Or.inr rfl)
  refine Own.if_eq 23 19 X0 hx (hb hby at_16) (by decide) rfl (fun h1 => ?_) (fun h1 => ?_)
  ·
    refine Own.iconst 24 X0 hx ((0 : Int32)) (hb hby at_23) rfl rfl ?_
    exact J24 0 (Or.inl rfl)
  ·
    refine Own.iconst 20 X0 hx ((1 : Int32)) (hb hby at_19) rfl rfl ?_
    refine Own.goto 24 X0 hx (hb hby at_20) (by decide) ?_
    exact J24 1 (Or.inr rfl)
set_option maxRecDepth 65536 in
set_option maxHeartbeats 40000000 in
theorem comes_1 {Post : Tables → Env → Array Value → State → Outcome → State → Prop} (hpost : ∀ tb e args s v u, (limb_1_1.after args s (.returned v) u = true ∧ limb_1_2.after args s (.returned v) u = true ∧ True) → FrameEnd s (.returned v) u (Jvm.fieldLocs frame_1_writes args s ++ Jvm.arrayLocs frame_1_arrays args s ++ Jvm.staticLocs frame_1_statics s) 0 0 → Post tb e args s (.returned v) u) :
    ArmFor flags0 classFile x code maxLocals ret World_1 tables_1 room_1 Calls_1 rest_1 Pre_1 Post := by
  intro l hfl _ _ p e ha hc hk s m args below hf hA hF happ hP
  obtain ⟨hcalls, hrest, hpre⟩ := hP
  obtain ⟨-, -, -, hnamed, -, -, -, hat⟩ := (Spec.applies_iff hf).mp happ
  obtain ⟨hg, hn⟩ := and_e (Cond.before_iff.mp (show (Jvm.Cond.and given_1 narrow_1).before args s = true from hpre))
  obtain ⟨g1, g2⟩ := and_e hg
  obtain ⟨g3, g4⟩ := and_e g2
  obtain ⟨g5, g6⟩ := and_e g4
  obtain ⟨g7, g8⟩ := and_e g6
  obtain ⟨g9, g10⟩ := and_e g8
  obtain ⟨g11, g12⟩ := and_e g10
  obtain ⟨w0, w1, w2, w3, w4, w5, rfl⟩ : ∃ w0 w1 w2 w3 w4 w5 : Value, args = #[w0, w1, w2, w3, w4, w5] := by
    have hs : args.size = 6 := by simpa [Cond.value, given_1] using g1
    obtain ⟨L⟩ := args
    match L, hs with
    | [w0, w1, w2, w3, w4, w5], _ => exact ⟨w0, w1, w2, w3, w4, w5, rfl⟩
  have hw := fun d (hd : d ∈ tables_1) => atoms_spec (ws := Jvm.Cond.code x code maxLocals ret :: tables_1) hat d (List.mem_cons_of_mem _ hd)
  obtain ⟨i0, ei0⟩ := is_v g3
  obtain rfl : w0 = (.int i0) := Option.some.inj ei0
  obtain ⟨i1, ei1⟩ := is_v g5
  obtain rfl : w1 = (.int i1) := Option.some.inj ei1
  obtain ⟨i2, ei2⟩ := is_v g7
  obtain rfl : w2 = (.int i2) := Option.some.inj ei2
  obtain ⟨i3, ei3⟩ := is_v g9
  obtain rfl : w3 = (.int i3) := Option.some.inj ei3
  obtain ⟨i4, ei4⟩ := is_v g11
  obtain rfl : w4 = (.int i4) := Option.some.inj ei4
  obtain ⟨i5, ei5⟩ := is_v g12
  obtain rfl : w5 = (.int i5) := Option.some.inj ei5
  obtain ⟨n, o, h1, h2, h3, _, L, rfl, ⟨rfl, N⟩, hq⟩ := m0 l s _ (fun i {d} h => hw d (List.mem_of_getElem? h)) i0 i1 i2 i3 i4 i5 s.heap  p e ha hc hk s m _ below hf ((Spec.applies_iff_loose hf).mp happ).1 ⟨rfl, State.Warmed39.refl s, rfl⟩ trivial
  refine ⟨n, _, h1, h2, h3, hpost _ _ _ _ _ _ ⟨Cond.after_iff.mpr rfl, Cond.after_iff.mpr (eq_i res_at (Term.int_eval (1)) rfl), trivial⟩ ⟨hq.1, hq.2.1, (hq.2.2.sift fun y hy => Or.inr (N y hy)).mono (by decide) (by decide)⟩⟩
theorem main_1_1 : Claimed_1_1 := comes_1 fun _ _ _ _ _ _ h hF => ⟨h.1, hF⟩
theorem main_1_2 : Claimed_1_2 := comes_1 fun _ _ _ _ _ _ h hF => ⟨h.2.1, hF⟩
end Jvm.Pilot.@@N@@
namespace Jvm.Pilot.@@N@@
open Jvm Jvm.ClassFile Sem Op Lib Jvm.Free Jvm.Stand Jvm.Pilot.@@N@@.Jvm.D
/-! MADE BY PROGRAM (witnessworld.py) out of the Statement's table words and the real class files: 16 classes; the members and pool entries that the words name. The judged class is class 1, her method 2. -/
namespace start1
open Jvm.ClassFile
def u (s : String) : CpInfo := .utf8 (stringToUtf16 s)
/-- a pool by its gaps: so many unusable entries, then the entry; so many at the end -/
def gap : Nat → List CpInfo → List CpInfo
  | 0, r => r
  | n + 1, r => .unusable :: gap n r
def poolList (es : List (Nat × CpInfo)) (last : Nat) : List CpInfo := es.foldr (fun e r => gap e.1 (e.2 :: r)) (gap last [])
def pool (es : List (Nat × CpInfo)) (last : Nat) : Array CpInfo := ⟨poolList es last⟩
def fileOf (pool : Array CpInfo) (this : Nat) (attrs : Array Attribute := #[]) (ms : Array MethodInfo := #[]) (fl : Nat := 33) (sup : Nat := 0) (ifs : Array Nat := #[]) (fds : Array FieldInfo := #[]) : ClassFile where
  minorVersion := 0
  majorVersion := 65
  constantPool := pool
  accessFlags := fl
  thisClass := this
  superClass := sup
  interfaces := ifs
  fields := fds
  methods := ms
  attributes := attrs
def plain (name : String) (sup : Option ClassId) : Class where
  name := name
  kind := .ordinary
  loader := none
  accessFlags := 33
  super := sup
  interfaces := #[]
  cf := none
  fields := #[]
  methods := #[]
  instanceTypes := #[]
  staticTypes := #[]
  resolved := #[]
  callSites := []
  init := .initialized
  statics := none
  mirror := none

def pool0 : Array CpInfo := pool [(5, u "<init>"), (0, u "()V"), (1, .class_ 10), (1, u "java/lang/Object")] 113

def k0m0 : Method := { name := "<init>", desc := "()V", sig := { parameters := [], returnType := none }, accessFlags := 1, code := none }
/-- java/lang/Object -/
def k0 : Class := { plain "java/lang/Object" none with
  accessFlags := 33
  interfaces := #[]
  cf := some (fileOf pool0 8 #[] #[{ accessFlags := 1, nameIndex := 5, descriptorIndex := 6, attributes := #[] }] 33 0 #[] #[])
  fields := #[]
  methods := #[k0m0]
  instanceTypes := #[]
  staticTypes := #[]
  resolved := Array.replicate 124 none
  statics := none }

def pool1 : Array CpInfo := pool [(2, .class_ 4), (1, u "java/lang/Object"), (0, u "<init>"), (0, u "()V"), (0, .methodref 8 9), (0, .class_ 10), (0, .nameAndType 11 12), (0, u "com/example/tablier/tablier/DiamMoves"), (0, u "shift"), (0, u "(IIZ)J"), (0, .methodref 14 15), (0, .class_ 16), (0, .nameAndType 17 18), (0, u "com/example/tablier/tablier/DiamMovesShiftPinLaw"), (0, u "singleBit"), (0, u "(J)Z"), (2, .long 9223372036854775808), (4, u "law"), (0, u "(IIIIII)Z")] 2

def k1m0 : Method := { name := "<init>", desc := "()V", sig := { parameters := [], returnType := none }, accessFlags := 1, code := none }
def k1c1 : Code := { maxStack := 6, maxLocals := 2, code := method_2_code, exceptionTable := #[], attributes := #[] }
def k1m1 : Method := { name := "singleBit", desc := "(J)Z", sig := { parameters := [.long], returnType := some .boolean }, accessFlags := 10, code := some k1c1 }
def k1c2 : Code := { maxStack := 4, maxLocals := 22, code := code, exceptionTable := #[], attributes := #[] }
def k1m2 : Method := { name := "law", desc := "(IIIIII)Z", sig := { parameters := [.int, .int, .int, .int, .int, .int], returnType := some .boolean }, accessFlags := 9, code := some k1c2 }
/-- com/example/tablier/tablier/DiamMovesShiftPinLaw -/
def k1 : Class := { plain "com/example/tablier/tablier/DiamMovesShiftPinLaw" (some 0) with
  accessFlags := 49
  interfaces := #[]
  cf := some (fileOf pool1 14 #[] #[{ accessFlags := 1, nameIndex := 5, descriptorIndex := 6, attributes := #[] }, { accessFlags := 10, nameIndex := 17, descriptorIndex := 18, attributes := #[] }, { accessFlags := 9, nameIndex := 26, descriptorIndex := 27, attributes := #[] }] 49 2 #[] #[])
  fields := #[]
  methods := #[k1m0, k1m1, k1m2]
  instanceTypes := #[]
  staticTypes := #[]
  resolved := Array.replicate 30 none
  statics := none }

def pool2 : Array CpInfo := pool [(8, .class_ 10), (1, u "java/lang/Iterable"), (24, .class_ 36), (0, u "java/lang/Object")] 25

/-- java/lang/Iterable -/
def k2 : Class := { plain "java/lang/Iterable" (some 0) with
  accessFlags := 1537
  interfaces := #[]
  cf := some (fileOf pool2 8 #[] #[] 1537 35 #[] #[])
  fields := #[]
  methods := #[]
  instanceTypes := #[]
  staticTypes := #[]
  resolved := Array.replicate 62 none
  statics := none }

def pool3 : Array CpInfo := pool [(10, .class_ 12), (1, u "java/util/Collection"), (47, .class_ 61), (0, u "java/lang/Object"), (0, .class_ 63), (0, u "java/lang/Iterable")] 51

/-- java/util/Collection -/
def k3 : Class := { plain "java/util/Collection" (some 0) with
  accessFlags := 1537
  interfaces := #[2]
  cf := some (fileOf pool3 10 #[] #[] 1537 60 #[62] #[])
  fields := #[]
  methods := #[]
  instanceTypes := #[]
  staticTypes := #[]
  resolved := Array.replicate 115 none
  statics := none }

def pool4 : Array CpInfo := pool [(2, .class_ 4), (1, u "java/lang/Object"), (0, u "<init>"), (0, u "()V"), (1, .class_ 10), (1, u "java/util/AbstractCollection"), (66, .class_ 78), (0, u "java/util/Collection")] 81

def k4m0 : Method := { name := "<init>", desc := "()V", sig := { parameters := [], returnType := none }, accessFlags := 4, code := none }
/-- java/util/AbstractCollection -/
def k4 : Class := { plain "java/util/AbstractCollection" (some 0) with
  accessFlags := 1057
  interfaces := #[3]
  cf := some (fileOf pool4 8 #[] #[{ accessFlags := 4, nameIndex := 5, descriptorIndex := 6, attributes := #[] }] 1057 2 #[77] #[])
  fields := #[]
  methods := #[k4m0]
  instanceTypes := #[]
  staticTypes := #[]
  resolved := Array.replicate 160 none
  statics := none }

def pool5 : Array CpInfo := pool [(8, .class_ 10), (1, u "java/util/SequencedCollection"), (15, .class_ 27), (0, u "java/lang/Object"), (0, .class_ 29), (0, u "java/util/Collection")] 27

/-- java/util/SequencedCollection -/
def k5 : Class := { plain "java/util/SequencedCollection" (some 0) with
  accessFlags := 1537
  interfaces := #[3]
  cf := some (fileOf pool5 8 #[] #[] 1537 26 #[28] #[])
  fields := #[]
  methods := #[]
  instanceTypes := #[]
  staticTypes := #[]
  resolved := Array.replicate 57 none
  statics := none }

def pool6 : Array CpInfo := pool [(8, .class_ 10), (1, u "java/util/List"), (92, .class_ 104), (0, u "java/lang/Object"), (15, .class_ 121), (0, u "java/util/SequencedCollection")] 129

/-- java/util/List -/
def k6 : Class := { plain "java/util/List" (some 0) with
  accessFlags := 1537
  interfaces := #[5]
  cf := some (fileOf pool6 8 #[] #[] 1537 103 #[120] #[])
  fields := #[]
  methods := #[]
  instanceTypes := #[]
  staticTypes := #[]
  resolved := Array.replicate 251 none
  statics := none }

def pool7 : Array CpInfo := pool [(2, .class_ 4), (1, u "java/util/AbstractCollection"), (0, u "<init>"), (0, u "()V"), (1, .class_ 10), (1, u "java/util/AbstractList"), (0, u "modCount"), (0, u "I"), (64, .class_ 78), (0, u "java/util/AbstractList$Itr"), (3, .class_ 83), (0, u "java/util/AbstractList$ListItr"), (9, .class_ 94), (0, u "java/util/AbstractList$RandomAccessSubList"), (3, .class_ 99), (0, u "java/util/AbstractList$SubList"), (33, .class_ 134), (0, u "java/util/List"), (73, .class_ 209), (0, u "java/util/AbstractList$SubList$1"), (0, .class_ 211), (0, u "java/util/AbstractList$RandomAccessSpliterator")] 6

def k7m0 : Method := { name := "<init>", desc := "()V", sig := { parameters := [], returnType := none }, accessFlags := 4, code := none }
/-- java/util/AbstractList -/
def k7 : Class := { plain "java/util/AbstractList" (some 4) with
  accessFlags := 1057
  interfaces := #[6]
  cf := some (fileOf pool7 8 #[.nestMembers #[93, 98, 208, 210, 82, 77]] #[{ accessFlags := 4, nameIndex := 5, descriptorIndex := 6, attributes := #[] }] 1057 2 #[133] #[{ accessFlags := 132, nameIndex := 11, descriptorIndex := 12, attributes := #[] }])
  fields := #[{ name := "modCount", type := .int, accessFlags := 132, slot := 0, constantValue := 0 }]
  methods := #[k7m0]
  instanceTypes := #[.int]
  staticTypes := #[]
  resolved := Array.replicate 218 none
  statics := none }

def pool8 : Array CpInfo := pool [(1, .class_ 2), (0, u "java/util/RandomAccess"), (0, .class_ 4), (0, u "java/lang/Object")] 2

/-- java/util/RandomAccess -/
def k8 : Class := { plain "java/util/RandomAccess" (some 0) with
  accessFlags := 1537
  interfaces := #[]
  cf := some (fileOf pool8 1 #[] #[] 1537 3 #[] #[])
  fields := #[]
  methods := #[]
  instanceTypes := #[]
  staticTypes := #[]
  resolved := Array.replicate 7 none
  statics := none }

def pool9 : Array CpInfo := pool [(2, .class_ 4), (1, u "java/util/AbstractList"), (3, .class_ 10), (1, u "com/example/tablier/tablier/DiamMoves"), (0, u "drops"), (0, u "J"), (2, u "shifts"), (25, u "DROPS"), (0, u "[Lcom/example/tablier/tablier/Diam$Drop;"), (6, u "SHIFTS"), (0, u "[Lcom/example/tablier/tablier/Diam$Shift;"), (29, u "shift"), (0, u "(IIZ)J"), (25, .class_ 108), (0, u "java/util/RandomAccess")] 25

def k9c0 : Code := { maxStack := 5, maxLocals := 3, code := prog_30_method_3_code, exceptionTable := #[], attributes := #[] }
def k9m0 : Method := { name := "shift", desc := "(IIZ)J", sig := { parameters := [.int, .int, .boolean], returnType := some .long }, accessFlags := 8, code := some k9c0 }
/-- com/example/tablier/tablier/DiamMoves -/
def k9 : Class := { plain "com/example/tablier/tablier/DiamMoves" (some 7) with
  accessFlags := 48
  interfaces := #[8]
  cf := some (fileOf pool9 8 #[] #[{ accessFlags := 8, nameIndex := 80, descriptorIndex := 81, attributes := #[] }] 48 2 #[107] #[{ accessFlags := 26, nameIndex := 41, descriptorIndex := 42, attributes := #[] }, { accessFlags := 26, nameIndex := 49, descriptorIndex := 50, attributes := #[] }, { accessFlags := 18, nameIndex := 11, descriptorIndex := 12, attributes := #[] }, { accessFlags := 18, nameIndex := 15, descriptorIndex := 12, attributes := #[] }])
  fields := #[{ name := "DROPS", type := (.array (.object "com/example/tablier/tablier/Diam$Drop")), accessFlags := 26, slot := 0, constantValue := 0 }, { name := "SHIFTS", type := (.array (.object "com/example/tablier/tablier/Diam$Shift")), accessFlags := 26, slot := 1, constantValue := 0 }, { name := "drops", type := .long, accessFlags := 18, slot := 1, constantValue := 0 }, { name := "shifts", type := .long, accessFlags := 18, slot := 2, constantValue := 0 }]
  methods := #[k9m0]
  instanceTypes := #[.int, .long, .long]
  staticTypes := #[(.array (.object "com/example/tablier/tablier/Diam$Drop")), (.array (.object "com/example/tablier/tablier/Diam$Shift"))]
  resolved := Array.replicate 134 none
  statics := none }

def pool10 : Array CpInfo := pool [(1, u "java/lang/Cloneable"), (0, .class_ 1), (0, u "java/lang/Object"), (0, .class_ 3)] 3

/-- java/lang/Cloneable -/
def k10 : Class := { plain "java/lang/Cloneable" (some 0) with
  accessFlags := 1537
  interfaces := #[]
  cf := some (fileOf pool10 2 #[] #[] 1537 4 #[] #[])
  fields := #[]
  methods := #[]
  instanceTypes := #[]
  staticTypes := #[]
  resolved := Array.replicate 8 none
  statics := none }

def pool11 : Array CpInfo := pool [(1, u "java/io/Serializable"), (0, .class_ 1), (0, u "java/lang/Object"), (0, .class_ 3)] 3

/-- java/io/Serializable -/
def k11 : Class := { plain "java/io/Serializable" (some 0) with
  accessFlags := 1537
  interfaces := #[]
  cf := some (fileOf pool11 2 #[] #[] 1537 4 #[] #[])
  fields := #[]
  methods := #[]
  instanceTypes := #[]
  staticTypes := #[]
  resolved := Array.replicate 8 none
  statics := none }

/-- the primitive byte -/
def k12 : Class := { plain "byte" none with kind := .primitive 'B', accessFlags := 0x411 }
/-- [B -/
def k13 : Class := { plain "[B" (some 0) with kind := .array 12 .byte, interfaces := #[10, 11], accessFlags := 1041 }

/-- the primitive int -/
def k14 : Class := { plain "int" none with kind := .primitive 'I', accessFlags := 0x411 }
/-- [I -/
def k15 : Class := { plain "[I" (some 0) with kind := .array 14 .int, interfaces := #[10, 11], accessFlags := 1041 }

def heap : Heap := #[]
def classes : Array Class := #[k0, k1, k2, k3, k4, k5, k6, k7, k8, k9, k10, k11, k12, k13, k14, k15]
def interned : List (Array UInt16 × Addr) := []
def slotsUsed : Nat := 0
def theMethod : MethodId := ⟨1, 2⟩
def args0 : Array Value := #[.int 5, .int 2, .int 1, .int 5, .int 2, .int 1]
def aboutOver (below : List Frame) : State where
  vm := { classes := classes, interned := interned.toArray }
  heap := heap
  slotsUsed := slotsUsed
  threads := #[{ frames := .invoking theMethod args0 :: below }]
def below0 : List Frame := [.native { method := ⟨0, 0⟩, args := #[] }]
def about1 : State := aboutOver below0
def p0 : Program := .bare "" "" ""
def e0 : Env := launch0.env 0 0 0
theorem w_frames : about1.frames = Frame.invoking theMethod args0 :: below0 := rfl
set_option maxRecDepth 65536 in
theorem w_args : argsFit about1.vm theMethod args0 = true := by decide +kernel
set_option maxRecDepth 65536 in
theorem w_heap : heapFits about1 = true := by decide +kernel
set_option maxRecDepth 65536 in
theorem w_runnable : about1.curStatus? = some .runnable := by decide +kernel
set_option maxRecDepth 65536 in
theorem w_alone : about1.alone = true := by decide +kernel
set_option maxRecDepth 65536 in
theorem w_named : about1.methodNamed? x = some theMethod := by decide +kernel
set_option maxRecDepth 65536 in
theorem w_hears : about1.hears theMethod below0 = true := by decide +kernel
set_option maxRecDepth 65536 in
theorem w_ripe : about1.ripe theMethod args0 below0 = true := by decide +kernel
theorem w_running : about1.status = .running := rfl
set_option maxRecDepth 65536 in
theorem w_room : about1.hasRoom e0.platform room_1 = true :=
  launch0.hasRoom_least _ room_1 (by decide +kernel) (by decide +kernel) (by decide +kernel) (by decide +kernel) (by decide +kernel) (by decide +kernel)
theorem allAtoms_all (ts : List Jvm.Cond) (a : Array Jvm.Value) (st : Jvm.State) : (allAtoms ts).before a st = ts.all (fun c => c.before a st) := by
  induction ts with
  | nil => rfl
  | cons c t ih =>
    show (Jvm.Cond.and c (allAtoms t)).before a st = _
    rw [Jvm.Cond.before_and, ih, List.all_cons]
def words1 : List Jvm.Cond := Jvm.Cond.code x code maxLocals ret :: tables_1
/-- a 'code' word, met by the world's own term for the bytes: nothing is compared byte by byte -/
theorem code_word {y : MethodName} {bytes : ByteArray} {mx : Nat} {rt : Option FieldType} {a : Array Value} {s : State} {m : MethodId} {meth : Method} {c : Code} (h1 : s.methodNamed? y = some m) (h2 : s.vm.method? m = some meth) (h3 : meth.code = some c) (h4 : c.code = bytes)
    (h5 : (c.maxLocals == mx && c.exceptionTable.isEmpty && decide (c.maxStack ≤ mostOperands) && decide (meth.sig.returnType = rt) && !meth.locks && decide (parseMethodDescriptor y.desc = some meth.sig)) = true) : (Jvm.Cond.code y bytes mx rt).before a s = true := by
  simp only [Bool.and_eq_true, beq_iff_eq, Bool.not_eq_true', decide_eq_true_eq] at h5
  obtain ⟨⟨⟨⟨⟨g1, g2⟩, g3⟩, g4⟩, g5⟩, g6⟩ := h5
  simp [Cond.before, Cond.holds, Cond.value, h1, h2, h3, h4, g1, g2, g3, g4, g5, g6]
def isCode : Jvm.Cond → Bool
  | .code _ _ _ _ => true
  | _ => false
theorem all_split {L : List Jvm.Cond} {P : Jvm.Cond → Bool} (h1 : L.all (fun c => isCode c || P c) = true) (h2 : ∀ c ∈ L.filter isCode, P c = true) : L.all P = true := by
  refine List.all_eq_true.mpr fun c hc => ?_
  have h := List.all_eq_true.mp h1 c hc
  rcases Bool.eq_false_or_eq_true (isCode c) with hi | hi
  · exact h2 c (List.mem_filter.mpr ⟨hc, hi⟩)
  · simpa [hi] using h
set_option maxRecDepth 65536 in
theorem w_c0 : (Jvm.Cond.code x code maxLocals ret).before args0 about1 = true := code_word (m := ⟨1, 2⟩) (meth := k1m2) (c := k1c2) (by decide +kernel) rfl rfl rfl (by decide +kernel)
set_option maxRecDepth 65536 in
theorem w_c1 : (Jvm.Cond.code ({ cls := "com/example/tablier/tablier/DiamMoves", name := "shift", desc := "(IIZ)J" } : Jvm.MethodName) prog_30_method_3_code (3 : Nat) (Option.some Jvm.ClassFile.FieldType.long)).before args0 about1 = true := code_word (m := ⟨9, 0⟩) (meth := k9m0) (c := k9c0) (by decide +kernel) rfl rfl rfl (by decide +kernel)
set_option maxRecDepth 65536 in
theorem w_c2 : (Jvm.Cond.code ({ cls := "com/example/tablier/tablier/DiamMovesShiftPinLaw", name := "singleBit", desc := "(J)Z" } : Jvm.MethodName) method_2_code (2 : Nat) (Option.some Jvm.ClassFile.FieldType.boolean)).before args0 about1 = true := code_word (m := ⟨1, 1⟩) (meth := k1m1) (c := k1c1) (by decide +kernel) rfl rfl rfl (by decide +kernel)
def codes1 : List Jvm.Cond := [Jvm.Cond.code x code maxLocals ret, Jvm.Cond.code ({ cls := "com/example/tablier/tablier/DiamMoves", name := "shift", desc := "(IIZ)J" } : Jvm.MethodName) prog_30_method_3_code (3 : Nat) (Option.some Jvm.ClassFile.FieldType.long), Jvm.Cond.code ({ cls := "com/example/tablier/tablier/DiamMovesShiftPinLaw", name := "singleBit", desc := "(J)Z" } : Jvm.MethodName) method_2_code (2 : Nat) (Option.some Jvm.ClassFile.FieldType.boolean)]
set_option maxRecDepth 65536 in
theorem codes_eq : words1.filter isCode = codes1 := rfl
theorem w_codes : ∀ c ∈ words1.filter isCode, c.before args0 about1 = true := by
  rw [codes_eq]
  intro c hc
  simp only [codes1, List.mem_cons, List.not_mem_nil, or_false] at hc
  rcases hc with rfl | rfl | rfl
  · exact w_c0
  · exact w_c1
  · exact w_c2
set_option maxRecDepth 65536 in
theorem w_t1 : words1.all (fun c => isCode c || c.before args0 about1) = true := by decide +kernel
theorem w_tables : (allAtoms (Jvm.Cond.code x code maxLocals ret :: tables_1)).before args0 about1 = true := by
  rw [allAtoms_all]
  show words1.all (fun c => c.before args0 about1) = true
  refine all_split ?_ w_codes
  rw [w_t1]
set_option maxRecDepth 65536 in
theorem w_case : (Jvm.Cond.and given_1 narrow_1).before args0 about1 = true := by decide +kernel
theorem w_applies : (headSpec (Jvm.Cond.code x code maxLocals ret :: tables_1) room_1).applies x e0.platform about1 = true :=
  (Spec.applies_iff w_frames).mpr ⟨w_running, w_runnable, w_alone, w_named, w_hears, w_ripe, w_room, w_tables⟩
theorem atStart : AtStart classFile x code maxLocals ret World_1 tables_1 room_1 Calls_1 rest_1 Pre_1 launch0 p0 e0 about1 theMethod args0 below0 :=
  ⟨lists_1, trivial, launch0.admits_env _ _ _, launch0.least_env, fairChoices_fair.cas, fairChoices_fair.clock, w_frames, w_args, w_heap, w_applies, trivial, trivial, w_case⟩
end start1
theorem witness_1 : WitnessClaimed_1 := ⟨start1.p0, start1.e0, start1.about1, start1.theMethod, start1.args0, start1.below0, start1.atStart⟩
end Jvm.Pilot.@@N@@
