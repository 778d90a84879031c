import JvmDerived
import JvmDerived.Pilot.@@N@@Statement
import JvmDerived.Pilot.@@N@@Code
set_option linter.unusedVariables false
set_option linter.unusedSimpArgs false
namespace Jvm.Own
open Jvm Sem ClassFile Op Lib Jvm.Stand Jvm.Free Jvm.LawKit Jvm.RoadKit Bundle
/-- from the state U on the body comes to its end, and what it leaves answers to Q -/
def Ends (tb : Tables) (e : Env) (below : List Frame) (s : State) (Q : Option Value → Heap → List Loc → Prop) (C S : Nat) (U : State) : Prop :=
  ∃ s₂ o, Steps tb e below U s₂ ∧ s₂.status = .running ∧ Ended s₂ below o ∧ ∃ v L, o = .returned v ∧ Q v s₂.heap L ∧ FrameEnd s o s₂ L C S
section Walk
variable {p : Program} {l : Launch} {e : Env} {R : Room} {s : State} {m : MethodId} {args : Array Value} {below : List Frame} {meth : Method} {c : Code} {T : State} {locs : List Loc} {cells slots : Nat} {Q : Option Value → Heap → List Loc → Prop} {C S : Nat} {pc : Nat} {Ls : Array Slot} {st : List Value} {Z : State} {a0 : Array Value} {h : Heap}
theorem Ends.step {tb : Tables} {U V : State} (k : Ends tb e below s Q C S V) (hs : ∀ t, Steps tb e below V t → Steps tb e below U t) : Ends tb e below s Q C S U := by
  obtain ⟨s₂, o, h1, r⟩ := k
  exact ⟨s₂, o, hs _ h1, r⟩
theorem Ends.mono {tb : Tables} {U : State} {Q' : Option Value → Heap → List Loc → Prop} (k : Ends tb e below s Q' C S U) (hq : ∀ v h L, Q' v h L → Q v h L) : Ends tb e below s Q C S U := by
  obtain ⟨s₂, o, h1, h2, h3, v, L, h4, h5, h6⟩ := k
  exact ⟨s₂, o, h1, h2, h3, v, L, h4, hq _ _ _ h5, h6⟩
theorem iload (n : Nat) (X : Stand p l e R s m args below meth c T locs cells slots) (hx : p.tables.exec = Jvm.exec) {k : Nat} {v : Int32} (hd : decode c.code pc = .ok (.iload k, 2)) (hn : pc + 2 = n) (hl : Ls[k]? = some (.val (.int v))) (K : Ends p.tables e below s Q C S (T.setTop (mkF m n Ls (.int v :: st)))) : Ends p.tables e below s Q C S (T.setTop (mkF m pc Ls (st))) := by
  subst hn; exact K.step fun t k => XS.iload (g := mkF m pc Ls (st)) X.here hx rfl hd hl k
theorem iloadN (n : Nat) (X : Stand p l e R s m args below meth c T locs cells slots) (hx : p.tables.exec = Jvm.exec) {k : Fin 4} {v : Int32} (hd : decode c.code pc = .ok (.iload_n k, 1)) (hn : pc + 1 = n) (hl : Ls[k.val]? = some (.val (.int v))) (K : Ends p.tables e below s Q C S (T.setTop (mkF m n Ls (.int v :: st)))) : Ends p.tables e below s Q C S (T.setTop (mkF m pc Ls (st))) := by
  subst hn; exact K.step fun t k => XS.iloadN (g := mkF m pc Ls (st)) X.here hx rfl hd hl k
theorem lload (n : Nat) (X : Stand p l e R s m args below meth c T locs cells slots) (hx : p.tables.exec = Jvm.exec) {k : Nat} {v : Int64} (hd : decode c.code pc = .ok (.lload k, 2)) (hn : pc + 2 = n) (hl : Ls[k]? = some (.val (.long v))) (K : Ends p.tables e below s Q C S (T.setTop (mkF m n Ls (.long v :: st)))) : Ends p.tables e below s Q C S (T.setTop (mkF m pc Ls (st))) := by
  subst hn; exact K.step fun t k => XS.lload (g := mkF m pc Ls (st)) X.here hx rfl hd hl k
theorem lloadN (n : Nat) (X : Stand p l e R s m args below meth c T locs cells slots) (hx : p.tables.exec = Jvm.exec) {k : Fin 4} {v : Int64} (hd : decode c.code pc = .ok (.lload_n k, 1)) (hn : pc + 1 = n) (hl : Ls[k.val]? = some (.val (.long v))) (K : Ends p.tables e below s Q C S (T.setTop (mkF m n Ls (.long v :: st)))) : Ends p.tables e below s Q C S (T.setTop (mkF m pc Ls (st))) := by
  subst hn; exact K.step fun t k => XS.lloadN (g := mkF m pc Ls (st)) X.here hx rfl hd hl k
theorem aload (n : Nat) (X : Stand p l e R s m args below meth c T locs cells slots) (hx : p.tables.exec = Jvm.exec) {k : Nat} {v : Value} (hd : decode c.code pc = .ok (.aload k, 2)) (hn : pc + 2 = n) (hl : Ls[k]? = some (.val v)) (hv : v.isRef = true) (K : Ends p.tables e below s Q C S (T.setTop (mkF m n Ls (v :: st)))) : Ends p.tables e below s Q C S (T.setTop (mkF m pc Ls (st))) := by
  subst hn; exact K.step fun t k => XS.aload (g := mkF m pc Ls (st)) X.here hx rfl hd hl hv k
theorem aloadN (n : Nat) (X : Stand p l e R s m args below meth c T locs cells slots) (hx : p.tables.exec = Jvm.exec) {k : Fin 4} {v : Value} (hd : decode c.code pc = .ok (.aload_n k, 1)) (hn : pc + 1 = n) (hl : Ls[k.val]? = some (.val v)) (hv : v.isRef = true) (K : Ends p.tables e below s Q C S (T.setTop (mkF m n Ls (v :: st)))) : Ends p.tables e below s Q C S (T.setTop (mkF m pc Ls (st))) := by
  subst hn; exact K.step fun t k => XS.aloadN (g := mkF m pc Ls (st)) X.here hx rfl hd hl hv k
theorem iconst (n : Nat) (X : Stand p l e R s m args below meth c T locs cells slots) (hx : p.tables.exec = Jvm.exec) {i : Int} (v : Int32) (hd : decode c.code pc = .ok (.iconst i, 1)) (hn : pc + 1 = n) (hv : Int32.ofInt i = v) (K : Ends p.tables e below s Q C S (T.setTop (mkF m n Ls (.int v :: st)))) : Ends p.tables e below s Q C S (T.setTop (mkF m pc Ls (st))) := by
  subst hn; exact K.step fun t k => XS.iconst (g := mkF m pc Ls (st)) X.here hx rfl hd (hv ▸ k)
theorem bipush (n : Nat) (X : Stand p l e R s m args below meth c T locs cells slots) (hx : p.tables.exec = Jvm.exec) {i : Int} (v : Int32) (hd : decode c.code pc = .ok (.bipush i, 2)) (hn : pc + 2 = n) (hv : (Int8.ofInt i).toInt32 = v) (K : Ends p.tables e below s Q C S (T.setTop (mkF m n Ls (.int v :: st)))) : Ends p.tables e below s Q C S (T.setTop (mkF m pc Ls (st))) := by
  subst hn; exact K.step fun t k => XS.bipush (g := mkF m pc Ls (st)) X.here hx rfl hd (hv ▸ k)
theorem sipush (n : Nat) (X : Stand p l e R s m args below meth c T locs cells slots) (hx : p.tables.exec = Jvm.exec) {i : Int} (v : Int32) (hd : decode c.code pc = .ok (.sipush i, 3)) (hn : pc + 3 = n) (hv : (Int16.ofInt i).toInt32 = v) (K : Ends p.tables e below s Q C S (T.setTop (mkF m n Ls (.int v :: st)))) : Ends p.tables e below s Q C S (T.setTop (mkF m pc Ls (st))) := by
  subst hn; exact K.step fun t k => XS.sipush (g := mkF m pc Ls (st)) X.here hx rfl hd (hv ▸ k)
theorem lconst (n : Nat) (X : Stand p l e R s m args below meth c T locs cells slots) (hx : p.tables.exec = Jvm.exec) {i : Fin 2} (v : Int64) (hd : decode c.code pc = .ok (.lconst i, 1)) (hn : pc + 1 = n) (hv : Int64.ofNat i = v) (K : Ends p.tables e below s Q C S (T.setTop (mkF m n Ls (.long v :: st)))) : Ends p.tables e below s Q C S (T.setTop (mkF m pc Ls (st))) := by
  subst hn; exact K.step fun t k => XS.lconst (g := mkF m pc Ls (st)) X.here hx rfl hd (hv ▸ k)
theorem aconstNull (n : Nat) (X : Stand p l e R s m args below meth c T locs cells slots) (hx : p.tables.exec = Jvm.exec)  (hd : decode c.code pc = .ok (.aconst_null, 1)) (hn : pc + 1 = n)  (K : Ends p.tables e below s Q C S (T.setTop (mkF m n Ls (.null :: st)))) : Ends p.tables e below s Q C S (T.setTop (mkF m pc Ls (st))) := by
  subst hn; exact K.step fun t k => XS.aconstNull (g := mkF m pc Ls (st)) X.here hx rfl hd k
theorem iadd (n : Nat) (X : Stand p l e R s m args below meth c T locs cells slots) (hx : p.tables.exec = Jvm.exec) {x y r : Int32} {rest : List Value} (hd : decode c.code pc = .ok (.iadd, 1)) (hn : pc + 1 = n) (hr : x + y = r) (K : Ends p.tables e below s Q C S (T.setTop (mkF m n Ls (.int r :: rest)))) : Ends p.tables e below s Q C S (T.setTop (mkF m pc Ls (.int y :: .int x :: rest))) := by
  subst hn; exact K.step fun t k => XS.iadd (g := mkF m pc Ls (.int y :: .int x :: rest)) X.here hx rfl hd rfl (hr ▸ k)
theorem isub (n : Nat) (X : Stand p l e R s m args below meth c T locs cells slots) (hx : p.tables.exec = Jvm.exec) {x y r : Int32} {rest : List Value} (hd : decode c.code pc = .ok (.isub, 1)) (hn : pc + 1 = n) (hr : x - y = r) (K : Ends p.tables e below s Q C S (T.setTop (mkF m n Ls (.int r :: rest)))) : Ends p.tables e below s Q C S (T.setTop (mkF m pc Ls (.int y :: .int x :: rest))) := by
  subst hn; exact K.step fun t k => XS.isub (g := mkF m pc Ls (.int y :: .int x :: rest)) X.here hx rfl hd rfl (hr ▸ k)
theorem iand (n : Nat) (X : Stand p l e R s m args below meth c T locs cells slots) (hx : p.tables.exec = Jvm.exec) {x y r : Int32} {rest : List Value} (hd : decode c.code pc = .ok (.iand, 1)) (hn : pc + 1 = n) (hr : x &&& y = r) (K : Ends p.tables e below s Q C S (T.setTop (mkF m n Ls (.int r :: rest)))) : Ends p.tables e below s Q C S (T.setTop (mkF m pc Ls (.int y :: .int x :: rest))) := by
  subst hn; exact K.step fun t k => XS.iand (g := mkF m pc Ls (.int y :: .int x :: rest)) X.here hx rfl hd rfl (hr ▸ k)
theorem imul (n : Nat) (X : Stand p l e R s m args below meth c T locs cells slots) (hx : p.tables.exec = Jvm.exec) {x y r : Int32} {rest : List Value} (hd : decode c.code pc = .ok (.imul, 1)) (hn : pc + 1 = n) (hr : x * y = r) (K : Ends p.tables e below s Q C S (T.setTop (mkF m n Ls (.int r :: rest)))) : Ends p.tables e below s Q C S (T.setTop (mkF m pc Ls (.int y :: .int x :: rest))) := by
  subst hn; exact K.step fun t k => XS.imul (g := mkF m pc Ls (.int y :: .int x :: rest)) X.here hx rfl hd rfl (hr ▸ k)
theorem ior (n : Nat) (X : Stand p l e R s m args below meth c T locs cells slots) (hx : p.tables.exec = Jvm.exec) {x y r : Int32} {rest : List Value} (hd : decode c.code pc = .ok (.ior, 1)) (hn : pc + 1 = n) (hr : x ||| y = r) (K : Ends p.tables e below s Q C S (T.setTop (mkF m n Ls (.int r :: rest)))) : Ends p.tables e below s Q C S (T.setTop (mkF m pc Ls (.int y :: .int x :: rest))) := by
  subst hn; exact K.step fun t k => XS.ior (g := mkF m pc Ls (.int y :: .int x :: rest)) X.here hx rfl hd rfl (hr ▸ k)
theorem ixor (n : Nat) (X : Stand p l e R s m args below meth c T locs cells slots) (hx : p.tables.exec = Jvm.exec) {x y r : Int32} {rest : List Value} (hd : decode c.code pc = .ok (.ixor, 1)) (hn : pc + 1 = n) (hr : x ^^^ y = r) (K : Ends p.tables e below s Q C S (T.setTop (mkF m n Ls (.int r :: rest)))) : Ends p.tables e below s Q C S (T.setTop (mkF m pc Ls (.int y :: .int x :: rest))) := by
  subst hn; exact K.step fun t k => XS.ixor (g := mkF m pc Ls (.int y :: .int x :: rest)) X.here hx rfl hd rfl (hr ▸ k)
theorem ishl (n : Nat) (X : Stand p l e R s m args below meth c T locs cells slots) (hx : p.tables.exec = Jvm.exec) {x y r : Int32} {rest : List Value} (hd : decode c.code pc = .ok (.ishl, 1)) (hn : pc + 1 = n) (hr : x <<< (y &&& 31) = r) (K : Ends p.tables e below s Q C S (T.setTop (mkF m n Ls (.int r :: rest)))) : Ends p.tables e below s Q C S (T.setTop (mkF m pc Ls (.int y :: .int x :: rest))) := by
  subst hn; exact K.step fun t k => XS.ishl (g := mkF m pc Ls (.int y :: .int x :: rest)) X.here hx rfl hd rfl (hr ▸ k)
theorem ishr (n : Nat) (X : Stand p l e R s m args below meth c T locs cells slots) (hx : p.tables.exec = Jvm.exec) {x y r : Int32} {rest : List Value} (hd : decode c.code pc = .ok (.ishr, 1)) (hn : pc + 1 = n) (hr : x >>> (y &&& 31) = r) (K : Ends p.tables e below s Q C S (T.setTop (mkF m n Ls (.int r :: rest)))) : Ends p.tables e below s Q C S (T.setTop (mkF m pc Ls (.int y :: .int x :: rest))) := by
  subst hn; exact K.step fun t k => XS.ishr (g := mkF m pc Ls (.int y :: .int x :: rest)) X.here hx rfl hd rfl (hr ▸ k)
theorem iushr (n : Nat) (X : Stand p l e R s m args below meth c T locs cells slots) (hx : p.tables.exec = Jvm.exec) {x y r : Int32} {rest : List Value} (hd : decode c.code pc = .ok (.iushr, 1)) (hn : pc + 1 = n) (hr : (x.toUInt32 >>> (y &&& 31).toUInt32).toInt32 = r) (K : Ends p.tables e below s Q C S (T.setTop (mkF m n Ls (.int r :: rest)))) : Ends p.tables e below s Q C S (T.setTop (mkF m pc Ls (.int y :: .int x :: rest))) := by
  subst hn; exact K.step fun t k => XS.iushr (g := mkF m pc Ls (.int y :: .int x :: rest)) X.here hx rfl hd rfl (hr ▸ k)
theorem ladd (n : Nat) (X : Stand p l e R s m args below meth c T locs cells slots) (hx : p.tables.exec = Jvm.exec) {x y r : Int64} {rest : List Value} (hd : decode c.code pc = .ok (.ladd, 1)) (hn : pc + 1 = n) (hr : x + y = r) (K : Ends p.tables e below s Q C S (T.setTop (mkF m n Ls (.long r :: rest)))) : Ends p.tables e below s Q C S (T.setTop (mkF m pc Ls (.long y :: .long x :: rest))) := by
  subst hn; exact K.step fun t k => XS.ladd (g := mkF m pc Ls (.long y :: .long x :: rest)) X.here hx rfl hd rfl (hr ▸ k)
theorem lsub (n : Nat) (X : Stand p l e R s m args below meth c T locs cells slots) (hx : p.tables.exec = Jvm.exec) {x y r : Int64} {rest : List Value} (hd : decode c.code pc = .ok (.lsub, 1)) (hn : pc + 1 = n) (hr : x - y = r) (K : Ends p.tables e below s Q C S (T.setTop (mkF m n Ls (.long r :: rest)))) : Ends p.tables e below s Q C S (T.setTop (mkF m pc Ls (.long y :: .long x :: rest))) := by
  subst hn; exact K.step fun t k => XS.lsub (g := mkF m pc Ls (.long y :: .long x :: rest)) X.here hx rfl hd rfl (hr ▸ k)
theorem land (n : Nat) (X : Stand p l e R s m args below meth c T locs cells slots) (hx : p.tables.exec = Jvm.exec) {x y r : Int64} {rest : List Value} (hd : decode c.code pc = .ok (.land, 1)) (hn : pc + 1 = n) (hr : x &&& y = r) (K : Ends p.tables e below s Q C S (T.setTop (mkF m n Ls (.long r :: rest)))) : Ends p.tables e below s Q C S (T.setTop (mkF m pc Ls (.long y :: .long x :: rest))) := by
  subst hn; exact K.step fun t k => XS.land (g := mkF m pc Ls (.long y :: .long x :: rest)) X.here hx rfl hd rfl (hr ▸ k)
theorem lmul (n : Nat) (X : Stand p l e R s m args below meth c T locs cells slots) (hx : p.tables.exec = Jvm.exec) {x y r : Int64} {rest : List Value} (hd : decode c.code pc = .ok (.lmul, 1)) (hn : pc + 1 = n) (hr : x * y = r) (K : Ends p.tables e below s Q C S (T.setTop (mkF m n Ls (.long r :: rest)))) : Ends p.tables e below s Q C S (T.setTop (mkF m pc Ls (.long y :: .long x :: rest))) := by
  subst hn; exact K.step fun t k => XS.lmul (g := mkF m pc Ls (.long y :: .long x :: rest)) X.here hx rfl hd rfl (hr ▸ k)
theorem lor (n : Nat) (X : Stand p l e R s m args below meth c T locs cells slots) (hx : p.tables.exec = Jvm.exec) {x y r : Int64} {rest : List Value} (hd : decode c.code pc = .ok (.lor, 1)) (hn : pc + 1 = n) (hr : x ||| y = r) (K : Ends p.tables e below s Q C S (T.setTop (mkF m n Ls (.long r :: rest)))) : Ends p.tables e below s Q C S (T.setTop (mkF m pc Ls (.long y :: .long x :: rest))) := by
  subst hn; exact K.step fun t k => XS.lor (g := mkF m pc Ls (.long y :: .long x :: rest)) X.here hx rfl hd rfl (hr ▸ k)
theorem lxor (n : Nat) (X : Stand p l e R s m args below meth c T locs cells slots) (hx : p.tables.exec = Jvm.exec) {x y r : Int64} {rest : List Value} (hd : decode c.code pc = .ok (.lxor, 1)) (hn : pc + 1 = n) (hr : x ^^^ y = r) (K : Ends p.tables e below s Q C S (T.setTop (mkF m n Ls (.long r :: rest)))) : Ends p.tables e below s Q C S (T.setTop (mkF m pc Ls (.long y :: .long x :: rest))) := by
  subst hn; exact K.step fun t k => XS.lxor (g := mkF m pc Ls (.long y :: .long x :: rest)) X.here hx rfl hd rfl (hr ▸ k)
theorem lshl (n : Nat) (X : Stand p l e R s m args below meth c T locs cells slots) (hx : p.tables.exec = Jvm.exec) {x r : Int64} {y : Int32} {rest : List Value} (hd : decode c.code pc = .ok (.lshl, 1)) (hn : pc + 1 = n) (hr : x <<< (y &&& 0x3f).toInt64 = r) (K : Ends p.tables e below s Q C S (T.setTop (mkF m n Ls (.long r :: rest)))) : Ends p.tables e below s Q C S (T.setTop (mkF m pc Ls (.int y :: .long x :: rest))) := by
  subst hn; exact K.step fun t k => XS.lshl (g := mkF m pc Ls (.int y :: .long x :: rest)) X.here hx rfl hd rfl (hr ▸ k)
theorem lshr (n : Nat) (X : Stand p l e R s m args below meth c T locs cells slots) (hx : p.tables.exec = Jvm.exec) {x r : Int64} {y : Int32} {rest : List Value} (hd : decode c.code pc = .ok (.lshr, 1)) (hn : pc + 1 = n) (hr : x >>> (y &&& 0x3f).toInt64 = r) (K : Ends p.tables e below s Q C S (T.setTop (mkF m n Ls (.long r :: rest)))) : Ends p.tables e below s Q C S (T.setTop (mkF m pc Ls (.int y :: .long x :: rest))) := by
  subst hn; exact K.step fun t k => XS.lshr (g := mkF m pc Ls (.int y :: .long x :: rest)) X.here hx rfl hd rfl (hr ▸ k)
theorem lushr (n : Nat) (X : Stand p l e R s m args below meth c T locs cells slots) (hx : p.tables.exec = Jvm.exec) {x r : Int64} {y : Int32} {rest : List Value} (hd : decode c.code pc = .ok (.lushr, 1)) (hn : pc + 1 = n) (hr : (x.toUInt64 >>> (y &&& 0x3f).toInt64.toUInt64).toInt64 = r) (K : Ends p.tables e below s Q C S (T.setTop (mkF m n Ls (.long r :: rest)))) : Ends p.tables e below s Q C S (T.setTop (mkF m pc Ls (.int y :: .long x :: rest))) := by
  subst hn; exact K.step fun t k => XS.lushr (g := mkF m pc Ls (.int y :: .long x :: rest)) X.here hx rfl hd rfl (hr ▸ k)
theorem idiv (n : Nat) (X : Stand p l e R s m args below meth c T locs cells slots) (hx : p.tables.exec = Jvm.exec) {x y r : Int32} {rest : List Value} (hd : decode c.code pc = .ok (.idiv, 1)) (hn : pc + 1 = n) (hy : y ≠ 0) (hr : x / y = r) (K : Ends p.tables e below s Q C S (T.setTop (mkF m n Ls (.int r :: rest)))) : Ends p.tables e below s Q C S (T.setTop (mkF m pc Ls (.int y :: .int x :: rest))) := by
  subst hn; exact K.step fun t k => XS.idiv (g := mkF m pc Ls (.int y :: .int x :: rest)) X.here hx rfl hd rfl hy (hr ▸ k)
theorem irem (n : Nat) (X : Stand p l e R s m args below meth c T locs cells slots) (hx : p.tables.exec = Jvm.exec) {x y r : Int32} {rest : List Value} (hd : decode c.code pc = .ok (.irem, 1)) (hn : pc + 1 = n) (hy : y ≠ 0) (hr : x % y = r) (K : Ends p.tables e below s Q C S (T.setTop (mkF m n Ls (.int r :: rest)))) : Ends p.tables e below s Q C S (T.setTop (mkF m pc Ls (.int y :: .int x :: rest))) := by
  subst hn; exact K.step fun t k => iremM (g := mkF m pc Ls (.int y :: .int x :: rest)) X hx rfl hd rfl hy (hr ▸ k)
theorem ldiv (n : Nat) (X : Stand p l e R s m args below meth c T locs cells slots) (hx : p.tables.exec = Jvm.exec) {x y r : Int64} {rest : List Value} (hd : decode c.code pc = .ok (.ldiv, 1)) (hn : pc + 1 = n) (hy : y ≠ 0) (hr : x / y = r) (K : Ends p.tables e below s Q C S (T.setTop (mkF m n Ls (.long r :: rest)))) : Ends p.tables e below s Q C S (T.setTop (mkF m pc Ls (.long y :: .long x :: rest))) := by
  subst hn; exact K.step fun t k => XS.ldiv (g := mkF m pc Ls (.long y :: .long x :: rest)) X.here hx rfl hd rfl hy (hr ▸ k)
theorem lrem (n : Nat) (X : Stand p l e R s m args below meth c T locs cells slots) (hx : p.tables.exec = Jvm.exec) {x y r : Int64} {rest : List Value} (hd : decode c.code pc = .ok (.lrem, 1)) (hn : pc + 1 = n) (hy : y ≠ 0) (hr : x % y = r) (K : Ends p.tables e below s Q C S (T.setTop (mkF m n Ls (.long r :: rest)))) : Ends p.tables e below s Q C S (T.setTop (mkF m pc Ls (.long y :: .long x :: rest))) := by
  subst hn; exact K.step fun t k => XS.lrem (g := mkF m pc Ls (.long y :: .long x :: rest)) X.here hx rfl hd rfl hy (by rw [lrem_mod, hr]; exact k)
theorem ineg (n : Nat) (X : Stand p l e R s m args below meth c T locs cells slots) (hx : p.tables.exec = Jvm.exec) {x : Int32} {r : Int32} {rest : List Value} (hd : decode c.code pc = .ok (.ineg, 1)) (hn : pc + 1 = n) (hr : -x = r) (K : Ends p.tables e below s Q C S (T.setTop (mkF m n Ls (.int r :: rest)))) : Ends p.tables e below s Q C S (T.setTop (mkF m pc Ls (.int x :: rest))) := by
  subst hn; exact K.step fun t k => XS.ineg (g := mkF m pc Ls (.int x :: rest)) X.here hx rfl hd rfl (hr ▸ k)
theorem lneg (n : Nat) (X : Stand p l e R s m args below meth c T locs cells slots) (hx : p.tables.exec = Jvm.exec) {x : Int64} {r : Int64} {rest : List Value} (hd : decode c.code pc = .ok (.lneg, 1)) (hn : pc + 1 = n) (hr : -x = r) (K : Ends p.tables e below s Q C S (T.setTop (mkF m n Ls (.long r :: rest)))) : Ends p.tables e below s Q C S (T.setTop (mkF m pc Ls (.long x :: rest))) := by
  subst hn; exact K.step fun t k => XS.lneg (g := mkF m pc Ls (.long x :: rest)) X.here hx rfl hd rfl (hr ▸ k)
theorem i2l (n : Nat) (X : Stand p l e R s m args below meth c T locs cells slots) (hx : p.tables.exec = Jvm.exec) {x : Int32} {r : Int64} {rest : List Value} (hd : decode c.code pc = .ok (.i2l, 1)) (hn : pc + 1 = n) (hr : x.toInt64 = r) (K : Ends p.tables e below s Q C S (T.setTop (mkF m n Ls (.long r :: rest)))) : Ends p.tables e below s Q C S (T.setTop (mkF m pc Ls (.int x :: rest))) := by
  subst hn; exact K.step fun t k => XS.i2l (g := mkF m pc Ls (.int x :: rest)) X.here hx rfl hd rfl (hr ▸ k)
theorem l2i (n : Nat) (X : Stand p l e R s m args below meth c T locs cells slots) (hx : p.tables.exec = Jvm.exec) {x : Int64} {r : Int32} {rest : List Value} (hd : decode c.code pc = .ok (.l2i, 1)) (hn : pc + 1 = n) (hr : x.toInt32 = r) (K : Ends p.tables e below s Q C S (T.setTop (mkF m n Ls (.int r :: rest)))) : Ends p.tables e below s Q C S (T.setTop (mkF m pc Ls (.long x :: rest))) := by
  subst hn; exact K.step fun t k => XS.l2i (g := mkF m pc Ls (.long x :: rest)) X.here hx rfl hd rfl (hr ▸ k)
theorem i2b (n : Nat) (X : Stand p l e R s m args below meth c T locs cells slots) (hx : p.tables.exec = Jvm.exec) {x : Int32} {r : Int32} {rest : List Value} (hd : decode c.code pc = .ok (.i2b, 1)) (hn : pc + 1 = n) (hr : x.toInt8.toInt32 = r) (K : Ends p.tables e below s Q C S (T.setTop (mkF m n Ls (.int r :: rest)))) : Ends p.tables e below s Q C S (T.setTop (mkF m pc Ls (.int x :: rest))) := by
  subst hn; exact K.step fun t k => XS.i2b (g := mkF m pc Ls (.int x :: rest)) X.here hx rfl hd rfl (hr ▸ k)
theorem i2c (n : Nat) (X : Stand p l e R s m args below meth c T locs cells slots) (hx : p.tables.exec = Jvm.exec) {x : Int32} {r : Int32} {rest : List Value} (hd : decode c.code pc = .ok (.i2c, 1)) (hn : pc + 1 = n) (hr : x.toUInt32.toUInt16.toUInt32.toInt32 = r) (K : Ends p.tables e below s Q C S (T.setTop (mkF m n Ls (.int r :: rest)))) : Ends p.tables e below s Q C S (T.setTop (mkF m pc Ls (.int x :: rest))) := by
  subst hn; exact K.step fun t k => XS.i2c (g := mkF m pc Ls (.int x :: rest)) X.here hx rfl hd rfl (hr ▸ k)
theorem i2s (n : Nat) (X : Stand p l e R s m args below meth c T locs cells slots) (hx : p.tables.exec = Jvm.exec) {x : Int32} {r : Int32} {rest : List Value} (hd : decode c.code pc = .ok (.i2s, 1)) (hn : pc + 1 = n) (hr : x.toInt16.toInt32 = r) (K : Ends p.tables e below s Q C S (T.setTop (mkF m n Ls (.int r :: rest)))) : Ends p.tables e below s Q C S (T.setTop (mkF m pc Ls (.int x :: rest))) := by
  subst hn; exact K.step fun t k => XS.i2s (g := mkF m pc Ls (.int x :: rest)) X.here hx rfl hd rfl (hr ▸ k)
theorem dup (n : Nat) (X : Stand p l e R s m args below meth c T locs cells slots) (hx : p.tables.exec = Jvm.exec) {x : Value} {rest : List Value} (hd : decode c.code pc = .ok (.dup, 1)) (hn : pc + 1 = n) (hc : x.category = 1) (K : Ends p.tables e below s Q C S (T.setTop (mkF m n Ls (x :: x :: rest)))) : Ends p.tables e below s Q C S (T.setTop (mkF m pc Ls (x :: rest))) := by
  subst hn; exact K.step fun t k => XS.dup (g := mkF m pc Ls (x :: rest)) X.here hx rfl hd rfl hc k
theorem pop (n : Nat) (X : Stand p l e R s m args below meth c T locs cells slots) (hx : p.tables.exec = Jvm.exec) {x : Value} {rest : List Value} (hd : decode c.code pc = .ok (.pop, 1)) (hn : pc + 1 = n) (hc : x.category = 1) (K : Ends p.tables e below s Q C S (T.setTop (mkF m n Ls (rest)))) : Ends p.tables e below s Q C S (T.setTop (mkF m pc Ls (x :: rest))) := by
  subst hn; exact K.step fun t k => XS.pop (g := mkF m pc Ls (x :: rest)) X.here hx rfl hd rfl hc k
theorem dupX1 (n : Nat) (X : Stand p l e R s m args below meth c T locs cells slots) (hx : p.tables.exec = Jvm.exec) {x y : Value} {rest : List Value} (hd : decode c.code pc = .ok (.dup_x1, 1)) (hn : pc + 1 = n) (hc : x.category = 1) (hc2 : y.category = 1) (K : Ends p.tables e below s Q C S (T.setTop (mkF m n Ls (x :: y :: x :: rest)))) : Ends p.tables e below s Q C S (T.setTop (mkF m pc Ls (x :: y :: rest))) := by
  subst hn; exact K.step fun t k => XS.dupX1 (g := mkF m pc Ls (x :: y :: rest)) X.here hx rfl hd rfl hc hc2 k
theorem istore (n : Nat) (F : Int32 → Array Slot) (X : Stand p l e R s m args below meth c T locs cells slots) (hx : p.tables.exec = Jvm.exec) {k : Nat} {x : Int32} {rest : List Value} (hd : decode c.code pc = .ok (.istore k, 2)) (hn : pc + 2 = n) (hl : ∀ z, storeLocals Ls k (.int z) = some (F z)) (K : ∀ z, z = x → Ends p.tables e below s Q C S (T.setTop (mkF m n (F z) (rest)))) : Ends p.tables e below s Q C S (T.setTop (mkF m pc Ls (.int x :: rest))) := by
  subst hn; exact (K x rfl).step fun t k => XS.istore (g := mkF m pc Ls (.int x :: rest)) X.here hx rfl hd rfl (hl x) k
theorem istoreV (n : Nat) (L1 : Array Slot) (X : Stand p l e R s m args below meth c T locs cells slots) (hx : p.tables.exec = Jvm.exec) {k : Nat} {x : Int32} {rest : List Value} (hd : decode c.code pc = .ok (.istore k, 2)) (hn : pc + 2 = n) (hl : storeLocals Ls k (.int x) = some L1) (K : Ends p.tables e below s Q C S (T.setTop (mkF m n L1 (rest)))) : Ends p.tables e below s Q C S (T.setTop (mkF m pc Ls (.int x :: rest))) := by
  subst hn; exact K.step fun t k => XS.istore (g := mkF m pc Ls (.int x :: rest)) X.here hx rfl hd rfl hl k
theorem istoreN (n : Nat) (F : Int32 → Array Slot) (X : Stand p l e R s m args below meth c T locs cells slots) (hx : p.tables.exec = Jvm.exec) {k : Fin 4} {x : Int32} {rest : List Value} (hd : decode c.code pc = .ok (.istore_n k, 1)) (hn : pc + 1 = n) (hl : ∀ z, storeLocals Ls k.val (.int z) = some (F z)) (K : ∀ z, z = x → Ends p.tables e below s Q C S (T.setTop (mkF m n (F z) (rest)))) : Ends p.tables e below s Q C S (T.setTop (mkF m pc Ls (.int x :: rest))) := by
  subst hn; exact (K x rfl).step fun t k => XS.istoreN (g := mkF m pc Ls (.int x :: rest)) X.here hx rfl hd rfl (hl x) k
theorem istoreNV (n : Nat) (L1 : Array Slot) (X : Stand p l e R s m args below meth c T locs cells slots) (hx : p.tables.exec = Jvm.exec) {k : Fin 4} {x : Int32} {rest : List Value} (hd : decode c.code pc = .ok (.istore_n k, 1)) (hn : pc + 1 = n) (hl : storeLocals Ls k.val (.int x) = some L1) (K : Ends p.tables e below s Q C S (T.setTop (mkF m n L1 (rest)))) : Ends p.tables e below s Q C S (T.setTop (mkF m pc Ls (.int x :: rest))) := by
  subst hn; exact K.step fun t k => XS.istoreN (g := mkF m pc Ls (.int x :: rest)) X.here hx rfl hd rfl hl k
theorem lstore (n : Nat) (F : Int64 → Array Slot) (X : Stand p l e R s m args below meth c T locs cells slots) (hx : p.tables.exec = Jvm.exec) {k : Nat} {x : Int64} {rest : List Value} (hd : decode c.code pc = .ok (.lstore k, 2)) (hn : pc + 2 = n) (hl : ∀ z, storeLocals Ls k (.long z) = some (F z)) (K : ∀ z, z = x → Ends p.tables e below s Q C S (T.setTop (mkF m n (F z) (rest)))) : Ends p.tables e below s Q C S (T.setTop (mkF m pc Ls (.long x :: rest))) := by
  subst hn; exact (K x rfl).step fun t k => XS.lstore (g := mkF m pc Ls (.long x :: rest)) X.here hx rfl hd rfl (hl x) k
theorem lstoreV (n : Nat) (L1 : Array Slot) (X : Stand p l e R s m args below meth c T locs cells slots) (hx : p.tables.exec = Jvm.exec) {k : Nat} {x : Int64} {rest : List Value} (hd : decode c.code pc = .ok (.lstore k, 2)) (hn : pc + 2 = n) (hl : storeLocals Ls k (.long x) = some L1) (K : Ends p.tables e below s Q C S (T.setTop (mkF m n L1 (rest)))) : Ends p.tables e below s Q C S (T.setTop (mkF m pc Ls (.long x :: rest))) := by
  subst hn; exact K.step fun t k => XS.lstore (g := mkF m pc Ls (.long x :: rest)) X.here hx rfl hd rfl hl k
theorem lstoreN (n : Nat) (F : Int64 → Array Slot) (X : Stand p l e R s m args below meth c T locs cells slots) (hx : p.tables.exec = Jvm.exec) {k : Fin 4} {x : Int64} {rest : List Value} (hd : decode c.code pc = .ok (.lstore_n k, 1)) (hn : pc + 1 = n) (hl : ∀ z, storeLocals Ls k.val (.long z) = some (F z)) (K : ∀ z, z = x → Ends p.tables e below s Q C S (T.setTop (mkF m n (F z) (rest)))) : Ends p.tables e below s Q C S (T.setTop (mkF m pc Ls (.long x :: rest))) := by
  subst hn; exact (K x rfl).step fun t k => XS.lstoreN (g := mkF m pc Ls (.long x :: rest)) X.here hx rfl hd rfl (hl x) k
theorem lstoreNV (n : Nat) (L1 : Array Slot) (X : Stand p l e R s m args below meth c T locs cells slots) (hx : p.tables.exec = Jvm.exec) {k : Fin 4} {x : Int64} {rest : List Value} (hd : decode c.code pc = .ok (.lstore_n k, 1)) (hn : pc + 1 = n) (hl : storeLocals Ls k.val (.long x) = some L1) (K : Ends p.tables e below s Q C S (T.setTop (mkF m n L1 (rest)))) : Ends p.tables e below s Q C S (T.setTop (mkF m pc Ls (.long x :: rest))) := by
  subst hn; exact K.step fun t k => XS.lstoreN (g := mkF m pc Ls (.long x :: rest)) X.here hx rfl hd rfl hl k
theorem astore (n : Nat) (L1 : Array Slot) (X : Stand p l e R s m args below meth c T locs cells slots) (hx : p.tables.exec = Jvm.exec) {k : Nat} {x : Value} {rest : List Value} (hd : decode c.code pc = .ok (.astore k, 2)) (hn : pc + 2 = n) (hv : x.isRef = true) (hl : storeLocals Ls k x = some L1) (K : Ends p.tables e below s Q C S (T.setTop (mkF m n L1 (rest)))) : Ends p.tables e below s Q C S (T.setTop (mkF m pc Ls (x :: rest))) := by
  subst hn; exact K.step fun t k => XS.astore (g := mkF m pc Ls (x :: rest)) X.here hx rfl hd rfl hv hl k
theorem astoreN (n : Nat) (L1 : Array Slot) (X : Stand p l e R s m args below meth c T locs cells slots) (hx : p.tables.exec = Jvm.exec) {k : Fin 4} {x : Value} {rest : List Value} (hd : decode c.code pc = .ok (.astore_n k, 1)) (hn : pc + 1 = n) (hv : x.isRef = true) (hl : storeLocals Ls k.val x = some L1) (K : Ends p.tables e below s Q C S (T.setTop (mkF m n L1 (rest)))) : Ends p.tables e below s Q C S (T.setTop (mkF m pc Ls (x :: rest))) := by
  subst hn; exact K.step fun t k => XS.astoreN (g := mkF m pc Ls (x :: rest)) X.here hx rfl hd rfl hv hl k
theorem iinc (n : Nat) (F : Int32 → Array Slot) (X : Stand p l e R s m args below meth c T locs cells slots) (hx : p.tables.exec = Jvm.exec) {k : Nat} {cst : Int} {x : Int32} (d : Int32) (hd : decode c.code pc = .ok (.iinc k cst, 3)) (hn : pc + 3 = n) (hc : Int32.ofInt cst = d) (hl : Ls[k]? = some (.val (.int x))) (hl2 : ∀ z, storeLocals Ls k (.int z) = some (F z)) (K : ∀ z, z = x + d → Ends p.tables e below s Q C S (T.setTop (mkF m n (F z) (st)))) : Ends p.tables e below s Q C S (T.setTop (mkF m pc Ls (st))) := by
  subst hn hc; exact (K _ rfl).step fun t k => XS.iinc (g := mkF m pc Ls st) X.here hx rfl hd hl (hl2 _) k
theorem goto (n : Nat) (X : Stand p l e R s m args below meth c T locs cells slots) (hx : p.tables.exec = Jvm.exec) {o : Int} (hd : decode c.code pc = .ok (.goto o, 3)) (hn : 0 ≤ (pc : Int) + o ∧ ((pc : Int) + o).toNat = n) (K : Ends p.tables e below s Q C S (T.setTop (mkF m n Ls (st)))) : Ends p.tables e below s Q C S (T.setTop (mkF m pc Ls (st))) :=
  K.step fun t k => XS.goto (g := mkF m pc Ls st) X.here hx rfl (pc0 := pc) (pc' := n) rfl hd hn.1 hn.2 k
theorem icmpB (nY nN : Nat) (X : Stand p l e R s m args below meth c T locs cells slots) (hx : p.tables.exec = Jvm.exec) {cd : ClassFile.Cond} {o : Int} {x y : Int32} {rest : List Value} (hd : decode c.code pc = .ok (.if_icmp cd o, 3)) (hY : 0 ≤ (pc : Int) + o ∧ ((pc : Int) + o).toNat = nY) (hN : pc + 3 = nN) (KY : if_icmp.holds cd x y = true → Ends p.tables e below s Q C S (T.setTop (mkF m nY Ls (rest)))) (KN : if_icmp.holds cd x y = false → Ends p.tables e below s Q C S (T.setTop (mkF m nN Ls (rest)))) : Ends p.tables e below s Q C S (T.setTop (mkF m pc Ls (.int y :: .int x :: rest))) := by
  subst hN
  cases hb : if_icmp.holds cd x y with
  | true => exact (KY hb).step fun t k => XS.icmpYes (g := mkF m pc Ls (.int y :: .int x :: rest)) X.here hx rfl (pc0 := pc) (pc' := nY) rfl hd rfl hb hY.1 hY.2 k
  | false => exact (KN hb).step fun t k => XS.icmpNo (g := mkF m pc Ls (.int y :: .int x :: rest)) X.here hx rfl hd rfl hb k
theorem ifB (nY nN : Nat) (X : Stand p l e R s m args below meth c T locs cells slots) (hx : p.tables.exec = Jvm.exec) {cd : ClassFile.Cond} {o : Int} {x : Int32} {rest : List Value} (hd : decode c.code pc = .ok (.ifCond cd o, 3)) (hY : 0 ≤ (pc : Int) + o ∧ ((pc : Int) + o).toNat = nY) (hN : pc + 3 = nN) (KY : if_icmp.holds cd x 0 = true → Ends p.tables e below s Q C S (T.setTop (mkF m nY Ls (rest)))) (KN : if_icmp.holds cd x 0 = false → Ends p.tables e below s Q C S (T.setTop (mkF m nN Ls (rest)))) : Ends p.tables e below s Q C S (T.setTop (mkF m pc Ls (.int x :: rest))) := by
  subst hN
  cases hb : if_icmp.holds cd x 0 with
  | true => exact (KY hb).step fun t k => XS.ifYes (g := mkF m pc Ls (.int x :: rest)) X.here hx rfl (pc0 := pc) (pc' := nY) rfl hd rfl ((if0 _ _).trans hb) hY.1 hY.2 k
  | false => exact (KN hb).step fun t k => XS.ifNo (g := mkF m pc Ls (.int x :: rest)) X.here hx rfl hd rfl ((if0 _ _).trans hb) k
theorem h_lt {x y : Int32} : (if_icmp.holds .lt x y = true → x < y) ∧ (if_icmp.holds .lt x y = false → ¬ x < y) := by simp [if_icmp.holds]
theorem h_ge {x y : Int32} : (if_icmp.holds .ge x y = true → ¬ x < y) ∧ (if_icmp.holds .ge x y = false → x < y) := by simp [if_icmp.holds, Int32.not_lt, Int32.not_le]
theorem h_gt {x y : Int32} : (if_icmp.holds .gt x y = true → y < x) ∧ (if_icmp.holds .gt x y = false → ¬ y < x) := by simp [if_icmp.holds, Int32.not_lt, Int32.not_le]
theorem h_le {x y : Int32} : (if_icmp.holds .le x y = true → ¬ y < x) ∧ (if_icmp.holds .le x y = false → y < x) := by simp [if_icmp.holds, Int32.not_lt, Int32.not_le]
theorem h_eq {x y : Int32} : (if_icmp.holds .eq x y = true → x = y) ∧ (if_icmp.holds .eq x y = false → ¬ x = y) := by simp [if_icmp.holds]
theorem h_ne {x y : Int32} : (if_icmp.holds .ne x y = true → ¬ x = y) ∧ (if_icmp.holds .ne x y = false → x = y) := by simp [if_icmp.holds]
theorem icmp_lt (nY nN : Nat) (X : Stand p l e R s m args below meth c T locs cells slots) (hx : p.tables.exec = Jvm.exec) {o : Int} {x y : Int32} {rest : List Value} (hd : decode c.code pc = .ok (.if_icmp .lt o, 3)) (hY : 0 ≤ (pc : Int) + o ∧ ((pc : Int) + o).toNat = nY) (hN : pc + 3 = nN) (KY : x < y → Ends p.tables e below s Q C S (T.setTop (mkF m nY Ls (rest)))) (KN : ¬ x < y → Ends p.tables e below s Q C S (T.setTop (mkF m nN Ls (rest)))) : Ends p.tables e below s Q C S (T.setTop (mkF m pc Ls (.int y :: .int x :: rest))) :=
  icmpB nY nN X hx hd hY hN (fun hb => KY (h_lt.1 hb)) (fun hb => KN (h_lt.2 hb))
theorem if_lt (nY nN : Nat) (X : Stand p l e R s m args below meth c T locs cells slots) (hx : p.tables.exec = Jvm.exec) {o : Int} {x : Int32} {rest : List Value} (hd : decode c.code pc = .ok (.ifCond .lt o, 3)) (hY : 0 ≤ (pc : Int) + o ∧ ((pc : Int) + o).toNat = nY) (hN : pc + 3 = nN) (KY : x < 0 → Ends p.tables e below s Q C S (T.setTop (mkF m nY Ls (rest)))) (KN : ¬ x < 0 → Ends p.tables e below s Q C S (T.setTop (mkF m nN Ls (rest)))) : Ends p.tables e below s Q C S (T.setTop (mkF m pc Ls (.int x :: rest))) :=
  ifB nY nN X hx hd hY hN (fun hb => KY (h_lt.1 hb)) (fun hb => KN (h_lt.2 hb))
theorem icmp_ge (nY nN : Nat) (X : Stand p l e R s m args below meth c T locs cells slots) (hx : p.tables.exec = Jvm.exec) {o : Int} {x y : Int32} {rest : List Value} (hd : decode c.code pc = .ok (.if_icmp .ge o, 3)) (hY : 0 ≤ (pc : Int) + o ∧ ((pc : Int) + o).toNat = nY) (hN : pc + 3 = nN) (KY : ¬ x < y → Ends p.tables e below s Q C S (T.setTop (mkF m nY Ls (rest)))) (KN : x < y → Ends p.tables e below s Q C S (T.setTop (mkF m nN Ls (rest)))) : Ends p.tables e below s Q C S (T.setTop (mkF m pc Ls (.int y :: .int x :: rest))) :=
  icmpB nY nN X hx hd hY hN (fun hb => KY (h_ge.1 hb)) (fun hb => KN (h_ge.2 hb))
theorem if_ge (nY nN : Nat) (X : Stand p l e R s m args below meth c T locs cells slots) (hx : p.tables.exec = Jvm.exec) {o : Int} {x : Int32} {rest : List Value} (hd : decode c.code pc = .ok (.ifCond .ge o, 3)) (hY : 0 ≤ (pc : Int) + o ∧ ((pc : Int) + o).toNat = nY) (hN : pc + 3 = nN) (KY : ¬ x < 0 → Ends p.tables e below s Q C S (T.setTop (mkF m nY Ls (rest)))) (KN : x < 0 → Ends p.tables e below s Q C S (T.setTop (mkF m nN Ls (rest)))) : Ends p.tables e below s Q C S (T.setTop (mkF m pc Ls (.int x :: rest))) :=
  ifB nY nN X hx hd hY hN (fun hb => KY (h_ge.1 hb)) (fun hb => KN (h_ge.2 hb))
theorem icmp_gt (nY nN : Nat) (X : Stand p l e R s m args below meth c T locs cells slots) (hx : p.tables.exec = Jvm.exec) {o : Int} {x y : Int32} {rest : List Value} (hd : decode c.code pc = .ok (.if_icmp .gt o, 3)) (hY : 0 ≤ (pc : Int) + o ∧ ((pc : Int) + o).toNat = nY) (hN : pc + 3 = nN) (KY : y < x → Ends p.tables e below s Q C S (T.setTop (mkF m nY Ls (rest)))) (KN : ¬ y < x → Ends p.tables e below s Q C S (T.setTop (mkF m nN Ls (rest)))) : Ends p.tables e below s Q C S (T.setTop (mkF m pc Ls (.int y :: .int x :: rest))) :=
  icmpB nY nN X hx hd hY hN (fun hb => KY (h_gt.1 hb)) (fun hb => KN (h_gt.2 hb))
theorem if_gt (nY nN : Nat) (X : Stand p l e R s m args below meth c T locs cells slots) (hx : p.tables.exec = Jvm.exec) {o : Int} {x : Int32} {rest : List Value} (hd : decode c.code pc = .ok (.ifCond .gt o, 3)) (hY : 0 ≤ (pc : Int) + o ∧ ((pc : Int) + o).toNat = nY) (hN : pc + 3 = nN) (KY : 0 < x → Ends p.tables e below s Q C S (T.setTop (mkF m nY Ls (rest)))) (KN : ¬ 0 < x → Ends p.tables e below s Q C S (T.setTop (mkF m nN Ls (rest)))) : Ends p.tables e below s Q C S (T.setTop (mkF m pc Ls (.int x :: rest))) :=
  ifB nY nN X hx hd hY hN (fun hb => KY (h_gt.1 hb)) (fun hb => KN (h_gt.2 hb))
theorem icmp_le (nY nN : Nat) (X : Stand p l e R s m args below meth c T locs cells slots) (hx : p.tables.exec = Jvm.exec) {o : Int} {x y : Int32} {rest : List Value} (hd : decode c.code pc = .ok (.if_icmp .le o, 3)) (hY : 0 ≤ (pc : Int) + o ∧ ((pc : Int) + o).toNat = nY) (hN : pc + 3 = nN) (KY : ¬ y < x → Ends p.tables e below s Q C S (T.setTop (mkF m nY Ls (rest)))) (KN : y < x → Ends p.tables e below s Q C S (T.setTop (mkF m nN Ls (rest)))) : Ends p.tables e below s Q C S (T.setTop (mkF m pc Ls (.int y :: .int x :: rest))) :=
  icmpB nY nN X hx hd hY hN (fun hb => KY (h_le.1 hb)) (fun hb => KN (h_le.2 hb))
theorem if_le (nY nN : Nat) (X : Stand p l e R s m args below meth c T locs cells slots) (hx : p.tables.exec = Jvm.exec) {o : Int} {x : Int32} {rest : List Value} (hd : decode c.code pc = .ok (.ifCond .le o, 3)) (hY : 0 ≤ (pc : Int) + o ∧ ((pc : Int) + o).toNat = nY) (hN : pc + 3 = nN) (KY : ¬ 0 < x → Ends p.tables e below s Q C S (T.setTop (mkF m nY Ls (rest)))) (KN : 0 < x → Ends p.tables e below s Q C S (T.setTop (mkF m nN Ls (rest)))) : Ends p.tables e below s Q C S (T.setTop (mkF m pc Ls (.int x :: rest))) :=
  ifB nY nN X hx hd hY hN (fun hb => KY (h_le.1 hb)) (fun hb => KN (h_le.2 hb))
theorem icmp_eq (nY nN : Nat) (X : Stand p l e R s m args below meth c T locs cells slots) (hx : p.tables.exec = Jvm.exec) {o : Int} {x y : Int32} {rest : List Value} (hd : decode c.code pc = .ok (.if_icmp .eq o, 3)) (hY : 0 ≤ (pc : Int) + o ∧ ((pc : Int) + o).toNat = nY) (hN : pc + 3 = nN) (KY : x = y → Ends p.tables e below s Q C S (T.setTop (mkF m nY Ls (rest)))) (KN : ¬ x = y → Ends p.tables e below s Q C S (T.setTop (mkF m nN Ls (rest)))) : Ends p.tables e below s Q C S (T.setTop (mkF m pc Ls (.int y :: .int x :: rest))) :=
  icmpB nY nN X hx hd hY hN (fun hb => KY (h_eq.1 hb)) (fun hb => KN (h_eq.2 hb))
theorem if_eq (nY nN : Nat) (X : Stand p l e R s m args below meth c T locs cells slots) (hx : p.tables.exec = Jvm.exec) {o : Int} {x : Int32} {rest : List Value} (hd : decode c.code pc = .ok (.ifCond .eq o, 3)) (hY : 0 ≤ (pc : Int) + o ∧ ((pc : Int) + o).toNat = nY) (hN : pc + 3 = nN) (KY : x = 0 → Ends p.tables e below s Q C S (T.setTop (mkF m nY Ls (rest)))) (KN : ¬ x = 0 → Ends p.tables e below s Q C S (T.setTop (mkF m nN Ls (rest)))) : Ends p.tables e below s Q C S (T.setTop (mkF m pc Ls (.int x :: rest))) :=
  ifB nY nN X hx hd hY hN (fun hb => KY (h_eq.1 hb)) (fun hb => KN (h_eq.2 hb))
theorem icmp_ne (nY nN : Nat) (X : Stand p l e R s m args below meth c T locs cells slots) (hx : p.tables.exec = Jvm.exec) {o : Int} {x y : Int32} {rest : List Value} (hd : decode c.code pc = .ok (.if_icmp .ne o, 3)) (hY : 0 ≤ (pc : Int) + o ∧ ((pc : Int) + o).toNat = nY) (hN : pc + 3 = nN) (KY : ¬ x = y → Ends p.tables e below s Q C S (T.setTop (mkF m nY Ls (rest)))) (KN : x = y → Ends p.tables e below s Q C S (T.setTop (mkF m nN Ls (rest)))) : Ends p.tables e below s Q C S (T.setTop (mkF m pc Ls (.int y :: .int x :: rest))) :=
  icmpB nY nN X hx hd hY hN (fun hb => KY (h_ne.1 hb)) (fun hb => KN (h_ne.2 hb))
theorem if_ne (nY nN : Nat) (X : Stand p l e R s m args below meth c T locs cells slots) (hx : p.tables.exec = Jvm.exec) {o : Int} {x : Int32} {rest : List Value} (hd : decode c.code pc = .ok (.ifCond .ne o, 3)) (hY : 0 ≤ (pc : Int) + o ∧ ((pc : Int) + o).toNat = nY) (hN : pc + 3 = nN) (KY : ¬ x = 0 → Ends p.tables e below s Q C S (T.setTop (mkF m nY Ls (rest)))) (KN : x = 0 → Ends p.tables e below s Q C S (T.setTop (mkF m nN Ls (rest)))) : Ends p.tables e below s Q C S (T.setTop (mkF m pc Ls (.int x :: rest))) :=
  ifB nY nN X hx hd hY hN (fun hb => KY (h_ne.1 hb)) (fun hb => KN (h_ne.2 hb))
theorem w_lt {x y : Int64} : lcmpW x y < 0 → x < y := (lw_lt x y).mp
theorem w_nlt {x y : Int64} : ¬ lcmpW x y < 0 → ¬ x < y := fun q r => q ((lw_lt x y).mpr r)
theorem w_gt {x y : Int64} : 0 < lcmpW x y → y < x := (lw_gt x y).mp
theorem w_ngt {x y : Int64} : ¬ 0 < lcmpW x y → ¬ y < x := fun q r => q ((lw_gt x y).mpr r)
theorem w_eq {x y : Int64} : lcmpW x y = 0 → x = y := (lw_eq x y).mp
theorem w_neq {x y : Int64} : ¬ lcmpW x y = 0 → ¬ x = y := fun q r => q ((lw_eq x y).mpr r)
theorem lif_lt (nY nN : Nat) (X : Stand p l e R s m args below meth c T locs cells slots) (hx : p.tables.exec = Jvm.exec) {o : Int} {x y : Int64} {rest : List Value} (hd0 : decode c.code pc = .ok (.lcmp, 1)) {pc1 : Nat} (hp : pc + 1 = pc1) (hd : decode c.code pc1 = .ok (.ifCond .lt o, 3)) (hY : 0 ≤ (pc1 : Int) + o ∧ ((pc1 : Int) + o).toNat = nY) (hN : pc1 + 3 = nN) (KY : x < y → Ends p.tables e below s Q C S (T.setTop (mkF m nY Ls (rest)))) (KN : ¬ x < y → Ends p.tables e below s Q C S (T.setTop (mkF m nN Ls (rest)))) : Ends p.tables e below s Q C S (T.setTop (mkF m pc Ls (.long y :: .long x :: rest))) := by
  subst hp
  refine Ends.step ?_ fun t k => XS.lcmp (g := mkF m pc Ls (.long y :: .long x :: rest)) X.here hx rfl hd0 rfl k
  exact if_lt nY nN X hx hd hY hN (fun hb => KY (w_lt hb)) (fun hb => KN (w_nlt hb))
theorem lif_ge (nY nN : Nat) (X : Stand p l e R s m args below meth c T locs cells slots) (hx : p.tables.exec = Jvm.exec) {o : Int} {x y : Int64} {rest : List Value} (hd0 : decode c.code pc = .ok (.lcmp, 1)) {pc1 : Nat} (hp : pc + 1 = pc1) (hd : decode c.code pc1 = .ok (.ifCond .ge o, 3)) (hY : 0 ≤ (pc1 : Int) + o ∧ ((pc1 : Int) + o).toNat = nY) (hN : pc1 + 3 = nN) (KY : ¬ x < y → Ends p.tables e below s Q C S (T.setTop (mkF m nY Ls (rest)))) (KN : x < y → Ends p.tables e below s Q C S (T.setTop (mkF m nN Ls (rest)))) : Ends p.tables e below s Q C S (T.setTop (mkF m pc Ls (.long y :: .long x :: rest))) := by
  subst hp
  refine Ends.step ?_ fun t k => XS.lcmp (g := mkF m pc Ls (.long y :: .long x :: rest)) X.here hx rfl hd0 rfl k
  exact if_ge nY nN X hx hd hY hN (fun hb => KY (w_nlt hb)) (fun hb => KN (w_lt hb))
theorem lif_gt (nY nN : Nat) (X : Stand p l e R s m args below meth c T locs cells slots) (hx : p.tables.exec = Jvm.exec) {o : Int} {x y : Int64} {rest : List Value} (hd0 : decode c.code pc = .ok (.lcmp, 1)) {pc1 : Nat} (hp : pc + 1 = pc1) (hd : decode c.code pc1 = .ok (.ifCond .gt o, 3)) (hY : 0 ≤ (pc1 : Int) + o ∧ ((pc1 : Int) + o).toNat = nY) (hN : pc1 + 3 = nN) (KY : y < x → Ends p.tables e below s Q C S (T.setTop (mkF m nY Ls (rest)))) (KN : ¬ y < x → Ends p.tables e below s Q C S (T.setTop (mkF m nN Ls (rest)))) : Ends p.tables e below s Q C S (T.setTop (mkF m pc Ls (.long y :: .long x :: rest))) := by
  subst hp
  refine Ends.step ?_ fun t k => XS.lcmp (g := mkF m pc Ls (.long y :: .long x :: rest)) X.here hx rfl hd0 rfl k
  exact if_gt nY nN X hx hd hY hN (fun hb => KY (w_gt hb)) (fun hb => KN (w_ngt hb))
theorem lif_le (nY nN : Nat) (X : Stand p l e R s m args below meth c T locs cells slots) (hx : p.tables.exec = Jvm.exec) {o : Int} {x y : Int64} {rest : List Value} (hd0 : decode c.code pc = .ok (.lcmp, 1)) {pc1 : Nat} (hp : pc + 1 = pc1) (hd : decode c.code pc1 = .ok (.ifCond .le o, 3)) (hY : 0 ≤ (pc1 : Int) + o ∧ ((pc1 : Int) + o).toNat = nY) (hN : pc1 + 3 = nN) (KY : ¬ y < x → Ends p.tables e below s Q C S (T.setTop (mkF m nY Ls (rest)))) (KN : y < x → Ends p.tables e below s Q C S (T.setTop (mkF m nN Ls (rest)))) : Ends p.tables e below s Q C S (T.setTop (mkF m pc Ls (.long y :: .long x :: rest))) := by
  subst hp
  refine Ends.step ?_ fun t k => XS.lcmp (g := mkF m pc Ls (.long y :: .long x :: rest)) X.here hx rfl hd0 rfl k
  exact if_le nY nN X hx hd hY hN (fun hb => KY (w_ngt hb)) (fun hb => KN (w_gt hb))
theorem lif_eq (nY nN : Nat) (X : Stand p l e R s m args below meth c T locs cells slots) (hx : p.tables.exec = Jvm.exec) {o : Int} {x y : Int64} {rest : List Value} (hd0 : decode c.code pc = .ok (.lcmp, 1)) {pc1 : Nat} (hp : pc + 1 = pc1) (hd : decode c.code pc1 = .ok (.ifCond .eq o, 3)) (hY : 0 ≤ (pc1 : Int) + o ∧ ((pc1 : Int) + o).toNat = nY) (hN : pc1 + 3 = nN) (KY : x = y → Ends p.tables e below s Q C S (T.setTop (mkF m nY Ls (rest)))) (KN : ¬ x = y → Ends p.tables e below s Q C S (T.setTop (mkF m nN Ls (rest)))) : Ends p.tables e below s Q C S (T.setTop (mkF m pc Ls (.long y :: .long x :: rest))) := by
  subst hp
  refine Ends.step ?_ fun t k => XS.lcmp (g := mkF m pc Ls (.long y :: .long x :: rest)) X.here hx rfl hd0 rfl k
  exact if_eq nY nN X hx hd hY hN (fun hb => KY (w_eq hb)) (fun hb => KN (w_neq hb))
theorem lif_ne (nY nN : Nat) (X : Stand p l e R s m args below meth c T locs cells slots) (hx : p.tables.exec = Jvm.exec) {o : Int} {x y : Int64} {rest : List Value} (hd0 : decode c.code pc = .ok (.lcmp, 1)) {pc1 : Nat} (hp : pc + 1 = pc1) (hd : decode c.code pc1 = .ok (.ifCond .ne o, 3)) (hY : 0 ≤ (pc1 : Int) + o ∧ ((pc1 : Int) + o).toNat = nY) (hN : pc1 + 3 = nN) (KY : ¬ x = y → Ends p.tables e below s Q C S (T.setTop (mkF m nY Ls (rest)))) (KN : x = y → Ends p.tables e below s Q C S (T.setTop (mkF m nN Ls (rest)))) : Ends p.tables e below s Q C S (T.setTop (mkF m pc Ls (.long y :: .long x :: rest))) := by
  subst hp
  refine Ends.step ?_ fun t k => XS.lcmp (g := mkF m pc Ls (.long y :: .long x :: rest)) X.here hx rfl hd0 rfl k
  exact if_ne nY nN X hx hd hY hN (fun hb => KY (w_neq hb)) (fun hb => KN (w_eq hb))
theorem ifnull (nY nN : Nat) (X : Stand p l e R s m args below meth c T locs cells slots) (hx : p.tables.exec = Jvm.exec) {o : Int} {v : Value} {rest : List Value} (hd : decode c.code pc = .ok (.ifnull o, 3)) (hv : v.isRef = true) (hY : 0 ≤ (pc : Int) + o ∧ ((pc : Int) + o).toNat = nY) (hN : pc + 3 = nN) (KY : v = .null → Ends p.tables e below s Q C S (T.setTop (mkF m nY Ls (rest)))) (KN : ∀ a, v = .ref a → Ends p.tables e below s Q C S (T.setTop (mkF m nN Ls (rest)))) : Ends p.tables e below s Q C S (T.setTop (mkF m pc Ls (v :: rest))) := by
  subst hN
  rcases ref_cases hv with rfl | ⟨a, rfl⟩
  · exact (KY rfl).step fun t k => XS.ifnullYes (g := mkF m pc Ls (.null :: rest)) X.here hx rfl (pc0 := pc) (pc' := nY) rfl hd rfl hY.1 hY.2 k
  · exact (KN a rfl).step fun t k => XS.ifnullNo (g := mkF m pc Ls (.ref a :: rest)) X.here hx rfl hd rfl k
theorem ifnonnull (nY nN : Nat) (X : Stand p l e R s m args below meth c T locs cells slots) (hx : p.tables.exec = Jvm.exec) {o : Int} {v : Value} {rest : List Value} (hd : decode c.code pc = .ok (.ifnonnull o, 3)) (hv : v.isRef = true) (hY : 0 ≤ (pc : Int) + o ∧ ((pc : Int) + o).toNat = nY) (hN : pc + 3 = nN) (KY : ∀ a, v = .ref a → Ends p.tables e below s Q C S (T.setTop (mkF m nY Ls (rest)))) (KN : v = .null → Ends p.tables e below s Q C S (T.setTop (mkF m nN Ls (rest)))) : Ends p.tables e below s Q C S (T.setTop (mkF m pc Ls (v :: rest))) := by
  subst hN
  rcases ref_cases hv with rfl | ⟨a, rfl⟩
  · exact (KN rfl).step fun t k => XS.ifnonnullNo (g := mkF m pc Ls (.null :: rest)) X.here hx rfl hd rfl k
  · exact (KY a rfl).step fun t k => XS.ifnonnullYes (g := mkF m pc Ls (.ref a :: rest)) X.here hx rfl (pc0 := pc) (pc' := nY) rfl hd rfl hY.1 hY.2 k
theorem retI (X : Stand p l e R s m args below meth c T locs cells slots) (hx : p.tables.exec = Jvm.exec) {pc : Nat} {Ls : Array Slot} {z : Int32} {rest : List Value} (hret : meth.sig.returnType = some .int) (hd : decode c.code pc = .ok (.ireturn, 1)) {fs : List Frame}
    (hl : ∀ (f : JFrame) (acts : List Action), f.method = m → f.locked = none → f.entered = [] → (doReturn e (T.setTop f) acts (some (.int z))).1 = T.setFrames fs) : Steps p.tables e below (T.setTop (mkF m pc Ls (.int z :: rest))) (T.setFrames fs) := by
  have hm' : T.vm.method? m = some meth := X.method'
  have hn : narrow .int (.int z) = .int z := rfl
  show Steps p.tables e below (T.setTop { method := m, pc := pc, locals := Ls, stack := _ :: rest, locked := none }) _
  jvm_step X.here [X.here.top, hx, hd, hm', hret, hn]
  first | (intro acts; rw [hl _ acts rfl rfl rfl]) | rw [hl _ _ rfl rfl rfl]
  exact Steps.refl _
theorem fin {fs : List Frame} {v : Option Value} {U : State} (X : Stand p l e R s m args below meth c T locs cells slots) (hst : Steps p.tables e below U (T.setFrames fs)) (hrun : (T.setFrames fs).status = .running) (hend : Ended (T.setFrames fs) below (.returned v)) (hW : s.WarmedH (T.setFrames fs).vm) (hsame : s.sameButNew ({ T.setFrames fs with vm := s.vm } : State) locs cells slots) (q : Q v T.heap locs) (hC : cells ≤ C) (hS : slots ≤ S) : Ends p.tables e below s Q C S U :=
  ⟨_, _, hst, hrun, hend, _, _, rfl, q, ⟨_, rfl⟩, hW, hsame.mono hC hS⟩
theorem retInt (X : Stand p l e R s m args below meth c T locs cells slots) (hx : p.tables.exec = Jvm.exec) {z : Int32} {rest : List Value} (hlk : meth.locks = false) (hret : meth.sig.returnType = some .int) (hd : decode c.code pc = .ok (.ireturn, 1)) (hC : cells ≤ C) (hS : slots ≤ S) (q : Q (some (.int z)) T.heap locs) : Ends p.tables e below s Q C S (T.setTop (mkF m pc Ls (.int z :: rest))) := by
  obtain ⟨fs, hr, hrun, hended, hW, hsame⟩ := X.leave (v := some (.int z)) (fun h => by rw [hret] at h; cases h) hlk
  exact fin X (retI X hx hret hd hr) hrun hended hW hsame q hC hS
theorem retBool (X : Stand p l e R s m args below meth c T locs cells slots) (hx : p.tables.exec = Jvm.exec) {z : Int32} {rest : List Value} (hlk : meth.locks = false) (hret : meth.sig.returnType = some .boolean) (hd : decode c.code pc = .ok (.ireturn, 1)) (hC : cells ≤ C) (hS : slots ≤ S) (q : Q (some (.int (nar .boolean z))) T.heap locs) : Ends p.tables e below s Q C S (T.setTop (mkF m pc Ls (.int z :: rest))) := by
  obtain ⟨fs, hr, hrun, hended, hW, hsame⟩ := X.leave (v := some (.int (nar .boolean z))) (fun h => by rw [hret] at h; cases h) hlk
  exact fin X (retN X hx hret (Or.inl rfl) hd hr) hrun hended hW hsame q hC hS
theorem retLong (X : Stand p l e R s m args below meth c T locs cells slots) (hx : p.tables.exec = Jvm.exec) {z : Int64} (hlk : meth.locks = false) (hret : meth.sig.returnType = some .long) (hd : decode c.code pc = .ok (.lreturn, 1)) (hC : cells ≤ C) (hS : slots ≤ S) (q : Q (some (.long z)) T.heap locs) : Ends p.tables e below s Q C S (T.setTop (mkF m pc Ls ([.long z]))) := by
  obtain ⟨fs, hr, hrun, hended, hW, hsame⟩ := X.leave (v := some (.long z)) (fun h => by rw [hret] at h; cases h) hlk
  exact fin X (X.lreturnOut hx hret hd hr) hrun hended hW hsame q hC hS
theorem retRef (X : Stand p l e R s m args below meth c T locs cells slots) (hx : p.tables.exec = Jvm.exec) {v : Value} {t : FieldType} (hlk : meth.locks = false) (hv : v.isRef = true) (hret : meth.sig.returnType = some t) (ht : t.isReference = true) (hd : decode c.code pc = .ok (.areturn, 1)) (hC : cells ≤ C) (hS : slots ≤ S) (q : Q (some v) T.heap locs) : Ends p.tables e below s Q C S (T.setTop (mkF m pc Ls ([v]))) := by
  obtain ⟨fs, hr, hrun, hended, hW, hsame⟩ := X.leave (v := some v) (fun h => by rw [hret] at h; cases h) hlk
  exact fin X (X.areturnOut hx hv hret ht hd hr) hrun hended hW hsame q hC hS
theorem retVoid (X : Stand p l e R s m args below meth c T locs cells slots) (hx : p.tables.exec = Jvm.exec) (hlk : meth.locks = false) (hret : meth.sig.returnType = none) (hd : decode c.code pc = .ok (.return_, 1)) (hC : cells ≤ C) (hS : slots ≤ S) (q : Q none T.heap locs) : Ends p.tables e below s Q C S (T.setTop (mkF m pc Ls ([]))) := by
  obtain ⟨fs, hr, hrun, hended, hW, hsame⟩ := X.leave (v := none) (fun _ => rfl) hlk
  exact fin X (X.returnOut hx hret hd hr) hrun hended hW hsame q hC hS
theorem ldcInt (n : Nat) (X : Stand p l e R s m args below meth c T locs cells slots) (hx : p.tables.exec = Jvm.exec) (hZ : Z.Warmed39 s.vm) {own : String} {index : Nat} (v : Int32) (hown : s.vm.findClass own = some m.cls) (w : (Cond.constant own index v).before a0 Z = true) (hd : decode c.code pc = .ok (.ldc index, 2)) (hn : pc + 2 = n) (K : Ends p.tables e below s Q C S (T.setTop (mkF m n Ls (.int v :: st)))) : Ends p.tables e below s Q C S (T.setTop (mkF m pc Ls (st))) := by
  subst hn; exact K.step fun t k => X.ldcInt hx hown (mvT hZ w) (g := mkF m pc Ls st) rfl hd _ k
theorem ldcwInt (n : Nat) (X : Stand p l e R s m args below meth c T locs cells slots) (hx : p.tables.exec = Jvm.exec) (hZ : Z.Warmed39 s.vm) {own : String} {index : Nat} (v : Int32) (hown : s.vm.findClass own = some m.cls) (w : (Cond.constant own index v).before a0 Z = true) (hd : decode c.code pc = .ok (.ldc_w index, 3)) (hn : pc + 3 = n) (K : Ends p.tables e below s Q C S (T.setTop (mkF m n Ls (.int v :: st)))) : Ends p.tables e below s Q C S (T.setTop (mkF m pc Ls (st))) := by
  subst hn; exact K.step fun t k => X.ldcwInt hx hown (mvT hZ w) (g := mkF m pc Ls st) rfl hd _ k
theorem ldc2Long (n : Nat) (X : Stand p l e R s m args below meth c T locs cells slots) (hx : p.tables.exec = Jvm.exec) (hZ : Z.Warmed39 s.vm) {own : String} {index : Nat} (v : Int64) (hown : s.vm.findClass own = some m.cls) (w : (Cond.constantLong own index v).before a0 Z = true) (hd : decode c.code pc = .ok (.ldc2_w index, 3)) (hn : pc + 3 = n) (K : Ends p.tables e below s Q C S (T.setTop (mkF m n Ls (.long v :: st)))) : Ends p.tables e below s Q C S (T.setTop (mkF m pc Ls (st))) := by
  subst hn; exact K.step fun t k => X.ldc2Long hx hown (mvT hZ w) (g := mkF m pc Ls st) rfl hd _ k
theorem getFld (n : Nat) (X : Stand p l e R s m args below meth c T locs cells slots) (hx : p.tables.exec = Jvm.exec) (hZ : Z.Warmed39 s.vm) {own R0 O nm d host : String} {index : Nat} (hown : s.vm.findClass own = some m.cls) (w : (Cond.fieldLink own index R0 nm d).before a0 Z = true ∨ (Cond.fieldLinkNest own index R0 nm d host).before a0 Z = true) (via : Via Z R0 O nm d) (eT : T.heap = h) {a : Addr} {v : Value} (F : Fld Z h a O nm d v) {rest : List Value} (hd : decode c.code pc = .ok (.getfield index, 3)) (hn : pc + 3 = n) (K : ∀ T', Stand p l e R s m args below meth c T' locs cells slots → T'.heap = h → Ends p.tables e below s Q C S (T'.setTop (mkF m n Ls (v :: rest)))) : Ends p.tables e below s Q C S (T.setTop (mkF m pc Ls (.ref a :: rest))) := by
  subst hn
  obtain ⟨T1, X1, e1, st1⟩ := getF X hx hZ hown w via eT F (g := mkF m pc Ls (.ref a :: rest)) rfl rfl hd
  exact (K T1 X1 e1).step st1
theorem getSta (n : Nat) (X : Stand p l e R s m args below meth c T locs cells slots) (hx : p.tables.exec = Jvm.exec) (hZ : Z.Warmed39 s.vm) {own R0 O nm d host : String} {index : Nat} (hown : s.vm.findClass own = some m.cls) (w : (Cond.fieldLink own index R0 nm d).before a0 Z = true ∨ (Cond.fieldLinkNest own index R0 nm d host).before a0 Z = true) (via : Via Z R0 O nm d) (eT : T.heap = h) {v : Value} (F : Sta Z h O nm d v) (hd : decode c.code pc = .ok (.getstatic index, 3)) (hn : pc + 3 = n) (K : ∀ T', Stand p l e R s m args below meth c T' locs cells slots → T'.heap = h → Ends p.tables e below s Q C S (T'.setTop (mkF m n Ls (v :: st)))) : Ends p.tables e below s Q C S (T.setTop (mkF m pc Ls (st))) := by
  subst hn
  obtain ⟨T1, X1, e1, st1⟩ := getS2 X hx hZ hown w via eT F (g := mkF m pc Ls st) rfl hd
  exact (K T1 X1 e1).step st1
theorem putFld (n : Nat) (X : Stand p l e R s m args below meth c T locs cells slots) (hx : p.tables.exec = Jvm.exec) (hZ : Z.Warmed39 s.vm) {own R0 O nm d host CC : String} {index kk : Nat} {ty : FieldType} (hown : s.vm.findClass own = some m.cls) (w : (Cond.fieldLink own index R0 nm d).before a0 Z = true ∨ (Cond.fieldLinkNest own index R0 nm d host).before a0 Z = true) (via : Via Z R0 O nm d) (eT : T.heap = h) {a : Addr} {v old : Value} (F : Fld Z h a O nm d old) (E : Exa Z h a CC) (L : (Cond.lays CC O nm d).before a0 Z = true ∨ ((Cond.laysFinal CC O nm d).before a0 Z = true ∧ own = O ∧ meth.name = "<init>")) (wi : (Cond.instantiable CC kk).before a0 Z = true) (hty : parseFieldDescriptor d = some ty) (hnw : narrow ty v = v) (hf : fits ty v = true) {rest : List Value} (hd : decode c.code pc = .ok (.putfield index, 3)) (hn : pc + 3 = n) (K : ∀ T' h', Stand p l e R s m args below meth c T' (locs ++ [⟨a, Jvm.RoadKit.slotOf Z O nm d⟩]) cells slots → T'.heap = h' → Wr h h' a (Jvm.RoadKit.slotOf Z O nm d) v → Ends p.tables e below s Q C S (T'.setTop (mkF m n Ls (rest)))) : Ends p.tables e below s Q C S (T.setTop (mkF m pc Ls (v :: .ref a :: rest))) := by
  subst hn
  obtain ⟨T1, h1, X1, e1, W1, st1⟩ := putF X hx hZ hown w via eT F E L wi hty hnw hf (g := mkF m pc Ls (v :: .ref a :: rest)) rfl rfl hd
  exact (K T1 h1 X1 e1 W1).step st1
theorem newObj (n : Nat) (X : Stand p l e R s m args below meth c T locs cells slots) (hx : p.tables.exec = Jvm.exec) (hZ : Z.Warmed39 s.vm) {own CC : String} {index sz : Nat} (hown : s.vm.findClass own = some m.cls) (w : (Cond.classLink own index CC).before a0 Z = true) (wi : (Cond.instantiable CC sz).before a0 Z = true) (wz : (Cond.initialized CC).before a0 Z = true) (eT : T.heap = h) (hd : decode c.code pc = .ok (.new index, 3)) (hn : pc + 3 = n) (hc : cells + 1 ≤ R.cells) (hl : slots + sz ≤ R.slots) (K : ∀ T' h' a, a = h.size → Stand p l e R s m args below meth c T' locs (cells + 1) (slots + sz) → T'.heap = h' → Ext h h' → Exa Z h' a CC → (∀ {O nm d : String} {ty : FieldType}, Laid Z a0 CC O nm d → parseFieldDescriptor d = some ty → Fld Z h' a O nm d (defaultValue ty)) → Ends p.tables e below s Q C S (T'.setTop (mkF m n Ls (.ref a :: st)))) : Ends p.tables e below s Q C S (T.setTop (mkF m pc Ls (st))) := by
  subst hn
  obtain ⟨T1, h1, X1, e1, E1, A1, D1, -, st1⟩ := newO X hx hZ hown w wi wz eT (g := mkF m pc Ls st) rfl hd hc hl
  exact (K T1 h1 _ rfl X1 e1 E1 A1 (fun L q => D1 L q)).step st1
theorem initObj (n W : Nat) (X : Stand p l e R s m args below meth c T locs cells slots) (hx : p.tables.exec = Jvm.exec) (hZ : Z.Warmed39 s.vm) {own : String} {index : Nat} (hown : s.vm.findClass own = some m.cls) (w1 : (Cond.methodLink own index Lib.objectInit).before a0 Z = true) (w2 : (Cond.instanceMethod Lib.objectInit).before a0 Z = true) (w3 : (Cond.code Lib.objectInit ⟨#[0xb1]⟩ 1 none).before a0 Z = true) (eT : T.heap = h) {a : Addr} {rest : List Value} (hsz : Ls.size = c.maxLocals) (hd : decode c.code pc = .ok (.invokespecial index, 3)) (hn : pc + 3 = n) (hf : 1 ≤ R.frames) (hW : (rest.map fun v => v.category).sum ≤ W) (hl : W + 12 ≤ R.locals) (K : ∀ T', Stand p l e R s m args below meth c T' locs cells slots → T'.heap = h → Ends p.tables e below s Q C S (T'.setTop (mkF m n Ls (rest)))) : Ends p.tables e below s Q C S (T.setTop (mkF m pc Ls (.ref a :: rest))) := by
  subst hn
  obtain ⟨T1, X1, e1, st1⟩ := initO X hx hZ hown w1 w2 w3 eT (g := mkF m pc Ls (.ref a :: rest)) rfl hsz rfl hd hf (W := W) (by show 2 * 0 + _ ≤ _; omega) hl
  exact (K T1 X1 e1).step st1
/-- the contract of a body: entered with these arguments at this heap it returns, and what it leaves answers to QQ -/
def Met (l : Launch) (Z : State) (y : MethodName) (bytes : ByteArray) (maxL : Nat) (ret : Option FieldType) (ws : List Cond) (rm : Room) (as : Array Value) (h : Heap) (QQ : Option Value → Heap → List Loc → Prop) : Prop :=
  MetFree l y (head1 (Cond.code y bytes maxL ret :: ws) rm) (fun a U => a = as ∧ Z.Warmed39 U.vm ∧ U.heap = h) (fun _ _ _ _ _ => True) (fun _ U o U' => ∃ v L, o = .returned v ∧ QQ v U'.heap L ∧ FrameEnd U o U' L rm.cells rm.slots)
theorem Met.of {y : MethodName} {bytes : ByteArray} {maxL : Nat} {ret : Option FieldType} {ws : List Cond} {rm : Room} {as : Array Value} {QQ : Option Value → Heap → List Loc → Prop} (hp : plainFor y = true)
    (body : ∀ (p : Program) (e : Env) (s : State) (m : MethodId) (below : List Frame) (meth : Method) (c : Code) (T : State), p.tables.exec = Jvm.exec → c.code = bytes → c.maxLocals = maxL → s.vm.findClass y.cls = some m.cls → meth.name = y.name → meth.sig.returnType = ret → meth.locks = false → Z.Warmed39 s.vm → Stand p l e rm s m as below meth c T [] 0 0 → T.heap = h → Ends p.tables e below s QQ rm.cells rm.slots (T.setTop (entryFrame m as maxL))) :
    Met l Z y bytes maxL ret ws rm as h QQ := by
  refine MetFree.of_bodySF hp hisR ?_
  intro p e s m args below meth c s₁ Bd hml0 hP hK
  obtain ⟨rfl, hZ, hh⟩ := hP
  exact body p e s m below meth c s₁ Bd.exec Bd.bytes hml0 (findClass_of_methodNamed Bd.named) (name_of_methodNamed Bd.named Bd.method).1 Bd.returns Bd.notSynchronized hZ (Stand.of_body Bd) (by rw [← hh, Bd.state]; rfl)
theorem callSt (n W : Nat) (argsL rest : List Value) (X : Stand p l e R s m args below meth c T locs cells slots) (hx : p.tables.exec = Jvm.exec) (hZ : Z.Warmed39 s.vm) {own : String} {index : Nat} {y : MethodName} {bytes : ByteArray} {maxL : Nat} {ret : Option FieldType} {rm : Room} {QQ : Option Value → Heap → List Loc → Prop} (hown : s.vm.findClass own = some m.cls) (hM : Met l Z y bytes maxL ret [] rm argsL.toArray h QQ) (wl : (Cond.methodLink own index y).before a0 Z = true) (ws : (Cond.static y).before a0 Z = true) (wi : (Cond.initialized y.cls).before a0 Z = true) (wc : (Cond.code y bytes maxL ret).before a0 Z = true) (hy : y.cls ≠ "java/lang/invoke/MethodHandle" ∧ y.cls ≠ "java/lang/invoke/VarHandle") (eT : T.heap = h) (hfr : rm.frames + 1 ≤ R.frames) (hlc : W + (maxL + 11) + rm.locals ≤ R.locals) (hc : cells + rm.cells ≤ R.cells) (hs : slots + rm.slots ≤ R.slots) (hsz : Ls.size = c.maxLocals) (hlen : ∀ sig, parseMethodDescriptor y.desc = some sig → argsL.length = sig.parameters.length) (hst : st = argsL.reverse ++ rest) (hW : (rest.map fun v => v.category).sum ≤ W) (hd : decode c.code pc = .ok (.invokestatic index, 3)) (hn : pc + 3 = n) (K : ∀ v T' L', Stand p l e R s m args below meth c T' (locs ++ L') (cells + rm.cells) (slots + rm.slots) → QQ v T'.heap L' → Ends p.tables e below s Q C S (T'.setTop (mkF m n Ls (v.toList ++ rest)))) : Ends p.tables e below s Q C S (T.setTop (mkF m pc Ls (st))) := by
  subst hn
  obtain ⟨v, vm1, ⟨T1, L1, k1, n1⟩, -, X1, ⟨Lc, hQ, l1, y1, z1⟩, st1⟩ := Jvm.LawKit.callS X hx (y := y) hown (mvT hZ wl) (mvT hZ ws) (mvT hZ wi) (mvT hZ wc) hy (backOf (W := W) hM hZ wc wi hfr hlc) (g := mkF m pc Ls st) rfl hsz (argsL := argsL) (rest := rest) hlen hst (by show 2 * 0 + _ ≤ _; omega) hd (fun _ _ => ⟨rfl, eT, hc, hs⟩)
  dsimp only [Pt.U, Pt.locs, Pt.cells, Pt.slots] at X1 l1 y1 z1 st1 hQ
  subst l1 y1 z1
  exact (K v T1 Lc X1 hQ).step st1
theorem callInit (n W : Nat) (a : Addr) (argsL rest : List Value) (X : Stand p l e R s m args below meth c T locs cells slots) (hx : p.tables.exec = Jvm.exec) (hZ : Z.Warmed39 s.vm) {own : String} {index : Nat} {y : MethodName} {bytes : ByteArray} {maxL : Nat} {rm : Room} {QQ : Option Value → Heap → List Loc → Prop} (hown : s.vm.findClass own = some m.cls) (hM : Met l Z y bytes maxL none [] rm (.ref a :: argsL).toArray h QQ) (hy1 : y.name = "<init>") (wl : (Cond.methodLink own index y).before a0 Z = true) (ws : (Cond.instanceMethod y).before a0 Z = true) (wi : (Cond.initialized y.cls).before a0 Z = true) (wc : (Cond.code y bytes maxL none).before a0 Z = true) (hy : y.cls ≠ "java/lang/invoke/MethodHandle" ∧ y.cls ≠ "java/lang/invoke/VarHandle") (eT : T.heap = h) (hfr : rm.frames + 1 ≤ R.frames) (hlc : W + (maxL + 11) + rm.locals ≤ R.locals) (hc : cells + rm.cells ≤ R.cells) (hs : slots + rm.slots ≤ R.slots) (hsz : Ls.size = c.maxLocals) (hlen : ∀ sig, parseMethodDescriptor y.desc = some sig → argsL.length = sig.parameters.length) (hst : st = argsL.reverse ++ .ref a :: rest) (hW : (rest.map fun v => v.category).sum ≤ W) (hd : decode c.code pc = .ok (.invokespecial index, 3)) (hn : pc + 3 = n) (K : ∀ v T' L', Stand p l e R s m args below meth c T' (locs ++ L') (cells + rm.cells) (slots + rm.slots) → QQ v T'.heap L' → Ends p.tables e below s Q C S (T'.setTop (mkF m n Ls (v.toList ++ rest)))) : Ends p.tables e below s Q C S (T.setTop (mkF m pc Ls (st))) := by
  subst hn
  obtain ⟨v, vm1, ⟨T1, L1, k1, n1⟩, -, X1, ⟨Lc, hQ, l1, y1, z1⟩, st1⟩ := X.specialBack hx (y := y) hy1 hown (mvT hZ wl) (mvT hZ ws) (mvT hZ wc) hy (backOf (W := W) hM hZ wc wi hfr hlc) (g := mkF m pc Ls st) rfl hsz (Steps.refl _) (a := a) (argsL := argsL) (rest := rest) hlen hst (by show 2 * 0 + _ ≤ _; omega) hd (fun _ _ => ⟨rfl, eT, hc, hs⟩)
  dsimp only [Pt.U, Pt.locs, Pt.cells, Pt.slots] at X1 l1 y1 z1 st1 hQ
  subst l1 y1 z1
  exact (K v T1 Lc X1 hQ).step fun t k => st1.trans k
theorem callVt (n W : Nat) (a : Addr) (argsL rest : List Value) (X : Stand p l e R s m args below meth c T locs cells slots) (hx : p.tables.exec = Jvm.exec) (hZ : Z.Warmed39 s.vm) {own CC : String} {index : Nat} {y z : MethodName} {bytes : ByteArray} {maxL : Nat} {ret : Option FieldType} {rm : Room} {QQ : Option Value → Heap → List Loc → Prop} (hown : s.vm.findClass own = some m.cls) (hM : Met l Z z bytes maxL ret [] rm (.ref a :: argsL).toArray h QQ) (E : Exa Z h a CC) (hnf : NotFace s y) (wl : (Cond.methodLink own index y).before a0 Z = true) (wd : (Cond.declares y).before a0 Z = true) (wsel : (Cond.selects CC y z).before a0 Z = true) (ws : (Cond.instanceMethod z).before a0 Z = true) (wi : (Cond.initialized z.cls).before a0 Z = true) (wc : (Cond.code z bytes maxL ret).before a0 Z = true) (hy : y.cls ≠ "java/lang/invoke/MethodHandle" ∧ y.cls ≠ "java/lang/invoke/VarHandle") (eT : T.heap = h) (hfr : rm.frames + 1 ≤ R.frames) (hlc : W + (maxL + 11) + rm.locals ≤ R.locals) (hc : cells + rm.cells ≤ R.cells) (hs : slots + rm.slots ≤ R.slots) (hsz : Ls.size = c.maxLocals) (hlen : ∀ sig, parseMethodDescriptor y.desc = some sig → argsL.length = sig.parameters.length) (hst : st = argsL.reverse ++ .ref a :: rest) (hW : (rest.map fun v => v.category).sum ≤ W) (hd : decode c.code pc = .ok (.invokevirtual index, 3)) (hn : pc + 3 = n) (K : ∀ v T' L', Stand p l e R s m args below meth c T' (locs ++ L') (cells + rm.cells) (slots + rm.slots) → QQ v T'.heap L' → Ends p.tables e below s Q C S (T'.setTop (mkF m n Ls (v.toList ++ rest)))) : Ends p.tables e below s Q C S (T.setTop (mkF m pc Ls (st))) := by
  subst hn
  obtain ⟨cq, kq, qa, qb, qc⟩ := isOf hZ eT E
  obtain ⟨v, vm1, ⟨T1, L1, k1, n1⟩, -, X1, ⟨Lc, hQ, l1, y1, z1⟩, st1⟩ := X.virtualBack hx (y := y) (z := z) hown (mvT hZ wl) (mvT hZ wd) hnf (mvT hZ wsel) (mvT hZ ws) hy (backOf (W := W) hM hZ wc wi hfr hlc) qa qc (g := mkF m pc Ls st) rfl hsz (Steps.refl _) (argsL := argsL) (rest := rest) hlen hst (by show 2 * 0 + _ ≤ _; omega) hd (fun _ _ => ⟨rfl, eT, hc, hs⟩)
  dsimp only [Pt.U, Pt.locs, Pt.cells, Pt.slots] at X1 l1 y1 z1 st1 hQ
  subst l1 y1 z1
  exact (K v T1 Lc X1 hQ).step fun t k => st1.trans k
theorem callPr (n W : Nat) (a : Addr) (argsL rest : List Value) (X : Stand p l e R s m args below meth c T locs cells slots) (hx : p.tables.exec = Jvm.exec) (hZ : Z.Warmed39 s.vm) {own CC : String} {index : Nat} {y : MethodName} {bytes : ByteArray} {maxL : Nat} {ret : Option FieldType} {rm : Room} {QQ : Option Value → Heap → List Loc → Prop} (hown : s.vm.findClass own = some m.cls) (hM : Met l Z y bytes maxL ret [] rm (.ref a :: argsL).toArray h QQ) (E : Exa Z h a CC) (wl : (Cond.methodLink own index y).before a0 Z = true) (wp : (Cond.privateMethod y).before a0 Z = true) {kk : Nat} (wk : (Cond.instantiable y.cls kk).before a0 Z = true) (ws : (Cond.instanceMethod y).before a0 Z = true) (wi : (Cond.initialized y.cls).before a0 Z = true) (wc : (Cond.code y bytes maxL ret).before a0 Z = true) (hy : y.cls ≠ "java/lang/invoke/MethodHandle" ∧ y.cls ≠ "java/lang/invoke/VarHandle") (eT : T.heap = h) (hfr : rm.frames + 1 ≤ R.frames) (hlc : W + (maxL + 11) + rm.locals ≤ R.locals) (hc : cells + rm.cells ≤ R.cells) (hs : slots + rm.slots ≤ R.slots) (hsz : Ls.size = c.maxLocals) (hlen : ∀ sig, parseMethodDescriptor y.desc = some sig → argsL.length = sig.parameters.length) (hst : st = argsL.reverse ++ .ref a :: rest) (hW : (rest.map fun v => v.category).sum ≤ W) (hd : decode c.code pc = .ok (.invokevirtual index, 3)) (hn : pc + 3 = n) (K : ∀ v T' L', Stand p l e R s m args below meth c T' (locs ++ L') (cells + rm.cells) (slots + rm.slots) → QQ v T'.heap L' → Ends p.tables e below s Q C S (T'.setTop (mkF m n Ls (v.toList ++ rest)))) : Ends p.tables e below s Q C S (T.setTop (mkF m pc Ls (st))) := by
  subst hn
  obtain ⟨cq, qa, qb⟩ := E.cell
  obtain ⟨cI, kI, i1, i2, -, i4, -⟩ := Cond.instantiable_spec (mvT (args := args) hZ wk)
  obtain ⟨v, vm1, ⟨T1, L1, k1, n1⟩, -, X1, ⟨Lc, hQ, l1, y1, z1⟩, st1⟩ := X.privateBack hx (y := y) hown (mvT hZ wl) (mvT hZ ws) (selects_self_of_private i1 i2 (by simpa using (Bool.or_eq_false_iff.mp i4).1) (Cond.privateMethod_at (mvP hZ wp (args := #[]))) (mvT hZ ws) hy) (Cond.privateMethod_at (mvP hZ wp (args := #[]))) (mvT hZ wc) hy (backOf (W := W) hM hZ wc wi hfr hlc) (g := mkF m pc Ls st) rfl hsz (Steps.refl _) (a := a) (by rw [eT]; exact qa) qb (argsL := argsL) (rest := rest) hlen hst (by show 2 * 0 + _ ≤ _; omega) hd (fun _ _ => ⟨rfl, eT, hc, hs⟩)
  dsimp only [Pt.U, Pt.locs, Pt.cells, Pt.slots] at X1 l1 y1 z1 st1 hQ
  subst l1 y1 z1
  exact (K v T1 Lc X1 hQ).step fun t k => st1.trans k
theorem arrLen (n : Nat) (X : Stand p l e R s m args below meth c T locs cells slots) (hx : p.tables.exec = Jvm.exec) (hZ : Z.Warmed39 s.vm) (eT : T.heap = h) {a : Addr} {k : ClassId} {ty : FieldType} {z : Int32} {vs : List Value} {dv : Value} {rest : List Value} (A : Arv Z h a k ty z vs dv) (hd : decode c.code pc = .ok (.arraylength, 1)) (hn : pc + 1 = n) (K : Ends p.tables e below s Q C S (T.setTop (mkF m n Ls (.int z :: rest)))) : Ends p.tables e below s Q C S (T.setTop (mkF m pc Ls (.ref a :: rest))) := by
  subst hn
  obtain ⟨cl, Ar, -, Sz, Nz, -, -⟩ := A
  refine K.step fun t kk => X.arraylength hx (by rw [eT]; exact Ar.1) (State.isArrayOf_alike hZ.alike Ar.2.1) (g := mkF m pc Ls (.ref a :: rest)) rfl rfl hd _ ?_
  rw [len_of Sz Nz]; exact kk
theorem iaload (n : Nat) (X : Stand p l e R s m args below meth c T locs cells slots) (hx : p.tables.exec = Jvm.exec) (hZ : Z.Warmed39 s.vm) (eT : T.heap = h) {a : Addr} {k : ClassId} {z j : Int32} (v : Int32) {vs : List Value} {dv : Value} {rest : List Value} (A : Arv Z h a k .int z vs dv) (hj : ¬ j < 0 ∧ j < z) (hv : vs.getD j.toNatClampNeg dv = .int v) (hd : decode c.code pc = .ok (.iaload, 1)) (hn : pc + 1 = n) (K : Ends p.tables e below s Q C S (T.setTop (mkF m n Ls (.int v :: rest)))) : Ends p.tables e below s Q C S (T.setTop (mkF m pc Ls (.int j :: .ref a :: rest))) := by
  subst hn
  obtain ⟨cl, Ar, -, Sz, Nz, Hs, -⟩ := A
  have hin := inb_of Sz hj
  exact K.step fun t kk => X.iaload hx (j := j) (v := .int v) (by rw [eT]; exact Ar.1) (State.isArrayOf_alike hZ.alike Ar.2.1) Ar.2.2 hin (Hs.at hin hv) (g := mkF m pc Ls (.int j :: .ref a :: rest)) rfl rfl hd _ kk
theorem laload (n : Nat) (X : Stand p l e R s m args below meth c T locs cells slots) (hx : p.tables.exec = Jvm.exec) (hZ : Z.Warmed39 s.vm) (eT : T.heap = h) {a : Addr} {k : ClassId} {z j : Int32} (v : Int64) {vs : List Value} {dv : Value} {rest : List Value} (A : Arv Z h a k .long z vs dv) (hj : ¬ j < 0 ∧ j < z) (hv : vs.getD j.toNatClampNeg dv = .long v) (hd : decode c.code pc = .ok (.laload, 1)) (hn : pc + 1 = n) (K : Ends p.tables e below s Q C S (T.setTop (mkF m n Ls (.long v :: rest)))) : Ends p.tables e below s Q C S (T.setTop (mkF m pc Ls (.int j :: .ref a :: rest))) := by
  subst hn
  obtain ⟨cl, Ar, -, Sz, Nz, Hs, -⟩ := A
  have hin := inb_of Sz hj
  exact K.step fun t kk => X.laload hx (j := j) (v := .long v) (by rw [eT]; exact Ar.1) (State.isArrayOf_alike hZ.alike Ar.2.1) Ar.2.2 hin (Hs.at hin hv) (g := mkF m pc Ls (.int j :: .ref a :: rest)) rfl rfl hd _ kk
theorem baload (n : Nat) (X : Stand p l e R s m args below meth c T locs cells slots) (hx : p.tables.exec = Jvm.exec) (hZ : Z.Warmed39 s.vm) (eT : T.heap = h) {a : Addr} {k : ClassId} {z j : Int32} (v : Int32) {vs : List Value} {dv : Value} {rest : List Value} (A : Arv Z h a k .byte z vs dv) (hj : ¬ j < 0 ∧ j < z) (hv : vs.getD j.toNatClampNeg dv = .int v) (hd : decode c.code pc = .ok (.baload, 1)) (hn : pc + 1 = n) (K : Ends p.tables e below s Q C S (T.setTop (mkF m n Ls (.int v :: rest)))) : Ends p.tables e below s Q C S (T.setTop (mkF m pc Ls (.int j :: .ref a :: rest))) := by
  subst hn
  obtain ⟨cl, Ar, -, Sz, Nz, Hs, -⟩ := A
  have hin := inb_of Sz hj
  exact K.step fun t kk => X.baloadBytes hx (j := j) (v := .int v) (by rw [eT]; exact Ar.1) (State.isArrayOf_alike hZ.alike Ar.2.1) Ar.2.2 hin (Hs.at hin hv) (g := mkF m pc Ls (.int j :: .ref a :: rest)) rfl rfl hd _ kk
theorem caload (n : Nat) (X : Stand p l e R s m args below meth c T locs cells slots) (hx : p.tables.exec = Jvm.exec) (hZ : Z.Warmed39 s.vm) (eT : T.heap = h) {a : Addr} {k : ClassId} {z j : Int32} (v : Int32) {vs : List Value} {dv : Value} {rest : List Value} (A : Arv Z h a k .char z vs dv) (hj : ¬ j < 0 ∧ j < z) (hv : vs.getD j.toNatClampNeg dv = .int v) (hd : decode c.code pc = .ok (.caload, 1)) (hn : pc + 1 = n) (K : Ends p.tables e below s Q C S (T.setTop (mkF m n Ls (.int v :: rest)))) : Ends p.tables e below s Q C S (T.setTop (mkF m pc Ls (.int j :: .ref a :: rest))) := by
  subst hn
  obtain ⟨cl, Ar, -, Sz, Nz, Hs, -⟩ := A
  have hin := inb_of Sz hj
  exact K.step fun t kk => X.caload hx (j := j) (v := .int v) (by rw [eT]; exact Ar.1) (State.isArrayOf_alike hZ.alike Ar.2.1) Ar.2.2 hin (Hs.at hin hv) (g := mkF m pc Ls (.int j :: .ref a :: rest)) rfl rfl hd _ kk
theorem aaload (n : Nat) (X : Stand p l e R s m args below meth c T locs cells slots) (hx : p.tables.exec = Jvm.exec) (hZ : Z.Warmed39 s.vm) (eT : T.heap = h) {a : Addr} {k : ClassId} {z j : Int32} {ty : FieldType} (v : Value) {vs : List Value} {dv : Value} {rest : List Value} (A : Arv Z h a k ty z vs dv) (hty : ty.isReference = true) (hj : ¬ j < 0 ∧ j < z) (hv : vs.getD j.toNatClampNeg dv = v) (hd : decode c.code pc = .ok (.aaload, 1)) (hn : pc + 1 = n) (K : Ends p.tables e below s Q C S (T.setTop (mkF m n Ls (v :: rest)))) : Ends p.tables e below s Q C S (T.setTop (mkF m pc Ls (.int j :: .ref a :: rest))) := by
  subst hn
  obtain ⟨cl, Ar, -, Sz, Nz, Hs, -⟩ := A
  have hin := inb_of Sz hj
  exact K.step fun t kk => X.aaload hx (j := j) (v := v) (by rw [eT]; exact Ar.1) (State.isArrayOf_alike hZ.alike Ar.2.1) hty Ar.2.2 hin (Hs.at hin hv) (g := mkF m pc Ls (.int j :: .ref a :: rest)) rfl rfl hd _ kk
theorem iastore (n : Nat) (X : Stand p l e R s m args below meth c T locs cells slots) (hx : p.tables.exec = Jvm.exec) (hZ : Z.Warmed39 s.vm) (eT : T.heap = h) {a : Addr} {k : ClassId} {z j : Int32} {x : Int32} {vs : List Value} {dv : Value} {rest : List Value} (A : Arv Z h a k .int z vs dv) (hj : ¬ j < 0 ∧ j < z) (hlen : j.toNatClampNeg < vs.length) (hd : decode c.code pc = .ok (.iastore, 1)) (hn : pc + 1 = n) (K : ∀ T' h', Stand p l e R s m args below meth c T' (locs ++ [⟨a, j.toNatClampNeg⟩]) cells slots → T'.heap = h' → Wr h h' a j.toNatClampNeg (.int x) → Arv Z h' a k .int z (vs.set j.toNatClampNeg (.int x)) dv → Ends p.tables e below s Q C S (T'.setTop (mkF m n Ls (rest)))) : Ends p.tables e below s Q C S (T.setTop (mkF m pc Ls (.int x :: .int j :: .ref a :: rest))) := by
  subst hn
  obtain ⟨cl, Ar, q1, Sz, Nz, Hs, Gs⟩ := A
  obtain ⟨T1, h1, X1, e1, W1, st1⟩ := stI X hx hZ eT Ar (j := j) (inb_of Sz hj) (g := mkF m pc Ls (.int x :: .int j :: .ref a :: rest)) rfl rfl hd
  exact (K T1 h1 X1 e1 W1 (Arv.set Ar q1 Sz Nz Hs Gs rfl W1 _ rfl hlen)).step st1
theorem lastore (n : Nat) (X : Stand p l e R s m args below meth c T locs cells slots) (hx : p.tables.exec = Jvm.exec) (hZ : Z.Warmed39 s.vm) (eT : T.heap = h) {a : Addr} {k : ClassId} {z j : Int32} {x : Int64} {vs : List Value} {dv : Value} {rest : List Value} (A : Arv Z h a k .long z vs dv) (hj : ¬ j < 0 ∧ j < z) (hlen : j.toNatClampNeg < vs.length) (hd : decode c.code pc = .ok (.lastore, 1)) (hn : pc + 1 = n) (K : ∀ T' h', Stand p l e R s m args below meth c T' (locs ++ [⟨a, j.toNatClampNeg⟩]) cells slots → T'.heap = h' → Wr h h' a j.toNatClampNeg (.long x) → Arv Z h' a k .long z (vs.set j.toNatClampNeg (.long x)) dv → Ends p.tables e below s Q C S (T'.setTop (mkF m n Ls (rest)))) : Ends p.tables e below s Q C S (T.setTop (mkF m pc Ls (.long x :: .int j :: .ref a :: rest))) := by
  subst hn
  obtain ⟨cl, Ar, q1, Sz, Nz, Hs, Gs⟩ := A
  obtain ⟨T1, h1, X1, e1, W1, st1⟩ := stJ X hx hZ eT Ar (j := j) (inb_of Sz hj) (g := mkF m pc Ls (.long x :: .int j :: .ref a :: rest)) rfl rfl hd
  exact (K T1 h1 X1 e1 W1 (Arv.set Ar q1 Sz Nz Hs Gs rfl W1 _ rfl hlen)).step st1
theorem bastore (n : Nat) (X : Stand p l e R s m args below meth c T locs cells slots) (hx : p.tables.exec = Jvm.exec) (hZ : Z.Warmed39 s.vm) (eT : T.heap = h) {a : Addr} {k : ClassId} {z j : Int32} {x : Int32} {vs : List Value} {dv : Value} {rest : List Value} (A : Arv Z h a k .byte z vs dv) (hj : ¬ j < 0 ∧ j < z) (hlen : j.toNatClampNeg < vs.length) (hd : decode c.code pc = .ok (.bastore, 1)) (hn : pc + 1 = n) (K : ∀ T' h', Stand p l e R s m args below meth c T' (locs ++ [⟨a, j.toNatClampNeg⟩]) cells slots → T'.heap = h' → Wr h h' a j.toNatClampNeg (.int x.toInt8.toInt32) → Arv Z h' a k .byte z (vs.set j.toNatClampNeg (.int x.toInt8.toInt32)) dv → Ends p.tables e below s Q C S (T'.setTop (mkF m n Ls (rest)))) : Ends p.tables e below s Q C S (T.setTop (mkF m pc Ls (.int x :: .int j :: .ref a :: rest))) := by
  subst hn
  obtain ⟨cl, Ar, q1, Sz, Nz, Hs, Gs⟩ := A
  obtain ⟨T1, h1, X1, e1, W1, st1⟩ := stB X hx hZ eT Ar (j := j) (inb_of Sz hj) (g := mkF m pc Ls (.int x :: .int j :: .ref a :: rest)) rfl rfl hd
  exact (K T1 h1 X1 e1 W1 (Arv.set Ar q1 Sz Nz Hs Gs (fits_nar_byte _) W1 _ rfl hlen)).step st1
theorem castore (n : Nat) (X : Stand p l e R s m args below meth c T locs cells slots) (hx : p.tables.exec = Jvm.exec) (hZ : Z.Warmed39 s.vm) (eT : T.heap = h) {a : Addr} {k : ClassId} {z j : Int32} {x : Int32} {vs : List Value} {dv : Value} {rest : List Value} (A : Arv Z h a k .char z vs dv) (hj : ¬ j < 0 ∧ j < z) (hlen : j.toNatClampNeg < vs.length) (hd : decode c.code pc = .ok (.castore, 1)) (hn : pc + 1 = n) (K : ∀ T' h', Stand p l e R s m args below meth c T' (locs ++ [⟨a, j.toNatClampNeg⟩]) cells slots → T'.heap = h' → Wr h h' a j.toNatClampNeg (.int (nar .char x)) → Arv Z h' a k .char z (vs.set j.toNatClampNeg (.int (nar .char x))) dv → Ends p.tables e below s Q C S (T'.setTop (mkF m n Ls (rest)))) : Ends p.tables e below s Q C S (T.setTop (mkF m pc Ls (.int x :: .int j :: .ref a :: rest))) := by
  subst hn
  obtain ⟨cl, Ar, q1, Sz, Nz, Hs, Gs⟩ := A
  obtain ⟨T1, h1, X1, e1, W1, st1⟩ := stC X hx hZ eT Ar (j := j) (inb_of Sz hj) (g := mkF m pc Ls (.int x :: .int j :: .ref a :: rest)) rfl rfl hd
  exact (K T1 h1 X1 e1 W1 (Arv.set Ar q1 Sz Nz Hs Gs (fits_nar_char _) W1 _ rfl hlen)).step st1
theorem newArr (n cap : Nat) (X : Stand p l e R s m args below meth c T locs cells slots) (hx : p.tables.exec = Jvm.exec) (hZ : Z.Warmed39 s.vm) {aty : ArrayType} (w : (Cond.arrayClass (newarray.typeOf aty)).before a0 Z = true) (eT : T.heap = h) {z : Int32} {rest : List Value} (hz : ¬ z < 0) (hcap : z.toNatClampNeg ≤ cap) (hb : cap * 8 ≤ 536870912) (hd : decode c.code pc = .ok (.newarray aty, 2)) (hn : pc + 2 = n) (hc : cells + 1 ≤ R.cells) (hl : slots + cap ≤ R.slots) (K : ∀ T' h' a k, a = h.size → Stand p l e R s m args below meth c T' locs (cells + 1) (slots + cap) → T'.heap = h' → Ext h h' → Arv Z h' a k (newarray.typeOf aty) z (List.replicate z.toNatClampNeg (defaultValue (newarray.typeOf aty))) (defaultValue (newarray.typeOf aty)) → Ends p.tables e below s Q C S (T'.setTop (mkF m n Ls (.ref a :: rest)))) : Ends p.tables e below s Q C S (T.setTop (mkF m pc Ls (.int z :: rest))) := by
  subst hn
  obtain ⟨T1, h1, k1, X1, e1, E1, A1, st1⟩ := newP X hx hZ w eT (g := mkF m pc Ls (.int z :: rest)) rfl hd rfl hz (cap := cap) hcap hb hc hl
  exact (K T1 h1 _ k1 rfl X1 e1 E1 ((Arv.new A1 hz).pad (pad_rep [] _ _))).step st1
theorem arrCopy (n W : Nat) (X : Stand p l e R s m args below meth c T locs cells slots) (hx : p.tables.exec = Jvm.exec) (hZ : Z.Warmed39 s.vm) {own : String} {index : Nat} (hown : s.vm.findClass own = some m.cls) (w1 : (Cond.methodLink own index Jvm.Stand.acN).before a0 Z = true) (w2 : (Cond.native Jvm.Stand.acN).before a0 Z = true) (w3 : (Cond.static Jvm.Stand.acN).before a0 Z = true) (w4 : (Cond.initialized "java/lang/System").before a0 Z = true) (eT : T.heap = h) {a b : Addr} {k k2 : ClassId} {ty : FieldType} {z z2 sp dp nn : Int32} {vs vd : List Value} {dv dd : Value} (A : Arv Z h a k ty z vs dv) (B : Arv Z h b k2 ty z2 vd dd) (hty : refKind ty = false) (h1 : ¬ sp < 0) (h2 : ¬ dp < 0) (h3 : ¬ nn < 0) (h4 : sp.toNatClampNeg + nn.toNatClampNeg ≤ z.toNatClampNeg) (h5 : dp.toNatClampNeg + nn.toNatClampNeg ≤ z2.toNatClampNeg) (hl : dp.toNatClampNeg + nn.toNatClampNeg ≤ vd.length) {n0 : Nat} (N : Fr n0 locs) (ge : n0 ≤ b) (hsz : Ls.size = c.maxLocals) {rest : List Value} (hd : decode c.code pc = .ok (.invokestatic index, 3)) (hn : pc + 3 = n) (hf : 1 ≤ R.frames) (hW : (rest.map fun v => v.category).sum ≤ W) (hlo : W + (nativeFrameWords "java/lang/System" "arraycopy" 5 + 11) ≤ R.locals) (K : ∀ T' h' L vs', Stand p l e R s m args below meth c T' L cells slots → T'.heap = h' → Fr n0 L → Keep h h' [b] → vs' = vd.take dp.toNatClampNeg ++ ((List.range nn.toNatClampNeg).map fun i => vs.getD (sp.toNatClampNeg + i) dv) ++ vd.drop (dp.toNatClampNeg + nn.toNatClampNeg) → vs'.length = vd.length → Arv Z h' b k2 ty z2 vs' dd → Ends p.tables e below s Q C S (T'.setTop (mkF m n Ls (rest)))) : Ends p.tables e below s Q C S (T.setTop (mkF m pc Ls (.int nn :: .int dp :: .ref b :: .int sp :: .ref a :: rest))) := by
  subst hn
  obtain ⟨T1, hh1, L1, X1, e1, N1, K1, V1, st1⟩ := cpA X hx hZ hown w1 w2 w3 w4 eT A B (Or.inl ⟨rfl, hty⟩) h1 h2 h3 h4 h5 rfl hl N ge (g := mkF m pc Ls (.int nn :: .int dp :: .ref b :: .int sp :: .ref a :: rest)) rfl hsz rfl hd hf (W := W) (by show 2 * 0 + _ ≤ _; omega) hlo
  exact (K T1 hh1 L1 _ X1 e1 N1 K1 rfl (by simp; omega) V1).step st1
/-- an array of this kind and length, whatever it holds -/
def Ax (Z : State) (h : Heap) (a : Addr) (ty : FieldType) (z : Int32) : Prop := ∃ (k : ClassId) (vs : List Value), vs.length = z.toNatClampNeg ∧ Arv Z h a k ty z vs (defaultValue ty)
theorem Ax.lt {a : Addr} {ty : FieldType} {z : Int32} (F : Ax Z h a ty z) : a < h.size := by obtain ⟨k, vs, -, A⟩ := F; exact A.lt
theorem Ax.ext {h' : Heap} {a : Addr} {ty : FieldType} {z : Int32} (F : Ax Z h a ty z) (E : Ext h h') : Ax Z h' a ty z := by obtain ⟨k, vs, q, A⟩ := F; exact ⟨k, vs, q, A.ext E⟩
theorem Ax.keep {h' : Heap} {a : Addr} {ty : FieldType} {z : Int32} {ws : List Addr} (F : Ax Z h a ty z) (K : Keep h h' ws) (q : a ∉ ws) : Ax Z h' a ty z := by obtain ⟨k, vs, r, A⟩ := F; exact ⟨k, vs, r, A.keep K q⟩
theorem Ax.other {h' : Heap} {a b : Addr} {sl : Nat} {v : Value} {ty : FieldType} {z : Int32} (F : Ax Z h a ty z) (W : Wr h h' b sl v) (q : a ≠ b) : Ax Z h' a ty z := by obtain ⟨k, vs, r, A⟩ := F; exact ⟨k, vs, r, A.other W q⟩
theorem Ax.nn {a : Addr} {ty : FieldType} {z : Int32} (F : Ax Z h a ty z) : ¬ z < 0 := by obtain ⟨k, vs, -, c, -, -, -, N, -⟩ := F; exact N
theorem axLen (n : Nat) (X : Stand p l e R s m args below meth c T locs cells slots) (hx : p.tables.exec = Jvm.exec) (hZ : Z.Warmed39 s.vm) (eT : T.heap = h) {a : Addr} {ty : FieldType} {z : Int32} {rest : List Value} (A : Ax Z h a ty z) (hd : decode c.code pc = .ok (.arraylength, 1)) (hn : pc + 1 = n) (K : Ends p.tables e below s Q C S (T.setTop (mkF m n Ls (.int z :: rest)))) : Ends p.tables e below s Q C S (T.setTop (mkF m pc Ls (.ref a :: rest))) := by
  obtain ⟨k, vs, -, A⟩ := A
  exact arrLen n X hx hZ eT A hd hn K
theorem axLoadI (n : Nat) (X : Stand p l e R s m args below meth c T locs cells slots) (hx : p.tables.exec = Jvm.exec) (hZ : Z.Warmed39 s.vm) (eT : T.heap = h) {a : Addr} {z j : Int32} {rest : List Value} (A : Ax Z h a .int z) (hj : ¬ j < 0 ∧ j < z) (hd : decode c.code pc = .ok (.iaload, 1)) (hn : pc + 1 = n) (K : ∀ v : Int32, Ends p.tables e below s Q C S (T.setTop (mkF m n Ls (.int v :: rest)))) : Ends p.tables e below s Q C S (T.setTop (mkF m pc Ls (.int j :: .ref a :: rest))) := by
  obtain ⟨k, vs, -, A⟩ := A
  have A1 := A
  obtain ⟨cl, Ar, -, Sz, Nz, Hs, Gs⟩ := A1
  have hin := inb_of Sz hj
  have G := Gs j.toNatClampNeg (Nat.lt_of_not_le fun y => hin (Or.inr y))
  obtain ⟨v, hv⟩ := fit_I G (Or.inl rfl)
  exact iaload n X hx hZ eT v A hj hv hd hn (K v)
theorem axLoadJ (n : Nat) (X : Stand p l e R s m args below meth c T locs cells slots) (hx : p.tables.exec = Jvm.exec) (hZ : Z.Warmed39 s.vm) (eT : T.heap = h) {a : Addr} {z j : Int32} {rest : List Value} (A : Ax Z h a .long z) (hj : ¬ j < 0 ∧ j < z) (hd : decode c.code pc = .ok (.laload, 1)) (hn : pc + 1 = n) (K : ∀ v : Int64, Ends p.tables e below s Q C S (T.setTop (mkF m n Ls (.long v :: rest)))) : Ends p.tables e below s Q C S (T.setTop (mkF m pc Ls (.int j :: .ref a :: rest))) := by
  obtain ⟨k, vs, -, A⟩ := A
  have A1 := A
  obtain ⟨cl, Ar, -, Sz, Nz, Hs, Gs⟩ := A1
  have hin := inb_of Sz hj
  have G := Gs j.toNatClampNeg (Nat.lt_of_not_le fun y => hin (Or.inr y))
  obtain ⟨v, hv⟩ := fit_J G
  exact laload n X hx hZ eT v A hj hv hd hn (K v)
theorem axLoadB (n : Nat) (X : Stand p l e R s m args below meth c T locs cells slots) (hx : p.tables.exec = Jvm.exec) (hZ : Z.Warmed39 s.vm) (eT : T.heap = h) {a : Addr} {z j : Int32} {rest : List Value} (A : Ax Z h a .byte z) (hj : ¬ j < 0 ∧ j < z) (hd : decode c.code pc = .ok (.baload, 1)) (hn : pc + 1 = n) (K : ∀ v : Int32, Ends p.tables e below s Q C S (T.setTop (mkF m n Ls (.int v :: rest)))) : Ends p.tables e below s Q C S (T.setTop (mkF m pc Ls (.int j :: .ref a :: rest))) := by
  obtain ⟨k, vs, -, A⟩ := A
  have A1 := A
  obtain ⟨cl, Ar, -, Sz, Nz, Hs, Gs⟩ := A1
  have hin := inb_of Sz hj
  have G := Gs j.toNatClampNeg (Nat.lt_of_not_le fun y => hin (Or.inr y))
  obtain ⟨v, hv⟩ := fit_I G (Or.inr (Or.inr (Or.inl rfl)))
  exact baload n X hx hZ eT v A hj hv hd hn (K v)
theorem axStoreI (n : Nat) (X : Stand p l e R s m args below meth c T locs cells slots) (hx : p.tables.exec = Jvm.exec) (hZ : Z.Warmed39 s.vm) (eT : T.heap = h) {a : Addr} {z j : Int32} {x : Int32} {rest : List Value} (A : Ax Z h a .int z) (hj : ¬ j < 0 ∧ j < z) (hd : decode c.code pc = .ok (.iastore, 1)) (hn : pc + 1 = n) (K : ∀ T' h', Stand p l e R s m args below meth c T' (locs ++ [⟨a, j.toNatClampNeg⟩]) cells slots → T'.heap = h' → Wr h h' a j.toNatClampNeg (.int x) → Ax Z h' a .int z → Ends p.tables e below s Q C S (T'.setTop (mkF m n Ls (rest)))) : Ends p.tables e below s Q C S (T.setTop (mkF m pc Ls (.int x :: .int j :: .ref a :: rest))) := by
  obtain ⟨k, vs, hl, A⟩ := A
  have hjz : j.toNatClampNeg < z.toNatClampNeg := by
    have h1 := nat_of hj.1
    have h2 := hj.2
    have h3 := nat_of (Ax.nn ⟨k, vs, hl, A⟩)
    rw [Int32.lt_iff_toInt_lt] at h2
    omega
  exact iastore n X hx hZ eT A hj (by rw [hl]; exact hjz) hd hn (fun T1 h1 X1 e1 W1 A1 => K T1 h1 X1 e1 W1 ⟨k, _, by rw [List.length_set, hl], A1⟩)
theorem axStoreJ (n : Nat) (X : Stand p l e R s m args below meth c T locs cells slots) (hx : p.tables.exec = Jvm.exec) (hZ : Z.Warmed39 s.vm) (eT : T.heap = h) {a : Addr} {z j : Int32} {x : Int64} {rest : List Value} (A : Ax Z h a .long z) (hj : ¬ j < 0 ∧ j < z) (hd : decode c.code pc = .ok (.lastore, 1)) (hn : pc + 1 = n) (K : ∀ T' h', Stand p l e R s m args below meth c T' (locs ++ [⟨a, j.toNatClampNeg⟩]) cells slots → T'.heap = h' → Wr h h' a j.toNatClampNeg (.long x) → Ax Z h' a .long z → Ends p.tables e below s Q C S (T'.setTop (mkF m n Ls (rest)))) : Ends p.tables e below s Q C S (T.setTop (mkF m pc Ls (.long x :: .int j :: .ref a :: rest))) := by
  obtain ⟨k, vs, hl, A⟩ := A
  have hjz : j.toNatClampNeg < z.toNatClampNeg := by
    have h1 := nat_of hj.1
    have h2 := hj.2
    have h3 := nat_of (Ax.nn ⟨k, vs, hl, A⟩)
    rw [Int32.lt_iff_toInt_lt] at h2
    omega
  exact lastore n X hx hZ eT A hj (by rw [hl]; exact hjz) hd hn (fun T1 h1 X1 e1 W1 A1 => K T1 h1 X1 e1 W1 ⟨k, _, by rw [List.length_set, hl], A1⟩)
theorem axStoreB (n : Nat) (X : Stand p l e R s m args below meth c T locs cells slots) (hx : p.tables.exec = Jvm.exec) (hZ : Z.Warmed39 s.vm) (eT : T.heap = h) {a : Addr} {z j : Int32} {x : Int32} {rest : List Value} (A : Ax Z h a .byte z) (hj : ¬ j < 0 ∧ j < z) (hd : decode c.code pc = .ok (.bastore, 1)) (hn : pc + 1 = n) (K : ∀ T' h', Stand p l e R s m args below meth c T' (locs ++ [⟨a, j.toNatClampNeg⟩]) cells slots → T'.heap = h' → Wr h h' a j.toNatClampNeg (.int x.toInt8.toInt32) → Ax Z h' a .byte z → Ends p.tables e below s Q C S (T'.setTop (mkF m n Ls (rest)))) : Ends p.tables e below s Q C S (T.setTop (mkF m pc Ls (.int x :: .int j :: .ref a :: rest))) := by
  obtain ⟨k, vs, hl, A⟩ := A
  have hjz : j.toNatClampNeg < z.toNatClampNeg := by
    have h1 := nat_of hj.1
    have h2 := hj.2
    have h3 := nat_of (Ax.nn ⟨k, vs, hl, A⟩)
    rw [Int32.lt_iff_toInt_lt] at h2
    omega
  exact bastore n X hx hZ eT A hj (by rw [hl]; exact hjz) hd hn (fun T1 h1 X1 e1 W1 A1 => K T1 h1 X1 e1 W1 ⟨k, _, by rw [List.length_set, hl], A1⟩)
theorem axNew (n cap : Nat) (X : Stand p l e R s m args below meth c T locs cells slots) (hx : p.tables.exec = Jvm.exec) (hZ : Z.Warmed39 s.vm) {aty : ArrayType} (w : (Cond.arrayClass (newarray.typeOf aty)).before a0 Z = true) (eT : T.heap = h) {z : Int32} {rest : List Value} (hz : ¬ z < 0) (hcap : z.toNatClampNeg ≤ cap) (hb : cap * 8 ≤ 536870912) (hd : decode c.code pc = .ok (.newarray aty, 2)) (hn : pc + 2 = n) (hc : cells + 1 ≤ R.cells) (hl : slots + cap ≤ R.slots) (K : ∀ T' h' a, a = h.size → Stand p l e R s m args below meth c T' locs (cells + 1) (slots + cap) → T'.heap = h' → Ext h h' → Ax Z h' a (newarray.typeOf aty) z → Ends p.tables e below s Q C S (T'.setTop (mkF m n Ls (.ref a :: rest)))) : Ends p.tables e below s Q C S (T.setTop (mkF m pc Ls (.int z :: rest))) :=
  newArr n cap X hx hZ w eT hz hcap hb hd hn hc hl (fun T1 h1 a k q X1 e1 E1 A1 => K T1 h1 a q X1 e1 E1 ⟨k, _, List.length_replicate, A1⟩)
theorem axCopy (n W : Nat) (X : Stand p l e R s m args below meth c T locs cells slots) (hx : p.tables.exec = Jvm.exec) (hZ : Z.Warmed39 s.vm) {own : String} {index : Nat} (hown : s.vm.findClass own = some m.cls) (w1 : (Cond.methodLink own index Jvm.Stand.acN).before a0 Z = true) (w2 : (Cond.native Jvm.Stand.acN).before a0 Z = true) (w3 : (Cond.static Jvm.Stand.acN).before a0 Z = true) (w4 : (Cond.initialized "java/lang/System").before a0 Z = true) (eT : T.heap = h) {a b : Addr} {ty : FieldType} {z z2 sp dp nn : Int32} (A : Ax Z h a ty z) (B : Ax Z h b ty z2) (hty : refKind ty = false) (h1 : ¬ sp < 0) (h2 : ¬ dp < 0) (h3 : ¬ nn < 0) (h4 : sp.toNatClampNeg + nn.toNatClampNeg ≤ z.toNatClampNeg) (h5 : dp.toNatClampNeg + nn.toNatClampNeg ≤ z2.toNatClampNeg) {n0 : Nat} (N : Fr n0 locs) (ge : n0 ≤ b) (hsz : Ls.size = c.maxLocals) {rest : List Value} (hd : decode c.code pc = .ok (.invokestatic index, 3)) (hn : pc + 3 = n) (hf : 1 ≤ R.frames) (hW : (rest.map fun v => v.category).sum ≤ W) (hlo : W + (nativeFrameWords "java/lang/System" "arraycopy" 5 + 11) ≤ R.locals) (K : ∀ T' h' L, Stand p l e R s m args below meth c T' L cells slots → T'.heap = h' → Fr n0 L → Keep h h' [b] → Ax Z h' b ty z2 → Ends p.tables e below s Q C S (T'.setTop (mkF m n Ls (rest)))) : Ends p.tables e below s Q C S (T.setTop (mkF m pc Ls (.int nn :: .int dp :: .ref b :: .int sp :: .ref a :: rest))) := by
  obtain ⟨k, vs, hl, A⟩ := A
  obtain ⟨k2, vd, hl2, B⟩ := B
  exact arrCopy n W X hx hZ hown w1 w2 w3 w4 eT A B hty h1 h2 h3 h4 h5 (by rw [hl2]; exact h5) N ge hsz hd hn hf hW hlo (fun T1 hh1 L1 vs1 X1 e1 N1 K1 _ q V1 => K T1 hh1 L1 X1 e1 N1 K1 ⟨k2, vs1, q.trans hl2, V1⟩)
end Walk
end Jvm.Own
namespace Jvm.Pilot.@@N@@
open Jvm Jvm.ClassFile Sem Op Lib Jvm.Free Jvm.Stand Jvm.LawKit Jvm.RoadKit Bundle Jvm.Pilot.@@N@@.Jvm.D
theorem pd_0 : parseMethodDescriptor "(J)V" = some ⟨[.long], none⟩ := by decide +kernel
theorem pd_1 : parseMethodDescriptor "(JJJ)J" = some ⟨[.long, .long, .long], some .long⟩ := by decide +kernel
theorem pd_2 : parseMethodDescriptor "(JJ)V" = some ⟨[.long, .long], none⟩ := by decide +kernel

def own_room (t hd c : Int64) : Prop := t < 0 ∨ (¬ t < 0 ∧ 0 < t ∧ (hd = 0 ∨ ¬ t < hd + c))
def own_roomL (t hd c : Int64) : Prop := t < 0 ∨ (¬ t < 0 ∧ ¬ t = 0 ∧ (hd = 0 ∨ ¬ (t - hd) < c))
instance (t hd c : Int64) : Decidable (own_room t hd c) := by unfold own_room; infer_instance
theorem own_rooms (t hd c : Int64) (h1 : 0 ≤ hd.toInt) (h2 : hd.toInt < 2199023255552) (c1 : 0 ≤ c.toInt) (c2 : c.toInt < 1099511627776) (t1 : -1 ≤ t.toInt) (t2 : t.toInt < 17592186044416) : own_room t hd c ↔ own_roomL t hd c := by
  unfold own_room own_roomL
  have e0 : (0 : Int64).toInt = 0 := by decide
  have a1 := c_ladd hd c
  have a2 := c_lsub t hd
  have r1 := rng64 (hd + c)
  have r2 := rng64 (t - hd)
  simp only [Int64.lt_iff_toInt_lt, ← Int64.toInt_inj, e0]
  generalize (hd + c).toInt = u at *
  generalize (t - hd).toInt = v at *
  omega
theorem own_m40 (x : Int64) : 0 ≤ (x &&& 1099511627775).toInt ∧ (x &&& 1099511627775).toInt < 1099511627776 := by
  have := c_maskL x 1099511627775 40 (by decide) (by decide); omega
theorem own_m44 (x : Int64) : 0 ≤ (x &&& 17592186044415).toInt ∧ (x &&& 17592186044415).toInt < 17592186044416 := by
  have := c_maskL x 17592186044415 44 (by decide) (by decide); omega
theorem own_cancel (a b : Int64) : 0 + a + b - a = b := by
  rw [Int64.zero_add, Int64.add_comm, Int64.add_sub_cancel]
theorem own_sum (a b : Int64) (h1 : 0 ≤ a.toInt ∧ a.toInt < 1099511627776) (h2 : 0 ≤ b.toInt ∧ b.toInt < 1099511627776) : 0 ≤ (a + b).toInt ∧ (a + b).toInt < 2199023255552 := by
  have a1 := c_ladd a b
  have r1 := rng64 (a + b)
  omega

theorem d1_0 : decode prog_8_method_1_code 0 = .ok (.aload_n 0, 1) := by decide +kernel
theorem d1_1 : decode prog_8_method_1_code 1 = .ok (.invokespecial 1, 3) := by decide +kernel
theorem d1_4 : decode prog_8_method_1_code 4 = .ok (.aload_n 0, 1) := by decide +kernel
theorem d1_5 : decode prog_8_method_1_code 5 = .ok (.lload_n 1, 1) := by decide +kernel
theorem d1_6 : decode prog_8_method_1_code 6 = .ok (.putfield 7, 3) := by decide +kernel
theorem d1_9 : decode prog_8_method_1_code 9 = .ok (.return_, 1) := by decide +kernel
set_option maxRecDepth 65536 in
set_option maxHeartbeats 40000000 in
theorem m1 (l : Launch) (Z : State) (a0 : Array Value) (w : ∀ (i : Nat) {d : Jvm.Cond}, tables_1[i]? = some d → d.before a0 Z = true) (a : Addr) (x0 : Int64) (u1 u2 : Value) (n0 : Nat) (h0 : Heap) (Z0 : n0 ≤ h0.size) (E_a : Exa Z h0 a "com/example/hold_steady/holdsteady/core/InFlightCount") (F1 : Fld Z h0 a "com/example/hold_steady/holdsteady/core/InFlightCount" "threshold" "J" u1) (F2 : Fld Z h0 a "com/example/hold_steady/holdsteady/core/InFlightCount" "held" "J" u2) (g_a : n0 ≤ a) :
    Own.Met l Z (⟨"com/example/hold_steady/holdsteady/core/InFlightCount", "<init>", "(J)V"⟩ : MethodName) prog_8_method_1_code 3 none [] ({ frames := 1, cells := 0, slots := 0, locals := 12 } : Room) #[(.ref a), (.long x0)] h0 (fun v h L => v = none ∧ Fr n0 L ∧ Keep h0 h [a] ∧ Fld Z h a "com/example/hold_steady/holdsteady/core/InFlightCount" "threshold" "J" (.long x0) ∧ Fld Z h a "com/example/hold_steady/holdsteady/core/InFlightCount" "held" "J" u2) := by
  refine Own.Met.of (plainFor_of_name (by first | (simp [plainName, overriddenIn]; done) | decide +kernel)) ?_
  intro p e s m below meth c T0 hx hby hml hown hnm hret hlk hZ X0 e0
  have hown : s.vm.findClass "com/example/hold_steady/holdsteady/core/InFlightCount" = some m.cls := hown
  have hml : c.maxLocals = 3 := hml
  have hnm : meth.name = "<init>" := hnm
  have ef : entryFrame m #[(.ref a), (.long x0)] 3 = mkF m 0 #[.val (.ref a), .val (.long x0), .second] [] := by first | (simp [entryFrame, mkF, argsToLocals, Value.category]; done) | rfl
  rw [ef]
  have N0 := Fr.nil n0
  refine Own.aloadN 1 X0 hx (hb hby d1_0) rfl rfl rfl ?_
  refine Own.initObj 4 0 X0 hx hZ hown (w 9 rfl) (w 10 rfl) (w 11 rfl) e0 (by rw [hml]; rfl) (hb hby d1_1) rfl (by decide) (Nat.le_of_eq rfl) (by decide) ?_
  intro T1 X1 e1
  refine Own.aloadN 5 X1 hx (hb hby d1_4) rfl rfl rfl ?_
  refine Own.lloadN 6 X1 hx (hb hby d1_5) rfl rfl ?_
  refine Own.putFld 9 X1 hx hZ hown (host := "") (Or.inl (w 12 rfl)) Via.refl e1 F1 E_a (Or.inr ⟨(w 13 rfl), rfl, hnm⟩) (w 4 rfl) (ty := .long) (by decide) rfl rfl (hb hby d1_6) rfl ?_
  intro T2 h2 X2 e2 W2
  have N2 := Fr.snoc X2 N0 g_a
  have Ef_4 := E_a.wr W2
  have Ff_5 := F1.same W2
  have Ff_6 := F2.other W2 (Or.inr (slot_ne (Or.inl (w 27 rfl)) (Or.inr (w 13 rfl)) (by decide) (t := .long) (t' := .long) (by decide) (by decide)))
  have zl2 := Nat.le_trans Z0 (Nat.le_of_eq W2.size.symm)
  have K2 := (Keep.refl h0 [a]).wr W2 (Or.inl (List.mem_of_getElem? (i := 0) rfl))
  refine Own.retVoid X2 hx hlk hret (hb hby d1_9) (by decide) (by decide) ?_
  rw [e2]
  exact ⟨rfl, N2, K2, Ff_5, Ff_6⟩
theorem d3_0 : decode prog_8_method_2_code 0 = .ok (.aload_n 0, 1) := by decide +kernel
theorem d3_1 : decode prog_8_method_2_code 1 = .ok (.getfield 7, 3) := by decide +kernel
theorem d3_4 : decode prog_8_method_2_code 4 = .ok (.lconst 0, 1) := by decide +kernel
theorem d3_5 : decode prog_8_method_2_code 5 = .ok (.lcmp, 1) := by decide +kernel
theorem d3_6 : decode prog_8_method_2_code 6 = .ok (.ifCond .lt 35, 3) := by decide +kernel
theorem d3_9 : decode prog_8_method_2_code 9 = .ok (.aload_n 0, 1) := by decide +kernel
theorem d3_10 : decode prog_8_method_2_code 10 = .ok (.getfield 7, 3) := by decide +kernel
theorem d3_13 : decode prog_8_method_2_code 13 = .ok (.lconst 0, 1) := by decide +kernel
theorem d3_14 : decode prog_8_method_2_code 14 = .ok (.lcmp, 1) := by decide +kernel
theorem d3_15 : decode prog_8_method_2_code 15 = .ok (.ifCond .le 30, 3) := by decide +kernel
theorem d3_18 : decode prog_8_method_2_code 18 = .ok (.aload_n 0, 1) := by decide +kernel
theorem d3_19 : decode prog_8_method_2_code 19 = .ok (.getfield 13, 3) := by decide +kernel
theorem d3_22 : decode prog_8_method_2_code 22 = .ok (.lconst 0, 1) := by decide +kernel
theorem d3_23 : decode prog_8_method_2_code 23 = .ok (.lcmp, 1) := by decide +kernel
theorem d3_24 : decode prog_8_method_2_code 24 = .ok (.ifCond .eq 17, 3) := by decide +kernel
theorem d3_27 : decode prog_8_method_2_code 27 = .ok (.aload_n 0, 1) := by decide +kernel
theorem d3_28 : decode prog_8_method_2_code 28 = .ok (.getfield 13, 3) := by decide +kernel
theorem d3_31 : decode prog_8_method_2_code 31 = .ok (.lload_n 3, 1) := by decide +kernel
theorem d3_32 : decode prog_8_method_2_code 32 = .ok (.ladd, 1) := by decide +kernel
theorem d3_33 : decode prog_8_method_2_code 33 = .ok (.aload_n 0, 1) := by decide +kernel
theorem d3_34 : decode prog_8_method_2_code 34 = .ok (.getfield 7, 3) := by decide +kernel
theorem d3_37 : decode prog_8_method_2_code 37 = .ok (.lcmp, 1) := by decide +kernel
theorem d3_38 : decode prog_8_method_2_code 38 = .ok (.ifCond .gt 7, 3) := by decide +kernel
theorem d3_41 : decode prog_8_method_2_code 41 = .ok (.iconst 1, 1) := by decide +kernel
theorem d3_42 : decode prog_8_method_2_code 42 = .ok (.goto 4, 3) := by decide +kernel
theorem d3_45 : decode prog_8_method_2_code 45 = .ok (.iconst 0, 1) := by decide +kernel
theorem d3_46 : decode prog_8_method_2_code 46 = .ok (.istore 7, 2) := by decide +kernel
theorem d3_48 : decode prog_8_method_2_code 48 = .ok (.iload 7, 2) := by decide +kernel
theorem d3_50 : decode prog_8_method_2_code 50 = .ok (.ifCond .eq 7, 3) := by decide +kernel
theorem d3_53 : decode prog_8_method_2_code 53 = .ok (.lload_n 1, 1) := by decide +kernel
theorem d3_54 : decode prog_8_method_2_code 54 = .ok (.goto 6, 3) := by decide +kernel
theorem d3_57 : decode prog_8_method_2_code 57 = .ok (.ldc2_w 18, 3) := by decide +kernel
theorem d3_60 : decode prog_8_method_2_code 60 = .ok (.lreturn, 1) := by decide +kernel
set_option maxRecDepth 65536 in
set_option maxHeartbeats 40000000 in
theorem m3 (l : Launch) (Z : State) (a0 : Array Value) (w : ∀ (i : Nat) {d : Jvm.Cond}, tables_1[i]? = some d → d.before a0 Z = true) (a : Addr) (x0 : Int64) (x1 : Int64) (x2 : Int64) (t hd : Int64) (h0 : Heap) (F1 : Fld Z h0 a "com/example/hold_steady/holdsteady/core/InFlightCount" "threshold" "J" (.long t)) (F2 : Fld Z h0 a "com/example/hold_steady/holdsteady/core/InFlightCount" "held" "J" (.long hd)) :
    Own.Met l Z (⟨"com/example/hold_steady/holdsteady/core/InFlightCount", "roomFrom", "(JJJ)J"⟩ : MethodName) prog_8_method_2_code 8 (some .long) [] ({ frames := 0, cells := 0, slots := 0, locals := 0 } : Room) #[(.ref a), (.long x0), (.long x1), (.long x2)] h0 (fun v h L => v = some (.long (if own_room t hd x1 then x0 else 9223372036854775807)) ∧ h = h0 ∧ L = []) := by
  refine Own.Met.of (plainFor_of_name (by first | (simp [plainName, overriddenIn]; done) | decide +kernel)) ?_
  intro p e s m below meth c T0 hx hby hml hown hnm hret hlk hZ X0 e0
  have hown : s.vm.findClass "com/example/hold_steady/holdsteady/core/InFlightCount" = some m.cls := hown
  have hml : c.maxLocals = 8 := hml
  have hnm : meth.name = "roomFrom" := hnm
  have ef : entryFrame m #[(.ref a), (.long x0), (.long x1), (.long x2)] 8 = mkF m 0 #[.val (.ref a), .val (.long x0), .second, .val (.long x1), .second, .val (.long x2), .second, .unset] [] := by first | (simp [entryFrame, mkF, argsToLocals, Value.category]; done) | rfl
  rw [ef]
  refine Own.aloadN 1 X0 hx (hb hby d3_0) rfl rfl rfl ?_
  refine Own.getFld 4 X0 hx hZ hown (host := "") (Or.inl (w 12 rfl)) Via.refl e0 F1 (hb hby d3_1) rfl ?_
  intro T1 X1 e1
  refine Own.lconst 5 X1 hx ((0 : Int64)) (hb hby d3_4) rfl rfl ?_
  refine Own.lif_lt 41 9 X1 hx (hb hby d3_5) rfl (hb hby d3_6) (by decide) rfl (fun k1 => ?_) (fun k1 => ?_)
  ·
    refine Own.iconst 42 X1 hx ((1 : Int32)) (hb hby d3_41) rfl rfl ?_
    refine Own.goto 46 X1 hx (hb hby d3_42) (by decide) ?_
    refine Own.istoreV 48 #[.val (.ref a), .val (.long x0), .second, .val (.long x1), .second, .val (.long x2), .second, .val (.int (1 : Int32))] X1 hx (hb hby d3_46) rfl rfl ?_
    refine Own.iload 50 X1 hx (hb hby d3_48) rfl rfl ?_
    refine Own.if_eq 57 53 X1 hx (hb hby d3_50) (by decide) rfl (fun tk => absurd tk (by decide)) (fun tk => ?_)
    refine Own.lloadN 54 X1 hx (hb hby d3_53) rfl rfl ?_
    refine Own.goto 60 X1 hx (hb hby d3_54) (by decide) ?_
    refine Own.retLong X1 hx hlk hret (hb hby d3_60) (by decide) (by decide) ?_
    exact ⟨by rw [if_pos (show own_room t hd x1 from (Or.inl k1))], e1, rfl⟩
  ·
    refine Own.aloadN 10 X1 hx (hb hby d3_9) rfl rfl rfl ?_
    refine Own.getFld 13 X1 hx hZ hown (host := "") (Or.inl (w 12 rfl)) Via.refl e1 F1 (hb hby d3_10) rfl ?_
    intro T2 X2 e2
    refine Own.lconst 14 X2 hx ((0 : Int64)) (hb hby d3_13) rfl rfl ?_
    refine Own.lif_le 45 18 X2 hx (hb hby d3_14) rfl (hb hby d3_15) (by decide) rfl (fun k2 => ?_) (fun k2 => ?_)
    ·
      refine Own.iconst 46 X2 hx ((0 : Int32)) (hb hby d3_45) rfl rfl ?_
      refine Own.istoreV 48 #[.val (.ref a), .val (.long x0), .second, .val (.long x1), .second, .val (.long x2), .second, .val (.int (0 : Int32))] X2 hx (hb hby d3_46) rfl rfl ?_
      refine Own.iload 50 X2 hx (hb hby d3_48) rfl rfl ?_
      refine Own.if_eq 57 53 X2 hx (hb hby d3_50) (by decide) rfl (fun tk => ?_) (fun tk => absurd tk (by decide))
      refine Own.ldc2Long 60 X2 hx hZ ((9223372036854775807 : Int64)) hown (w 20 rfl) (hb hby d3_57) rfl ?_
      refine Own.retLong X2 hx hlk hret (hb hby d3_60) (by decide) (by decide) ?_
      exact ⟨by rw [if_neg (show ¬ own_room t hd x1 from (fun q => by rcases q with q | q; exact k1 q; exact k2 q.2.1))], e2, rfl⟩
    ·
      refine Own.aloadN 19 X2 hx (hb hby d3_18) rfl rfl rfl ?_
      refine Own.getFld 22 X2 hx hZ hown (host := "") (Or.inl (w 26 rfl)) Via.refl e2 F2 (hb hby d3_19) rfl ?_
      intro T3 X3 e3
      refine Own.lconst 23 X3 hx ((0 : Int64)) (hb hby d3_22) rfl rfl ?_
      refine Own.lif_eq 41 27 X3 hx (hb hby d3_23) rfl (hb hby d3_24) (by decide) rfl (fun k3 => ?_) (fun k3 => ?_)
      ·
        refine Own.iconst 42 X3 hx ((1 : Int32)) (hb hby d3_41) rfl rfl ?_
        refine Own.goto 46 X3 hx (hb hby d3_42) (by decide) ?_
        refine Own.istoreV 48 #[.val (.ref a), .val (.long x0), .second, .val (.long x1), .second, .val (.long x2), .second, .val (.int (1 : Int32))] X3 hx (hb hby d3_46) rfl rfl ?_
        refine Own.iload 50 X3 hx (hb hby d3_48) rfl rfl ?_
        refine Own.if_eq 57 53 X3 hx (hb hby d3_50) (by decide) rfl (fun tk => absurd tk (by decide)) (fun tk => ?_)
        refine Own.lloadN 54 X3 hx (hb hby d3_53) rfl rfl ?_
        refine Own.goto 60 X3 hx (hb hby d3_54) (by decide) ?_
        refine Own.retLong X3 hx hlk hret (hb hby d3_60) (by decide) (by decide) ?_
        exact ⟨by rw [if_pos (show own_room t hd x1 from (Or.inr ⟨k1, k2, Or.inl k3⟩))], e3, rfl⟩
      ·
        refine Own.aloadN 28 X3 hx (hb hby d3_27) rfl rfl rfl ?_
        refine Own.getFld 31 X3 hx hZ hown (host := "") (Or.inl (w 26 rfl)) Via.refl e3 F2 (hb hby d3_28) rfl ?_
        intro T4 X4 e4
        refine Own.lloadN 32 X4 hx (hb hby d3_31) rfl rfl ?_
        refine Own.ladd 33 X4 hx (hb hby d3_32) rfl rfl ?_
        refine Own.aloadN 34 X4 hx (hb hby d3_33) rfl rfl rfl ?_
        refine Own.getFld 37 X4 hx hZ hown (host := "") (Or.inl (w 12 rfl)) Via.refl e4 F1 (hb hby d3_34) rfl ?_
        intro T5 X5 e5
        refine Own.lif_gt 45 41 X5 hx (hb hby d3_37) rfl (hb hby d3_38) (by decide) rfl (fun k4 => ?_) (fun k4 => ?_)
        ·
          refine Own.iconst 46 X5 hx ((0 : Int32)) (hb hby d3_45) rfl rfl ?_
          refine Own.istoreV 48 #[.val (.ref a), .val (.long x0), .second, .val (.long x1), .second, .val (.long x2), .second, .val (.int (0 : Int32))] X5 hx (hb hby d3_46) rfl rfl ?_
          refine Own.iload 50 X5 hx (hb hby d3_48) rfl rfl ?_
          refine Own.if_eq 57 53 X5 hx (hb hby d3_50) (by decide) rfl (fun tk => ?_) (fun tk => absurd tk (by decide))
          refine Own.ldc2Long 60 X5 hx hZ ((9223372036854775807 : Int64)) hown (w 20 rfl) (hb hby d3_57) rfl ?_
          refine Own.retLong X5 hx hlk hret (hb hby d3_60) (by decide) (by decide) ?_
          exact ⟨by rw [if_neg (show ¬ own_room t hd x1 from (fun q => by rcases q with q | ⟨_, _, q | q⟩; exact k1 q; exact k3 q; exact q k4))], e5, rfl⟩
        ·
          refine Own.iconst 42 X5 hx ((1 : Int32)) (hb hby d3_41) rfl rfl ?_
          refine Own.goto 46 X5 hx (hb hby d3_42) (by decide) ?_
          refine Own.istoreV 48 #[.val (.ref a), .val (.long x0), .second, .val (.long x1), .second, .val (.long x2), .second, .val (.int (1 : Int32))] X5 hx (hb hby d3_46) rfl rfl ?_
          refine Own.iload 50 X5 hx (hb hby d3_48) rfl rfl ?_
          refine Own.if_eq 57 53 X5 hx (hb hby d3_50) (by decide) rfl (fun tk => absurd tk (by decide)) (fun tk => ?_)
          refine Own.lloadN 54 X5 hx (hb hby d3_53) rfl rfl ?_
          refine Own.goto 60 X5 hx (hb hby d3_54) (by decide) ?_
          refine Own.retLong X5 hx hlk hret (hb hby d3_60) (by decide) (by decide) ?_
          exact ⟨by rw [if_pos (show own_room t hd x1 from (Or.inr ⟨k1, k2, Or.inr k4⟩))], e5, rfl⟩
theorem d4_0 : decode prog_8_method_3_code 0 = .ok (.aload_n 0, 1) := by decide +kernel
theorem d4_1 : decode prog_8_method_3_code 1 = .ok (.dup, 1) := by decide +kernel
theorem d4_2 : decode prog_8_method_3_code 2 = .ok (.getfield 13, 3) := by decide +kernel
theorem d4_5 : decode prog_8_method_3_code 5 = .ok (.lload_n 3, 1) := by decide +kernel
theorem d4_6 : decode prog_8_method_3_code 6 = .ok (.ladd, 1) := by decide +kernel
theorem d4_7 : decode prog_8_method_3_code 7 = .ok (.putfield 13, 3) := by decide +kernel
theorem d4_10 : decode prog_8_method_3_code 10 = .ok (.return_, 1) := by decide +kernel
set_option maxRecDepth 65536 in
set_option maxHeartbeats 40000000 in
theorem m4 (l : Launch) (Z : State) (a0 : Array Value) (w : ∀ (i : Nat) {d : Jvm.Cond}, tables_1[i]? = some d → d.before a0 Z = true) (a : Addr) (x0 : Int64) (x1 : Int64) (u1 : Value) (hd : Int64) (n0 : Nat) (h0 : Heap) (Z0 : n0 ≤ h0.size) (E_a : Exa Z h0 a "com/example/hold_steady/holdsteady/core/InFlightCount") (F1 : Fld Z h0 a "com/example/hold_steady/holdsteady/core/InFlightCount" "threshold" "J" u1) (F2 : Fld Z h0 a "com/example/hold_steady/holdsteady/core/InFlightCount" "held" "J" (.long hd)) (g_a : n0 ≤ a) :
    Own.Met l Z (⟨"com/example/hold_steady/holdsteady/core/InFlightCount", "admit", "(JJ)V"⟩ : MethodName) prog_8_method_3_code 5 none [] ({ frames := 0, cells := 0, slots := 0, locals := 0 } : Room) #[(.ref a), (.long x0), (.long x1)] h0 (fun v h L => v = none ∧ Fr n0 L ∧ Keep h0 h [a] ∧ Fld Z h a "com/example/hold_steady/holdsteady/core/InFlightCount" "threshold" "J" u1 ∧ Fld Z h a "com/example/hold_steady/holdsteady/core/InFlightCount" "held" "J" (.long (hd + x1))) := by
  refine Own.Met.of (plainFor_of_name (by first | (simp [plainName, overriddenIn]; done) | decide +kernel)) ?_
  intro p e s m below meth c T0 hx hby hml hown hnm hret hlk hZ X0 e0
  have hown : s.vm.findClass "com/example/hold_steady/holdsteady/core/InFlightCount" = some m.cls := hown
  have hml : c.maxLocals = 5 := hml
  have hnm : meth.name = "admit" := hnm
  have ef : entryFrame m #[(.ref a), (.long x0), (.long x1)] 5 = mkF m 0 #[.val (.ref a), .val (.long x0), .second, .val (.long x1), .second] [] := by first | (simp [entryFrame, mkF, argsToLocals, Value.category]; done) | rfl
  rw [ef]
  have N0 := Fr.nil n0
  refine Own.aloadN 1 X0 hx (hb hby d4_0) rfl rfl rfl ?_
  refine Own.dup 2 X0 hx (hb hby d4_1) rfl rfl ?_
  refine Own.getFld 5 X0 hx hZ hown (host := "") (Or.inl (w 26 rfl)) Via.refl e0 F2 (hb hby d4_2) rfl ?_
  intro T1 X1 e1
  refine Own.lloadN 6 X1 hx (hb hby d4_5) rfl rfl ?_
  refine Own.ladd 7 X1 hx (hb hby d4_6) rfl rfl ?_
  refine Own.putFld 10 X1 hx hZ hown (host := "") (Or.inl (w 26 rfl)) Via.refl e1 F2 E_a (Or.inl (w 27 rfl)) (w 4 rfl) (ty := .long) (by decide) rfl rfl (hb hby d4_7) rfl ?_
  intro T2 h2 X2 e2 W2
  have N2 := Fr.snoc X2 N0 g_a
  have Ef_4 := E_a.wr W2
  have Ff_5 := F1.other W2 (Or.inr (slot_ne (Or.inr (w 13 rfl)) (Or.inl (w 27 rfl)) (by decide) (t := .long) (t' := .long) (by decide) (by decide)))
  have Ff_6 := F2.same W2
  have zl2 := Nat.le_trans Z0 (Nat.le_of_eq W2.size.symm)
  have K2 := (Keep.refl h0 [a]).wr W2 (Or.inl (List.mem_of_getElem? (i := 0) rfl))
  refine Own.retVoid X2 hx hlk hret (hb hby d4_10) (by decide) (by decide) ?_
  rw [e2]
  exact ⟨rfl, N2, K2, Ff_5, Ff_6⟩
theorem d5_0 : decode prog_8_method_4_code 0 = .ok (.aload_n 0, 1) := by decide +kernel
theorem d5_1 : decode prog_8_method_4_code 1 = .ok (.dup, 1) := by decide +kernel
theorem d5_2 : decode prog_8_method_4_code 2 = .ok (.getfield 13, 3) := by decide +kernel
theorem d5_5 : decode prog_8_method_4_code 5 = .ok (.lload_n 1, 1) := by decide +kernel
theorem d5_6 : decode prog_8_method_4_code 6 = .ok (.lsub, 1) := by decide +kernel
theorem d5_7 : decode prog_8_method_4_code 7 = .ok (.putfield 13, 3) := by decide +kernel
theorem d5_10 : decode prog_8_method_4_code 10 = .ok (.return_, 1) := by decide +kernel
set_option maxRecDepth 65536 in
set_option maxHeartbeats 40000000 in
theorem m5 (l : Launch) (Z : State) (a0 : Array Value) (w : ∀ (i : Nat) {d : Jvm.Cond}, tables_1[i]? = some d → d.before a0 Z = true) (a : Addr) (x0 : Int64) (u1 : Value) (hd : Int64) (n0 : Nat) (h0 : Heap) (Z0 : n0 ≤ h0.size) (E_a : Exa Z h0 a "com/example/hold_steady/holdsteady/core/InFlightCount") (F1 : Fld Z h0 a "com/example/hold_steady/holdsteady/core/InFlightCount" "threshold" "J" u1) (F2 : Fld Z h0 a "com/example/hold_steady/holdsteady/core/InFlightCount" "held" "J" (.long hd)) (g_a : n0 ≤ a) :
    Own.Met l Z (⟨"com/example/hold_steady/holdsteady/core/InFlightCount", "release", "(J)V"⟩ : MethodName) prog_8_method_4_code 3 none [] ({ frames := 0, cells := 0, slots := 0, locals := 0 } : Room) #[(.ref a), (.long x0)] h0 (fun v h L => v = none ∧ Fr n0 L ∧ Keep h0 h [a] ∧ Fld Z h a "com/example/hold_steady/holdsteady/core/InFlightCount" "threshold" "J" u1 ∧ Fld Z h a "com/example/hold_steady/holdsteady/core/InFlightCount" "held" "J" (.long (hd - x0))) := by
  refine Own.Met.of (plainFor_of_name (by first | (simp [plainName, overriddenIn]; done) | decide +kernel)) ?_
  intro p e s m below meth c T0 hx hby hml hown hnm hret hlk hZ X0 e0
  have hown : s.vm.findClass "com/example/hold_steady/holdsteady/core/InFlightCount" = some m.cls := hown
  have hml : c.maxLocals = 3 := hml
  have hnm : meth.name = "release" := hnm
  have ef : entryFrame m #[(.ref a), (.long x0)] 3 = mkF m 0 #[.val (.ref a), .val (.long x0), .second] [] := by first | (simp [entryFrame, mkF, argsToLocals, Value.category]; done) | rfl
  rw [ef]
  have N0 := Fr.nil n0
  refine Own.aloadN 1 X0 hx (hb hby d5_0) rfl rfl rfl ?_
  refine Own.dup 2 X0 hx (hb hby d5_1) rfl rfl ?_
  refine Own.getFld 5 X0 hx hZ hown (host := "") (Or.inl (w 26 rfl)) Via.refl e0 F2 (hb hby d5_2) rfl ?_
  intro T1 X1 e1
  refine Own.lloadN 6 X1 hx (hb hby d5_5) rfl rfl ?_
  refine Own.lsub 7 X1 hx (hb hby d5_6) rfl rfl ?_
  refine Own.putFld 10 X1 hx hZ hown (host := "") (Or.inl (w 26 rfl)) Via.refl e1 F2 E_a (Or.inl (w 27 rfl)) (w 4 rfl) (ty := .long) (by decide) rfl rfl (hb hby d5_7) rfl ?_
  intro T2 h2 X2 e2 W2
  have N2 := Fr.snoc X2 N0 g_a
  have Ef_4 := E_a.wr W2
  have Ff_5 := F1.other W2 (Or.inr (slot_ne (Or.inr (w 13 rfl)) (Or.inl (w 27 rfl)) (by decide) (t := .long) (t' := .long) (by decide) (by decide)))
  have Ff_6 := F2.same W2
  have zl2 := Nat.le_trans Z0 (Nat.le_of_eq W2.size.symm)
  have K2 := (Keep.refl h0 [a]).wr W2 (Or.inl (List.mem_of_getElem? (i := 0) rfl))
  refine Own.retVoid X2 hx hlk hret (hb hby d5_10) (by decide) (by decide) ?_
  rw [e2]
  exact ⟨rfl, N2, K2, Ff_5, Ff_6⟩
set_option maxRecDepth 65536 in
set_option maxHeartbeats 40000000 in
theorem m0 (l : Launch) (Z : State) (a0 : Array Value) (w : ∀ (i : Nat) {d : Jvm.Cond}, tables_1[i]? = some d → d.before a0 Z = true) (x0 : Int64) (x1 : Int64) (x2 : Int64) (x3 : Int64) (x4 : Int64) (x5 : Int64)  (h0 : Heap) (n0 : Nat) (Z0 : n0 ≤ h0.size) :
    Own.Met l Z x code maxLocals ret tables_1 room_1 #[(.long x0), (.long x1), (.long x2), (.long x3), (.long x4), (.long x5)] h0 (fun v h L => v = some (.int 1) ∧ Fr n0 L) := by
  refine Own.Met.of (plainFor_of_name (by first | (simp [plainName, overriddenIn]; done) | decide +kernel)) ?_
  intro p e s m below meth c T0 hx hby hml hown hnm hret hlk hZ X0 e0
  have hown : s.vm.findClass "com/example/hold_steady/holdsteady/core/InFlightCountRoomFromPinLaw" = some m.cls := hown
  have hml : c.maxLocals = 32 := hml
  have hnm : meth.name = "law" := hnm
  have hret : meth.sig.returnType = some .boolean := hret
  have ef : entryFrame m #[(.long x0), (.long x1), (.long x2), (.long x3), (.long x4), (.long x5)] maxLocals = mkF m 0 #[.val (.long x0), .second, .val (.long x1), .second, .val (.long x2), .second, .val (.long x3), .second, .val (.long x4), .second, .val (.long x5), .second, .unset, .unset, .unset, .unset, .unset, .unset, .unset, .unset, .unset, .unset, .unset, .unset, .unset, .unset, .unset, .unset, .unset, .unset, .unset, .unset] [] := by first | (simp [entryFrame, mkF, argsToLocals, Value.category, maxLocals]; done) | rfl
  rw [ef]
  have N0 := Fr.nil n0
  refine Own.lloadN 1 X0 hx (hb hby at_0) rfl rfl ?_
  refine Own.ldc2Long 4 X0 hx hZ ((3 : Int64)) hown (w 0 rfl) (hb hby at_1) rfl ?_
  refine Own.land 5 X0 hx (hb hby at_4) rfl rfl ?_
  refine Own.l2i 6 X0 hx (hb hby at_5) rfl rfl ?_
  refine Own.istore 8 (fun v12_6 => #[.val (.long x0), .second, .val (.long x1), .second, .val (.long x2), .second, .val (.long x3), .second, .val (.long x4), .second, .val (.long x5), .second, .val (.int v12_6), .unset, .unset, .unset, .unset, .unset, .unset, .unset, .unset, .unset, .unset, .unset, .unset, .unset, .unset, .unset, .unset, .unset, .unset, .unset]) X0 hx (hb hby at_6) rfl (fun _ => rfl) fun v12_6 hv12_6 => ?_
  refine Own.lloadN 9 X0 hx (hb hby at_8) rfl rfl ?_
  refine Own.iconst 10 X0 hx ((2 : Int32)) (hb hby at_9) rfl rfl ?_
  refine Own.lushr 11 X0 hx (hb hby at_10) rfl rfl ?_
  refine Own.ldc2Long 14 X0 hx hZ ((3 : Int64)) hown (w 0 rfl) (hb hby at_11) rfl ?_
  refine Own.land 15 X0 hx (hb hby at_14) rfl rfl ?_
  refine Own.l2i 16 X0 hx (hb hby at_15) rfl rfl ?_
  refine Own.istore 18 (fun v13_16 => #[.val (.long x0), .second, .val (.long x1), .second, .val (.long x2), .second, .val (.long x3), .second, .val (.long x4), .second, .val (.long x5), .second, .val (.int v12_6), .val (.int v13_16), .unset, .unset, .unset, .unset, .unset, .unset, .unset, .unset, .unset, .unset, .unset, .unset, .unset, .unset, .unset, .unset, .unset, .unset]) X0 hx (hb hby at_16) rfl (fun _ => rfl) fun v13_16 hv13_16 => ?_
  refine Own.iload 20 X0 hx (hb hby at_18) rfl rfl ?_
  have J36 : ∀ (t : Int64) (ht : -1 ≤ t.toInt ∧ t.toInt < 17592186044416), Own.Ends p.tables e below s (fun v h L => v = some (.int 1) ∧ Fr n0 L) room_1.cells room_1.slots (T0.setTop (mkF m 36 #[.val (.long x0), .second, .val (.long x1), .second, .val (.long x2), .second, .val (.long x3), .second, .val (.long x4), .second, .val (.long x5), .second, .val (.int v12_6), .val (.int v13_16), .unset, .unset, .unset, .unset, .unset, .unset, .unset, .unset, .unset, .unset, .unset, .unset, .unset, .unset, .unset, .unset, .unset, .unset] [(.long t)])) := by
    intro t ht
    refine Own.lstoreV 38 #[.val (.long x0), .second, .val (.long x1), .second, .val (.long x2), .second, .val (.long x3), .second, .val (.long x4), .second, .val (.long x5), .second, .val (.int v12_6), .val (.int v13_16), .val (.long t), .second, .unset, .unset, .unset, .unset, .unset, .unset, .unset, .unset, .unset, .unset, .unset, .unset, .unset, .unset, .unset, .unset] X0 hx (hb hby at_36) rfl rfl ?_
    refine Own.lloadN 39 X0 hx (hb hby at_38) rfl rfl ?_
    refine Own.ldc2Long 42 X0 hx hZ ((1099511627775 : Int64)) hown (w 2 rfl) (hb hby at_39) rfl ?_
    refine Own.land 43 X0 hx (hb hby at_42) rfl rfl ?_
    refine Own.lstore 45 (fun v16_43 => #[.val (.long x0), .second, .val (.long x1), .second, .val (.long x2), .second, .val (.long x3), .second, .val (.long x4), .second, .val (.long x5), .second, .val (.int v12_6), .val (.int v13_16), .val (.long t), .second, .val (.long v16_43), .second, .unset, .unset, .unset, .unset, .unset, .unset, .unset, .unset, .unset, .unset, .unset, .unset, .unset, .unset]) X0 hx (hb hby at_43) rfl (fun _ => rfl) fun v16_43 hv16_43 => ?_
    refine Own.lload 47 X0 hx (hb hby at_45) rfl rfl ?_
    refine Own.ldc2Long 50 X0 hx hZ ((1099511627775 : Int64)) hown (w 2 rfl) (hb hby at_47) rfl ?_
    refine Own.land 51 X0 hx (hb hby at_50) rfl rfl ?_
    refine Own.lstore 53 (fun v18_51 => #[.val (.long x0), .second, .val (.long x1), .second, .val (.long x2), .second, .val (.long x3), .second, .val (.long x4), .second, .val (.long x5), .second, .val (.int v12_6), .val (.int v13_16), .val (.long t), .second, .val (.long v16_43), .second, .val (.long v18_51), .second, .unset, .unset, .unset, .unset, .unset, .unset, .unset, .unset, .unset, .unset, .unset, .unset]) X0 hx (hb hby at_51) rfl (fun _ => rfl) fun v18_51 hv18_51 => ?_
    refine Own.lload 55 X0 hx (hb hby at_53) rfl rfl ?_
    refine Own.ldc2Long 58 X0 hx hZ ((1099511627775 : Int64)) hown (w 2 rfl) (hb hby at_55) rfl ?_
    refine Own.land 59 X0 hx (hb hby at_58) rfl rfl ?_
    refine Own.lstore 61 (fun v20_59 => #[.val (.long x0), .second, .val (.long x1), .second, .val (.long x2), .second, .val (.long x3), .second, .val (.long x4), .second, .val (.long x5), .second, .val (.int v12_6), .val (.int v13_16), .val (.long t), .second, .val (.long v16_43), .second, .val (.long v18_51), .second, .val (.long v20_59), .second, .unset, .unset, .unset, .unset, .unset, .unset, .unset, .unset, .unset, .unset]) X0 hx (hb hby at_59) rfl (fun _ => rfl) fun v20_59 hv20_59 => ?_
    refine Own.newObj 64 X0 hx hZ hown (w 3 rfl) (w 4 rfl) (w 5 rfl) e0 (hb hby at_61) rfl (by decide) (by decide) ?_
    intro T1 h1 b z1 X1 e1 E1 A1 D1
    have g_b : n0 ≤ b := Nat.le_trans Z0 (Nat.le_of_eq z1.symm)
    have zl1 := Nat.le_trans Z0 E1.1
    have F1_threshold : Fld Z h1 b "com/example/hold_steady/holdsteady/core/InFlightCount" "threshold" "J" (.long (0 : Int64)) := D1 (Or.inr (w 13 rfl)) (ty := .long) (by decide)
    have F1_held : Fld Z h1 b "com/example/hold_steady/holdsteady/core/InFlightCount" "held" "J" (.long (0 : Int64)) := D1 (Or.inl (w 27 rfl)) (ty := .long) (by decide)
    refine Own.dup 65 X1 hx (hb hby at_64) rfl rfl ?_
    refine Own.lload 67 X1 hx (hb hby at_65) rfl rfl ?_
    refine Own.callInit 70 1 b [(.long t)] [(.ref b)] X1 hx hZ hown (m1 l Z a0 w b t _ _ n0 h1 zl1 A1 F1_threshold F1_held g_b) rfl (w 6 rfl) (w 7 rfl) (w 5 rfl) (w 8 rfl) (by decide) e1 (by decide) (by decide) (by decide) (by decide) (by rw [hml]; rfl) (lenOf pd_0 rfl) rfl (Nat.le_of_eq rfl) (hb hby at_67) rfl ?_
    rintro vv T3 L3 X3 ⟨rfl, N3q, K3, F13, F23⟩
    have N3 := Fr.app N0 N3q
    have E3 := A1.keep K3
    have zl3 := Nat.le_trans zl1 K3.1
    refine Own.astore 72 #[.val (.long x0), .second, .val (.long x1), .second, .val (.long x2), .second, .val (.long x3), .second, .val (.long x4), .second, .val (.long x5), .second, .val (.int v12_6), .val (.int v13_16), .val (.long t), .second, .val (.long v16_43), .second, .val (.long v18_51), .second, .val (.long v20_59), .second, .val (.ref b), .unset, .unset, .unset, .unset, .unset, .unset, .unset, .unset, .unset] X3 hx (hb hby at_70) rfl rfl rfl ?_
    refine Own.lconst 73 X3 hx ((0 : Int64)) (hb hby at_72) rfl rfl ?_
    refine Own.lstoreV 75 #[.val (.long x0), .second, .val (.long x1), .second, .val (.long x2), .second, .val (.long x3), .second, .val (.long x4), .second, .val (.long x5), .second, .val (.int v12_6), .val (.int v13_16), .val (.long t), .second, .val (.long v16_43), .second, .val (.long v18_51), .second, .val (.long v20_59), .second, .val (.ref b), .val (.long (0 : Int64)), .second, .unset, .unset, .unset, .unset, .unset, .unset, .unset] X3 hx (hb hby at_73) rfl rfl ?_
    refine Own.iload 77 X3 hx (hb hby at_75) rfl rfl ?_
    refine Own.iconst 78 X3 hx ((1 : Int32)) (hb hby at_77) rfl rfl ?_
    have B1 := own_m40 x1
    have B2 := own_m40 x2
    have B3 := own_m40 x3
    rw [← hv16_43] at B1
    rw [← hv18_51] at B2
    rw [← hv20_59] at B3
    have J166 : ∀ (hd : Int64) (T1 : State) (Lc : List Loc) (X1 : Stand p l e room_1 s m #[(.long x0), (.long x1), (.long x2), (.long x3), (.long x4), (.long x5)] below meth c T1 Lc 1 2) (N1 : Fr n0 Lc) (E1 : Exa Z T1.heap b "com/example/hold_steady/holdsteady/core/InFlightCount") (F1 : Fld Z T1.heap b "com/example/hold_steady/holdsteady/core/InFlightCount" "threshold" "J" (.long t)) (F2 : Fld Z T1.heap b "com/example/hold_steady/holdsteady/core/InFlightCount" "held" "J" (.long hd)) (hhd : 0 ≤ hd.toInt ∧ hd.toInt < 2199023255552), Own.Ends p.tables e below s (fun v h L => v = some (.int 1) ∧ Fr n0 L) room_1.cells room_1.slots (T1.setTop (mkF m 166 #[.val (.long x0), .second, .val (.long x1), .second, .val (.long x2), .second, .val (.long x3), .second, .val (.long x4), .second, .val (.long x5), .second, .val (.int v12_6), .val (.int v13_16), .val (.long t), .second, .val (.long v16_43), .second, .val (.long v18_51), .second, .val (.long v20_59), .second, .val (.ref b), .val (.long hd), .second, .unset, .unset, .unset, .unset, .unset, .unset, .unset] [])) := by
      intro hd T1 Lc X1 N1 E1 F1 F2 hhd
      have RR := own_rooms t hd v20_59 hhd.1 hhd.2 B3.1 B3.2 ht.1 ht.2
      have J223 : ∀ (r : Int32) (hr : r = 1 ∧ own_roomL t hd v20_59 ∨ r = 0 ∧ ¬ own_roomL t hd v20_59), Own.Ends p.tables e below s (fun v h L => v = some (.int 1) ∧ Fr n0 L) room_1.cells room_1.slots (T1.setTop (mkF m 223 #[.val (.long x0), .second, .val (.long x1), .second, .val (.long x2), .second, .val (.long x3), .second, .val (.long x4), .second, .val (.long x5), .second, .val (.int v12_6), .val (.int v13_16), .val (.long t), .second, .val (.long v16_43), .second, .val (.long v18_51), .second, .val (.long v20_59), .second, .val (.ref b), .val (.long hd), .second, .val (.int r), .unset, .unset, .unset, .unset, .unset, .unset] [])) := by
        intro r hr
        have J236 : ∀ (ex : Int64) (hex : ex = if own_room t hd v20_59 then x4 else 9223372036854775807), Own.Ends p.tables e below s (fun v h L => v = some (.int 1) ∧ Fr n0 L) room_1.cells room_1.slots (T1.setTop (mkF m 236 #[.val (.long x0), .second, .val (.long x1), .second, .val (.long x2), .second, .val (.long x3), .second, .val (.long x4), .second, .val (.long x5), .second, .val (.int v12_6), .val (.int v13_16), .val (.long t), .second, .val (.long v16_43), .second, .val (.long v18_51), .second, .val (.long v20_59), .second, .val (.ref b), .val (.long hd), .second, .val (.int r), .unset, .unset, .unset, .unset, .unset, .unset] [(.long ex)])) := by
          intro ex hex
          refine Own.lstoreV 238 #[.val (.long x0), .second, .val (.long x1), .second, .val (.long x2), .second, .val (.long x3), .second, .val (.long x4), .second, .val (.long x5), .second, .val (.int v12_6), .val (.int v13_16), .val (.long t), .second, .val (.long v16_43), .second, .val (.long v18_51), .second, .val (.long v20_59), .second, .val (.ref b), .val (.long hd), .second, .val (.int r), .val (.long ex), .second, .unset, .unset, .unset, .unset] X1 hx (hb hby at_236) rfl rfl ?_
          refine Own.aload 240 X1 hx (hb hby at_238) rfl rfl rfl ?_
          refine Own.lload 242 X1 hx (hb hby at_240) rfl rfl ?_
          refine Own.lload 244 X1 hx (hb hby at_242) rfl rfl ?_
          refine Own.lload 246 X1 hx (hb hby at_244) rfl rfl ?_
          refine Own.callVt 249 0 b [(.long x4), (.long v20_59), (.long x5)] [] X1 hx hZ hown (m3 l Z a0 w b x4 v20_59 x5 t hd _ F1 F2) E1 (notFace_of_selects (args := #[]) (mvT hZ (w 18 rfl))) (w 15 rfl) (w 16 rfl) (w 18 rfl) (w 17 rfl) (w 5 rfl) (w 19 rfl) (by decide) rfl (by decide) (by decide) (by decide) (by decide) (by rw [hml]; rfl) (lenOf pd_1 rfl) rfl (Nat.le_of_eq rfl) (hb hby at_246) rfl ?_
          rintro vv T4 L4 X4 ⟨rfl, hh4, rfl⟩
          have N4 := Fr.app N1 (Fr.nil _)
          refine Own.lstore 251 (fun v28_249 => #[.val (.long x0), .second, .val (.long x1), .second, .val (.long x2), .second, .val (.long x3), .second, .val (.long x4), .second, .val (.long x5), .second, .val (.int v12_6), .val (.int v13_16), .val (.long t), .second, .val (.long v16_43), .second, .val (.long v18_51), .second, .val (.long v20_59), .second, .val (.ref b), .val (.long hd), .second, .val (.int r), .val (.long ex), .second, .val (.long v28_249), .second, .unset, .unset]) X4 hx (hb hby at_249) rfl (fun _ => rfl) fun v28_249 hv28_249 => ?_
          refine Own.aload 253 X4 hx (hb hby at_251) rfl rfl rfl ?_
          refine Own.lload 255 X4 hx (hb hby at_253) rfl rfl ?_
          refine Own.lload 257 X4 hx (hb hby at_255) rfl rfl ?_
          refine Own.lload 259 X4 hx (hb hby at_257) rfl rfl ?_
          have Eb2 : Exa Z T1.heap b "com/example/hold_steady/holdsteady/core/InFlightCount" := E1
          refine Own.callVt 262 0 b [(.long x4), (.long v20_59), (.long x5)] [] X4 hx hZ hown (m3 l Z a0 w b x4 v20_59 x5 t hd _ F1 F2) Eb2 (notFace_of_selects (args := #[]) (mvT hZ (w 18 rfl))) (w 15 rfl) (w 16 rfl) (w 18 rfl) (w 17 rfl) (w 5 rfl) (w 19 rfl) (by decide) hh4 (by decide) (by decide) (by decide) (by decide) (by rw [hml]; rfl) (lenOf pd_1 rfl) rfl (Nat.le_of_eq rfl) (hb hby at_259) rfl ?_
          rintro vv T6 L6 X6 ⟨rfl, hh6, rfl⟩
          have N6 := Fr.app N4 (Fr.nil _)
          refine Own.lstore 264 (fun v30_262 => #[.val (.long x0), .second, .val (.long x1), .second, .val (.long x2), .second, .val (.long x3), .second, .val (.long x4), .second, .val (.long x5), .second, .val (.int v12_6), .val (.int v13_16), .val (.long t), .second, .val (.long v16_43), .second, .val (.long v18_51), .second, .val (.long v20_59), .second, .val (.ref b), .val (.long hd), .second, .val (.int r), .val (.long ex), .second, .val (.long v28_249), .second, .val (.long v30_262), .second]) X6 hx (hb hby at_262) rfl (fun _ => rfl) fun v30_262 hv30_262 => ?_
          refine Own.lload 266 X6 hx (hb hby at_264) rfl rfl ?_
          refine Own.lload 268 X6 hx (hb hby at_266) rfl rfl ?_
          refine Own.lif_ne 284 272 X6 hx (hb hby at_268) rfl (hb hby at_269) (by decide) rfl (fun tk => absurd (hv28_249.trans hex.symm) tk) (fun tk => ?_)
          refine Own.lload 274 X6 hx (hb hby at_272) rfl rfl ?_
          refine Own.lload 276 X6 hx (hb hby at_274) rfl rfl ?_
          refine Own.lif_ne 284 280 X6 hx (hb hby at_276) rfl (hb hby at_277) (by decide) rfl (fun tk => absurd (hv30_262.trans hex.symm) tk) (fun tk => ?_)
          refine Own.iconst 281 X6 hx ((1 : Int32)) (hb hby at_280) rfl rfl ?_
          refine Own.goto 285 X6 hx (hb hby at_281) (by decide) ?_
          refine Own.retBool X6 hx hlk hret (hb hby at_285) (by decide) (by decide) ?_
          exact ⟨rfl, N6⟩
        refine Own.iload 225 X1 hx (hb hby at_223) rfl rfl ?_
        refine Own.if_eq 233 228 X1 hx (hb hby at_225) (by decide) rfl (fun k1 => ?_) (fun k1 => ?_)
        ·
          refine Own.ldc2Long 236 X1 hx hZ ((9223372036854775807 : Int64)) hown (w 14 rfl) (hb hby at_233) rfl ?_
          rcases hr with ⟨rfl, hr⟩ | ⟨rfl, hr⟩
          · exact absurd k1 (by decide)
          · exact J236 _ (by rw [if_neg (fun u => hr (RR.mp u))])
        ·
          refine Own.lload 230 X1 hx (hb hby at_228) rfl rfl ?_
          refine Own.goto 236 X1 hx (hb hby at_230) (by decide) ?_
          rcases hr with ⟨rfl, hr⟩ | ⟨rfl, hr⟩
          · exact J236 _ (by rw [if_pos (RR.mpr hr)])
          · exact absurd rfl k1
      refine Own.lload 168 X1 hx (hb hby at_166) rfl rfl ?_
      refine Own.lconst 169 X1 hx ((0 : Int64)) (hb hby at_168) rfl rfl ?_
      refine Own.lif_ge 179 173 X1 hx (hb hby at_169) rfl (hb hby at_170) (by decide) rfl (fun k1 => ?_) (fun k1 => ?_)
      ·
        refine Own.lload 181 X1 hx (hb hby at_179) rfl rfl ?_
        refine Own.lconst 182 X1 hx ((0 : Int64)) (hb hby at_181) rfl rfl ?_
        refine Own.lif_ne 192 186 X1 hx (hb hby at_182) rfl (hb hby at_183) (by decide) rfl (fun k2 => ?_) (fun k2 => ?_)
        ·
          refine Own.lload 194 X1 hx (hb hby at_192) rfl rfl ?_
          refine Own.lconst 195 X1 hx ((0 : Int64)) (hb hby at_194) rfl rfl ?_
          refine Own.lif_ne 205 199 X1 hx (hb hby at_195) rfl (hb hby at_196) (by decide) rfl (fun k3 => ?_) (fun k3 => ?_)
          ·
            refine Own.lload 207 X1 hx (hb hby at_205) rfl rfl ?_
            refine Own.lload 209 X1 hx (hb hby at_207) rfl rfl ?_
            refine Own.lload 211 X1 hx (hb hby at_209) rfl rfl ?_
            refine Own.lsub 212 X1 hx (hb hby at_211) rfl rfl ?_
            refine Own.lif_gt 220 216 X1 hx (hb hby at_212) rfl (hb hby at_213) (by decide) rfl (fun k4 => ?_) (fun k4 => ?_)
            ·
              refine Own.iconst 221 X1 hx ((0 : Int32)) (hb hby at_220) rfl rfl ?_
              refine Own.istoreV 223 #[.val (.long x0), .second, .val (.long x1), .second, .val (.long x2), .second, .val (.long x3), .second, .val (.long x4), .second, .val (.long x5), .second, .val (.int v12_6), .val (.int v13_16), .val (.long t), .second, .val (.long v16_43), .second, .val (.long v18_51), .second, .val (.long v20_59), .second, .val (.ref b), .val (.long hd), .second, .val (.int (0 : Int32)), .unset, .unset, .unset, .unset, .unset, .unset] X1 hx (hb hby at_221) rfl rfl ?_
              exact J223 0 (Or.inr ⟨rfl, fun u => by rcases u with u | ⟨_, _, u | u⟩; exact k1 u; exact k3 u; exact u k4⟩)
            ·
              refine Own.iconst 217 X1 hx ((1 : Int32)) (hb hby at_216) rfl rfl ?_
              refine Own.goto 221 X1 hx (hb hby at_217) (by decide) ?_
              refine Own.istoreV 223 #[.val (.long x0), .second, .val (.long x1), .second, .val (.long x2), .second, .val (.long x3), .second, .val (.long x4), .second, .val (.long x5), .second, .val (.int v12_6), .val (.int v13_16), .val (.long t), .second, .val (.long v16_43), .second, .val (.long v18_51), .second, .val (.long v20_59), .second, .val (.ref b), .val (.long hd), .second, .val (.int (1 : Int32)), .unset, .unset, .unset, .unset, .unset, .unset] X1 hx (hb hby at_221) rfl rfl ?_
              exact J223 1 (Or.inl ⟨rfl, Or.inr ⟨k1, k2, Or.inr k4⟩⟩)
          ·
            refine Own.iconst 200 X1 hx ((1 : Int32)) (hb hby at_199) rfl rfl ?_
            refine Own.istoreV 202 #[.val (.long x0), .second, .val (.long x1), .second, .val (.long x2), .second, .val (.long x3), .second, .val (.long x4), .second, .val (.long x5), .second, .val (.int v12_6), .val (.int v13_16), .val (.long t), .second, .val (.long v16_43), .second, .val (.long v18_51), .second, .val (.long v20_59), .second, .val (.ref b), .val (.long hd), .second, .val (.int (1 : Int32)), .unset, .unset, .unset, .unset, .unset, .unset] X1 hx (hb hby at_200) rfl rfl ?_
            refine Own.goto 223 X1 hx (hb hby at_202) (by decide) ?_
            exact J223 1 (Or.inl ⟨rfl, Or.inr ⟨k1, k2, Or.inl k3⟩⟩)
        ·
          refine Own.iconst 187 X1 hx ((0 : Int32)) (hb hby at_186) rfl rfl ?_
          refine Own.istoreV 189 #[.val (.long x0), .second, .val (.long x1), .second, .val (.long x2), .second, .val (.long x3), .second, .val (.long x4), .second, .val (.long x5), .second, .val (.int v12_6), .val (.int v13_16), .val (.long t), .second, .val (.long v16_43), .second, .val (.long v18_51), .second, .val (.long v20_59), .second, .val (.ref b), .val (.long hd), .second, .val (.int (0 : Int32)), .unset, .unset, .unset, .unset, .unset, .unset] X1 hx (hb hby at_187) rfl rfl ?_
          refine Own.goto 223 X1 hx (hb hby at_189) (by decide) ?_
          exact J223 0 (Or.inr ⟨rfl, fun u => by rcases u with u | u; exact k1 u; exact u.2.1 k2⟩)
      ·
        refine Own.iconst 174 X1 hx ((1 : Int32)) (hb hby at_173) rfl rfl ?_
        refine Own.istoreV 176 #[.val (.long x0), .second, .val (.long x1), .second, .val (.long x2), .second, .val (.long x3), .second, .val (.long x4), .second, .val (.long x5), .second, .val (.int v12_6), .val (.int v13_16), .val (.long t), .second, .val (.long v16_43), .second, .val (.long v18_51), .second, .val (.long v20_59), .second, .val (.ref b), .val (.long hd), .second, .val (.int (1 : Int32)), .unset, .unset, .unset, .unset, .unset, .unset] X1 hx (hb hby at_174) rfl rfl ?_
        refine Own.goto 223 X1 hx (hb hby at_176) (by decide) ?_
        exact J223 1 (Or.inl ⟨rfl, Or.inl k1⟩)
    refine Own.icmp_ne 97 81 X3 hx (hb hby at_78) (by decide) rfl (fun m1 => ?_) (fun m1 => ?_)
    ·
      refine Own.iload 99 X3 hx (hb hby at_97) rfl rfl ?_
      refine Own.iconst 100 X3 hx ((2 : Int32)) (hb hby at_99) rfl rfl ?_
      refine Own.icmp_ne 131 103 X3 hx (hb hby at_100) (by decide) rfl (fun m2 => ?_) (fun m2 => ?_)
      ·
        refine Own.iload 133 X3 hx (hb hby at_131) rfl rfl ?_
        refine Own.iconst 134 X3 hx ((3 : Int32)) (hb hby at_133) rfl rfl ?_
        refine Own.icmp_ne 166 137 X3 hx (hb hby at_134) (by decide) rfl (fun m3 => ?_) (fun m3 => ?_)
        ·
          exact J166 0 _ _ X3 N3 E3 F13 (F23) (by decide)
        ·
          refine Own.aload 139 X3 hx (hb hby at_137) rfl rfl rfl ?_
          refine Own.lload 141 X3 hx (hb hby at_139) rfl rfl ?_
          refine Own.lload 143 X3 hx (hb hby at_141) rfl rfl ?_
          refine Own.callVt 146 0 b [(.long x4), (.long v16_43)] [] X3 hx hZ hown (m4 l Z a0 w b x4 v16_43 _ 0 n0 _ zl3 E3 F13 F23 g_b) E3 (notFace_of_selects (args := #[]) (mvT hZ (w 24 rfl))) (w 21 rfl) (w 22 rfl) (w 24 rfl) (w 23 rfl) (w 5 rfl) (w 25 rfl) (by decide) rfl (by decide) (by decide) (by decide) (by decide) (by rw [hml]; rfl) (lenOf pd_2 rfl) rfl (Nat.le_of_eq rfl) (hb hby at_143) rfl ?_
          rintro vv T7 L7 X7 ⟨rfl, N7q, K7, F17, F27⟩
          have N7 := Fr.app N3 N7q
          have E7 := E3.keep K7
          have zl7 := Nat.le_trans zl3 K7.1
          refine Own.aload 148 X7 hx (hb hby at_146) rfl rfl rfl ?_
          refine Own.lload 150 X7 hx (hb hby at_148) rfl rfl ?_
          refine Own.lload 152 X7 hx (hb hby at_150) rfl rfl ?_
          refine Own.callVt 155 0 b [(.long x4), (.long v18_51)] [] X7 hx hZ hown (m4 l Z a0 w b x4 v18_51 _ (0 + v16_43) n0 _ zl7 E7 F17 F27 g_b) E7 (notFace_of_selects (args := #[]) (mvT hZ (w 24 rfl))) (w 21 rfl) (w 22 rfl) (w 24 rfl) (w 23 rfl) (w 5 rfl) (w 25 rfl) (by decide) rfl (by decide) (by decide) (by decide) (by decide) (by rw [hml]; rfl) (lenOf pd_2 rfl) rfl (Nat.le_of_eq rfl) (hb hby at_152) rfl ?_
          rintro vv T8 L8 X8 ⟨rfl, N8q, K8, F18, F28⟩
          have N8 := Fr.app N7 N8q
          have E8 := E7.keep K8
          have zl8 := Nat.le_trans zl7 K8.1
          refine Own.aload 157 X8 hx (hb hby at_155) rfl rfl rfl ?_
          refine Own.lload 159 X8 hx (hb hby at_157) rfl rfl ?_
          refine Own.callVt 162 0 b [(.long v16_43)] [] X8 hx hZ hown (m5 l Z a0 w b v16_43 _ (0 + v16_43 + v18_51) n0 _ zl8 E8 F18 F28 g_b) E8 (notFace_of_selects (args := #[]) (mvT hZ (w 32 rfl))) (w 29 rfl) (w 30 rfl) (w 32 rfl) (w 31 rfl) (w 5 rfl) (w 33 rfl) (by decide) rfl (by decide) (by decide) (by decide) (by decide) (by rw [hml]; rfl) (lenOf pd_0 rfl) rfl (Nat.le_of_eq rfl) (hb hby at_159) rfl ?_
          rintro vv T9 L9 X9 ⟨rfl, N9q, K9, F19, F29⟩
          have N9 := Fr.app N8 N9q
          have E9 := E8.keep K9
          have zl9 := Nat.le_trans zl8 K9.1
          refine Own.lload 164 X9 hx (hb hby at_162) rfl rfl ?_
          refine Own.lstoreV 166 #[.val (.long x0), .second, .val (.long x1), .second, .val (.long x2), .second, .val (.long x3), .second, .val (.long x4), .second, .val (.long x5), .second, .val (.int v12_6), .val (.int v13_16), .val (.long t), .second, .val (.long v16_43), .second, .val (.long v18_51), .second, .val (.long v20_59), .second, .val (.ref b), .val (.long v18_51), .second, .unset, .unset, .unset, .unset, .unset, .unset, .unset] X9 hx (hb hby at_164) rfl rfl ?_
          exact J166 v18_51 _ _ X9 N9 E9 F19 (own_cancel v16_43 v18_51 ▸ F29) ⟨B2.1, by omega⟩
      ·
        refine Own.aload 105 X3 hx (hb hby at_103) rfl rfl rfl ?_
        refine Own.lload 107 X3 hx (hb hby at_105) rfl rfl ?_
        refine Own.lload 109 X3 hx (hb hby at_107) rfl rfl ?_
        refine Own.callVt 112 0 b [(.long x4), (.long v16_43)] [] X3 hx hZ hown (m4 l Z a0 w b x4 v16_43 _ 0 n0 _ zl3 E3 F13 F23 g_b) E3 (notFace_of_selects (args := #[]) (mvT hZ (w 24 rfl))) (w 21 rfl) (w 22 rfl) (w 24 rfl) (w 23 rfl) (w 5 rfl) (w 25 rfl) (by decide) rfl (by decide) (by decide) (by decide) (by decide) (by rw [hml]; rfl) (lenOf pd_2 rfl) rfl (Nat.le_of_eq rfl) (hb hby at_109) rfl ?_
        rintro vv T10 L10 X10 ⟨rfl, N10q, K10, F110, F210⟩
        have N10 := Fr.app N3 N10q
        have E10 := E3.keep K10
        have zl10 := Nat.le_trans zl3 K10.1
        refine Own.aload 114 X10 hx (hb hby at_112) rfl rfl rfl ?_
        refine Own.lload 116 X10 hx (hb hby at_114) rfl rfl ?_
        refine Own.lload 118 X10 hx (hb hby at_116) rfl rfl ?_
        refine Own.callVt 121 0 b [(.long x4), (.long v18_51)] [] X10 hx hZ hown (m4 l Z a0 w b x4 v18_51 _ (0 + v16_43) n0 _ zl10 E10 F110 F210 g_b) E10 (notFace_of_selects (args := #[]) (mvT hZ (w 24 rfl))) (w 21 rfl) (w 22 rfl) (w 24 rfl) (w 23 rfl) (w 5 rfl) (w 25 rfl) (by decide) rfl (by decide) (by decide) (by decide) (by decide) (by rw [hml]; rfl) (lenOf pd_2 rfl) rfl (Nat.le_of_eq rfl) (hb hby at_118) rfl ?_
        rintro vv T11 L11 X11 ⟨rfl, N11q, K11, F111, F211⟩
        have N11 := Fr.app N10 N11q
        have E11 := E10.keep K11
        have zl11 := Nat.le_trans zl10 K11.1
        refine Own.lload 123 X11 hx (hb hby at_121) rfl rfl ?_
        refine Own.lload 125 X11 hx (hb hby at_123) rfl rfl ?_
        refine Own.ladd 126 X11 hx (hb hby at_125) rfl rfl ?_
        refine Own.lstoreV 128 #[.val (.long x0), .second, .val (.long x1), .second, .val (.long x2), .second, .val (.long x3), .second, .val (.long x4), .second, .val (.long x5), .second, .val (.int v12_6), .val (.int v13_16), .val (.long t), .second, .val (.long v16_43), .second, .val (.long v18_51), .second, .val (.long v20_59), .second, .val (.ref b), .val (.long (v16_43 + v18_51)), .second, .unset, .unset, .unset, .unset, .unset, .unset, .unset] X11 hx (hb hby at_126) rfl rfl ?_
        refine Own.goto 166 X11 hx (hb hby at_128) (by decide) ?_
        exact J166 _ _ _ X11 N11 E11 F111 (Int64.zero_add v16_43 ▸ F211) (own_sum _ _ B1 B2)
    ·
      refine Own.aload 83 X3 hx (hb hby at_81) rfl rfl rfl ?_
      refine Own.lload 85 X3 hx (hb hby at_83) rfl rfl ?_
      refine Own.lload 87 X3 hx (hb hby at_85) rfl rfl ?_
      refine Own.callVt 90 0 b [(.long x4), (.long v16_43)] [] X3 hx hZ hown (m4 l Z a0 w b x4 v16_43 _ 0 n0 _ zl3 E3 F13 F23 g_b) E3 (notFace_of_selects (args := #[]) (mvT hZ (w 24 rfl))) (w 21 rfl) (w 22 rfl) (w 24 rfl) (w 23 rfl) (w 5 rfl) (w 25 rfl) (by decide) rfl (by decide) (by decide) (by decide) (by decide) (by rw [hml]; rfl) (lenOf pd_2 rfl) rfl (Nat.le_of_eq rfl) (hb hby at_87) rfl ?_
      rintro vv T12 L12 X12 ⟨rfl, N12q, K12, F112, F212⟩
      have N12 := Fr.app N3 N12q
      have E12 := E3.keep K12
      have zl12 := Nat.le_trans zl3 K12.1
      refine Own.lload 92 X12 hx (hb hby at_90) rfl rfl ?_
      refine Own.lstoreV 94 #[.val (.long x0), .second, .val (.long x1), .second, .val (.long x2), .second, .val (.long x3), .second, .val (.long x4), .second, .val (.long x5), .second, .val (.int v12_6), .val (.int v13_16), .val (.long t), .second, .val (.long v16_43), .second, .val (.long v18_51), .second, .val (.long v20_59), .second, .val (.ref b), .val (.long v16_43), .second, .unset, .unset, .unset, .unset, .unset, .unset, .unset] X12 hx (hb hby at_92) rfl rfl ?_
      refine Own.goto 166 X12 hx (hb hby at_94) (by decide) ?_
      exact J166 v16_43 _ _ X12 N12 E12 F112 (Int64.zero_add v16_43 ▸ F212) ⟨B1.1, by omega⟩
  refine Own.if_ne 29 23 X0 hx (hb hby at_20) (by decide) rfl (fun s1 => ?_) (fun s1 => ?_)
  ·
    refine Own.lloadN 30 X0 hx (hb hby at_29) rfl rfl ?_
    refine Own.iconst 31 X0 hx ((4 : Int32)) (hb hby at_30) rfl rfl ?_
    refine Own.lushr 32 X0 hx (hb hby at_31) rfl rfl ?_
    refine Own.ldc2Long 35 X0 hx hZ ((17592186044415 : Int64)) hown (w 1 rfl) (hb hby at_32) rfl ?_
    refine Own.land 36 X0 hx (hb hby at_35) rfl rfl ?_
    exact J36 _ (by have := own_m44 ((x0.toUInt64 >>> ((4 : Int32) &&& 0x3f).toInt64.toUInt64).toInt64); omega)
  ·
    refine Own.ldc2Long 26 X0 hx hZ ((-1 : Int64)) hown (w 28 rfl) (hb hby at_23) rfl ?_
    refine Own.goto 36 X0 hx (hb hby at_26) (by decide) ?_
    exact J36 _ (by decide)
set_option maxRecDepth 65536 in
set_option maxHeartbeats 40000000 in
theorem comes_1 {Post : Tables → Env → Array Value → State → Outcome → State → Prop} (hpost : ∀ tb e args s v u, (limb_1_1.after args s (.returned v) u = true ∧ limb_1_2.after args s (.returned v) u = true ∧ True) → FrameEnd s (.returned v) u (Jvm.fieldLocs frame_1_writes args s ++ Jvm.arrayLocs frame_1_arrays args s ++ Jvm.staticLocs frame_1_statics s) 16 128 → Post tb e args s (.returned v) u) :
    ArmFor flags0 classFile x code maxLocals ret World_1 tables_1 room_1 Calls_1 rest_1 Pre_1 Post := by
  intro l hfl _ _ p e ha hc hk s m args below hf hA hF happ hP
  obtain ⟨hcalls, hrest, hpre⟩ := hP
  obtain ⟨-, -, -, hnamed, -, -, -, hat⟩ := (Spec.applies_iff hf).mp happ
  obtain ⟨hg, hn⟩ := and_e (Cond.before_iff.mp (show (Jvm.Cond.and given_1 narrow_1).before args s = true from hpre))
  obtain ⟨g1, g2⟩ := and_e hg
  obtain ⟨g3, g4⟩ := and_e g2
  obtain ⟨g5, g6⟩ := and_e g4
  obtain ⟨g7, g8⟩ := and_e g6
  obtain ⟨g9, g10⟩ := and_e g8
  obtain ⟨g11, g12⟩ := and_e g10
  obtain ⟨w0, w1, w2, w3, w4, w5, rfl⟩ : ∃ w0 w1 w2 w3 w4 w5 : Value, args = #[w0, w1, w2, w3, w4, w5] := by
    have hs : args.size = 6 := by simpa [Cond.value, given_1] using g1
    obtain ⟨L⟩ := args
    match L, hs with
    | [w0, w1, w2, w3, w4, w5], _ => exact ⟨w0, w1, w2, w3, w4, w5, rfl⟩
  have hw := fun d (hd : d ∈ tables_1) => atoms_spec (ws := Jvm.Cond.code x code maxLocals ret :: tables_1) hat d (List.mem_cons_of_mem _ hd)
  obtain ⟨i0, ei0⟩ := isL_v g3
  obtain rfl : w0 = (.long i0) := Option.some.inj ei0
  obtain ⟨i1, ei1⟩ := isL_v g5
  obtain rfl : w1 = (.long i1) := Option.some.inj ei1
  obtain ⟨i2, ei2⟩ := isL_v g7
  obtain rfl : w2 = (.long i2) := Option.some.inj ei2
  obtain ⟨i3, ei3⟩ := isL_v g9
  obtain rfl : w3 = (.long i3) := Option.some.inj ei3
  obtain ⟨i4, ei4⟩ := isL_v g11
  obtain rfl : w4 = (.long i4) := Option.some.inj ei4
  obtain ⟨i5, ei5⟩ := isL_v g12
  obtain rfl : w5 = (.long i5) := Option.some.inj ei5
  obtain ⟨n, o, h1, h2, h3, _, L, rfl, ⟨rfl, N⟩, hq⟩ := m0 l s _ (fun i {d} h => hw d (List.mem_of_getElem? h)) i0 i1 i2 i3 i4 i5 s.heap s.heap.size (Nat.le_refl _) p e ha hc hk s m _ below hf ((Spec.applies_iff_loose hf).mp happ).1 ⟨rfl, State.Warmed39.refl s, rfl⟩ trivial
  refine ⟨n, _, h1, h2, h3, hpost _ _ _ _ _ _ ⟨Cond.after_iff.mpr rfl, Cond.after_iff.mpr (eq_i res_at (Term.int_eval (1)) rfl), trivial⟩ ⟨hq.1, hq.2.1, (hq.2.2.sift fun y hy => Or.inr (N y hy)).mono (by decide) (by decide)⟩⟩
theorem main_1_1 : Claimed_1_1 := comes_1 fun _ _ _ _ _ _ h hF => ⟨h.1, hF⟩
theorem main_1_2 : Claimed_1_2 := comes_1 fun _ _ _ _ _ _ h hF => ⟨h.2.1, hF⟩
end Jvm.Pilot.@@N@@
namespace Jvm.Pilot.@@N@@
open Jvm Jvm.ClassFile Sem Op Lib Jvm.Free Jvm.Stand Jvm.Pilot.@@N@@.Jvm.D
/-! MADE BY PROGRAM (witnessworld.py) out of the Statement's table words and the real class files: 10 classes; the members and pool entries that the words name. The judged class is class 1, her method 1. -/
namespace start1
open Jvm.ClassFile
def u (s : String) : CpInfo := .utf8 (stringToUtf16 s)
/-- a pool by its gaps: so many unusable entries, then the entry; so many at the end -/
def gap : Nat → List CpInfo → List CpInfo
  | 0, r => r
  | n + 1, r => .unusable :: gap n r
def poolList (es : List (Nat × CpInfo)) (last : Nat) : List CpInfo := es.foldr (fun e r => gap e.1 (e.2 :: r)) (gap last [])
def pool (es : List (Nat × CpInfo)) (last : Nat) : Array CpInfo := ⟨poolList es last⟩
def fileOf (pool : Array CpInfo) (this : Nat) (attrs : Array Attribute := #[]) (ms : Array MethodInfo := #[]) (fl : Nat := 33) (sup : Nat := 0) (ifs : Array Nat := #[]) (fds : Array FieldInfo := #[]) : ClassFile where
  minorVersion := 0
  majorVersion := 65
  constantPool := pool
  accessFlags := fl
  thisClass := this
  superClass := sup
  interfaces := ifs
  fields := fds
  methods := ms
  attributes := attrs
def plain (name : String) (sup : Option ClassId) : Class where
  name := name
  kind := .ordinary
  loader := none
  accessFlags := 33
  super := sup
  interfaces := #[]
  cf := none
  fields := #[]
  methods := #[]
  instanceTypes := #[]
  staticTypes := #[]
  resolved := #[]
  callSites := []
  init := .initialized
  statics := none
  mirror := none

def pool0 : Array CpInfo := pool [(5, u "<init>"), (0, u "()V"), (1, .class_ 10), (1, u "java/lang/Object")] 113

def k0c0 : Code := { maxStack := 0, maxLocals := 1, code := object_method_1_code, exceptionTable := #[], attributes := #[] }
def k0m0 : Method := { name := "<init>", desc := "()V", sig := { parameters := [], returnType := none }, accessFlags := 1, code := some k0c0 }
/-- java/lang/Object -/
def k0 : Class := { plain "java/lang/Object" none with
  accessFlags := 33
  interfaces := #[]
  cf := some (fileOf pool0 8 #[] #[{ accessFlags := 1, nameIndex := 5, descriptorIndex := 6, attributes := #[] }] 33 0 #[] #[])
  fields := #[]
  methods := #[k0m0]
  instanceTypes := #[]
  staticTypes := #[]
  resolved := Array.replicate 124 none
  statics := none }

def pool1 : Array CpInfo := pool [(2, .class_ 4), (1, u "java/lang/Object"), (0, u "<init>"), (0, u "()V"), (0, .long 3), (1, .long 18446744073709551615), (1, .long 17592186044415), (1, .long 1099511627775), (1, .class_ 16), (0, u "com/example/hold_steady/holdsteady/core/InFlightCount"), (0, .methodref 15 18), (0, .nameAndType 5 19), (0, u "(J)V"), (0, .methodref 15 21), (0, .nameAndType 22 23), (0, u "admit"), (0, u "(JJ)V"), (0, .methodref 15 25), (0, .nameAndType 26 19), (0, u "release"), (2, .long 9223372036854775807), (1, .methodref 15 32), (0, .nameAndType 33 34), (0, u "roomFrom"), (0, u "(JJJ)J"), (0, .class_ 36), (0, u "com/example/hold_steady/holdsteady/core/InFlightCountRoomFromPinLaw"), (2, u "law"), (0, u "(JJJJJJ)Z")] 3

def k1m0 : Method := { name := "<init>", desc := "()V", sig := { parameters := [], returnType := none }, accessFlags := 1, code := none }
def k1c1 : Code := { maxStack := 7, maxLocals := 32, code := code, exceptionTable := #[], attributes := #[] }
def k1m1 : Method := { name := "law", desc := "(JJJJJJ)Z", sig := { parameters := [.long, .long, .long, .long, .long, .long], returnType := some .boolean }, accessFlags := 9, code := some k1c1 }
/-- com/example/hold_steady/holdsteady/core/InFlightCountRoomFromPinLaw -/
def k1 : Class := { plain "com/example/hold_steady/holdsteady/core/InFlightCountRoomFromPinLaw" (some 0) with
  accessFlags := 49
  interfaces := #[]
  cf := some (fileOf pool1 35 #[] #[{ accessFlags := 1, nameIndex := 5, descriptorIndex := 6, attributes := #[] }, { accessFlags := 9, nameIndex := 39, descriptorIndex := 40, attributes := #[] }] 49 2 #[] #[])
  fields := #[]
  methods := #[k1m0, k1m1]
  instanceTypes := #[]
  staticTypes := #[]
  resolved := Array.replicate 44 none
  statics := none }

def pool2 : Array CpInfo := pool [(3, .class_ 4), (0, u "com/example/hold_steady/holdsteady/core/Account"), (0, .class_ 6), (0, u "java/lang/Object"), (0, u "NEVER"), (0, u "J")] 13

/-- com/example/hold_steady/holdsteady/core/Account -/
def k2 : Class := { plain "com/example/hold_steady/holdsteady/core/Account" (some 0) with
  accessFlags := 1536
  interfaces := #[]
  cf := some (fileOf pool2 3 #[] #[] 1536 5 #[] #[{ accessFlags := 25, nameIndex := 7, descriptorIndex := 8, attributes := #[] }])
  fields := #[{ name := "NEVER", type := .long, accessFlags := 25, slot := 0, constantValue := 0 }]
  methods := #[]
  instanceTypes := #[]
  staticTypes := #[.long]
  resolved := Array.replicate 22 none
  statics := none }

def pool3 : Array CpInfo := pool [(1, .methodref 2 3), (0, .class_ 4), (0, .nameAndType 5 6), (0, u "java/lang/Object"), (0, u "<init>"), (0, u "()V"), (0, .fieldref 8 9), (0, .class_ 10), (0, .nameAndType 11 12), (0, u "com/example/hold_steady/holdsteady/core/InFlightCount"), (0, u "threshold"), (0, u "J"), (0, .fieldref 8 14), (0, .nameAndType 15 12), (0, u "held"), (0, .class_ 17), (0, u "com/example/hold_steady/holdsteady/core/Account"), (0, .long 9223372036854775807), (1, u "(J)V"), (2, u "roomFrom"), (0, u "(JJJ)J"), (1, u "admit"), (0, u "(JJ)V"), (0, u "release")] 4

def k3c0 : Code := { maxStack := 3, maxLocals := 3, code := prog_8_method_1_code, exceptionTable := #[], attributes := #[] }
def k3m0 : Method := { name := "<init>", desc := "(J)V", sig := { parameters := [.long], returnType := none }, accessFlags := 0, code := some k3c0 }
def k3c1 : Code := { maxStack := 4, maxLocals := 8, code := prog_8_method_2_code, exceptionTable := #[], attributes := #[] }
def k3m1 : Method := { name := "roomFrom", desc := "(JJJ)J", sig := { parameters := [.long, .long, .long], returnType := some .long }, accessFlags := 1, code := some k3c1 }
def k3c2 : Code := { maxStack := 5, maxLocals := 5, code := prog_8_method_3_code, exceptionTable := #[], attributes := #[] }
def k3m2 : Method := { name := "admit", desc := "(JJ)V", sig := { parameters := [.long, .long], returnType := none }, accessFlags := 1, code := some k3c2 }
def k3c3 : Code := { maxStack := 5, maxLocals := 3, code := prog_8_method_4_code, exceptionTable := #[], attributes := #[] }
def k3m3 : Method := { name := "release", desc := "(J)V", sig := { parameters := [.long], returnType := none }, accessFlags := 1, code := some k3c3 }
/-- com/example/hold_steady/holdsteady/core/InFlightCount -/
def k3 : Class := { plain "com/example/hold_steady/holdsteady/core/InFlightCount" (some 0) with
  accessFlags := 48
  interfaces := #[2]
  cf := some (fileOf pool3 8 #[] #[{ accessFlags := 0, nameIndex := 5, descriptorIndex := 20, attributes := #[] }, { accessFlags := 1, nameIndex := 23, descriptorIndex := 24, attributes := #[] }, { accessFlags := 1, nameIndex := 26, descriptorIndex := 27, attributes := #[] }, { accessFlags := 1, nameIndex := 28, descriptorIndex := 20, attributes := #[] }] 48 2 #[16] #[{ accessFlags := 18, nameIndex := 11, descriptorIndex := 12, attributes := #[] }, { accessFlags := 2, nameIndex := 15, descriptorIndex := 12, attributes := #[] }])
  fields := #[{ name := "threshold", type := .long, accessFlags := 18, slot := 0, constantValue := 0 }, { name := "held", type := .long, accessFlags := 2, slot := 1, constantValue := 0 }]
  methods := #[k3m0, k3m1, k3m2, k3m3]
  instanceTypes := #[.long, .long]
  staticTypes := #[]
  resolved := Array.replicate 33 none
  statics := none }

def pool4 : Array CpInfo := pool [(1, u "java/lang/Cloneable"), (0, .class_ 1), (0, u "java/lang/Object"), (0, .class_ 3)] 3

/-- java/lang/Cloneable -/
def k4 : Class := { plain "java/lang/Cloneable" (some 0) with
  accessFlags := 1537
  interfaces := #[]
  cf := some (fileOf pool4 2 #[] #[] 1537 4 #[] #[])
  fields := #[]
  methods := #[]
  instanceTypes := #[]
  staticTypes := #[]
  resolved := Array.replicate 8 none
  statics := none }

def pool5 : Array CpInfo := pool [(1, u "java/io/Serializable"), (0, .class_ 1), (0, u "java/lang/Object"), (0, .class_ 3)] 3

/-- java/io/Serializable -/
def k5 : Class := { plain "java/io/Serializable" (some 0) with
  accessFlags := 1537
  interfaces := #[]
  cf := some (fileOf pool5 2 #[] #[] 1537 4 #[] #[])
  fields := #[]
  methods := #[]
  instanceTypes := #[]
  staticTypes := #[]
  resolved := Array.replicate 8 none
  statics := none }

/-- the primitive byte -/
def k6 : Class := { plain "byte" none with kind := .primitive 'B', accessFlags := 0x411 }
/-- [B -/
def k7 : Class := { plain "[B" (some 0) with kind := .array 6 .byte, interfaces := #[4, 5], accessFlags := 1041 }

/-- the primitive int -/
def k8 : Class := { plain "int" none with kind := .primitive 'I', accessFlags := 0x411 }
/-- [I -/
def k9 : Class := { plain "[I" (some 0) with kind := .array 8 .int, interfaces := #[4, 5], accessFlags := 1041 }

def heap : Heap := #[]
def classes : Array Class := #[k0, k1, k2, k3, k4, k5, k6, k7, k8, k9]
def interned : List (Array UInt16 × Addr) := []
def slotsUsed : Nat := 0
def theMethod : MethodId := ⟨1, 1⟩
def args0 : Array Value := #[.long 1, .long 2, .long 3, .long 4, .long 5, .long 6]
def aboutOver (below : List Frame) : State where
  vm := { classes := classes, interned := interned.toArray }
  heap := heap
  slotsUsed := slotsUsed
  threads := #[{ frames := .invoking theMethod args0 :: below }]
def below0 : List Frame := [.native { method := ⟨0, 0⟩, args := #[] }]
def about1 : State := aboutOver below0
def p0 : Program := .bare "" "" ""
def e0 : Env := launch0.env 0 0 0
theorem w_frames : about1.frames = Frame.invoking theMethod args0 :: below0 := rfl
set_option maxRecDepth 65536 in
theorem w_args : argsFit about1.vm theMethod args0 = true := by decide +kernel
set_option maxRecDepth 65536 in
theorem w_heap : heapFits about1 = true := by decide +kernel
set_option maxRecDepth 65536 in
theorem w_runnable : about1.curStatus? = some .runnable := by decide +kernel
set_option maxRecDepth 65536 in
theorem w_alone : about1.alone = true := by decide +kernel
set_option maxRecDepth 65536 in
theorem w_named : about1.methodNamed? x = some theMethod := by decide +kernel
set_option maxRecDepth 65536 in
theorem w_hears : about1.hears theMethod below0 = true := by decide +kernel
set_option maxRecDepth 65536 in
theorem w_ripe : about1.ripe theMethod args0 below0 = true := by decide +kernel
theorem w_running : about1.status = .running := rfl
set_option maxRecDepth 65536 in
theorem w_room : about1.hasRoom e0.platform room_1 = true :=
  launch0.hasRoom_least _ room_1 (by decide +kernel) (by decide +kernel) (by decide +kernel) (by decide +kernel) (by decide +kernel) (by decide +kernel)
theorem allAtoms_all (ts : List Jvm.Cond) (a : Array Jvm.Value) (st : Jvm.State) : (allAtoms ts).before a st = ts.all (fun c => c.before a st) := by
  induction ts with
  | nil => rfl
  | cons c t ih =>
    show (Jvm.Cond.and c (allAtoms t)).before a st = _
    rw [Jvm.Cond.before_and, ih, List.all_cons]
def words1 : List Jvm.Cond := Jvm.Cond.code x code maxLocals ret :: tables_1
/-- a 'code' word, met by the world's own term for the bytes: nothing is compared byte by byte -/
theorem code_word {y : MethodName} {bytes : ByteArray} {mx : Nat} {rt : Option FieldType} {a : Array Value} {s : State} {m : MethodId} {meth : Method} {c : Code} (h1 : s.methodNamed? y = some m) (h2 : s.vm.method? m = some meth) (h3 : meth.code = some c) (h4 : c.code = bytes)
    (h5 : (c.maxLocals == mx && c.exceptionTable.isEmpty && decide (c.maxStack ≤ mostOperands) && decide (meth.sig.returnType = rt) && !meth.locks && decide (parseMethodDescriptor y.desc = some meth.sig)) = true) : (Jvm.Cond.code y bytes mx rt).before a s = true := by
  simp only [Bool.and_eq_true, beq_iff_eq, Bool.not_eq_true', decide_eq_true_eq] at h5
  obtain ⟨⟨⟨⟨⟨g1, g2⟩, g3⟩, g4⟩, g5⟩, g6⟩ := h5
  simp [Cond.before, Cond.holds, Cond.value, h1, h2, h3, h4, g1, g2, g3, g4, g5, g6]
def isCode : Jvm.Cond → Bool
  | .code _ _ _ _ => true
  | _ => false
theorem all_split {L : List Jvm.Cond} {P : Jvm.Cond → Bool} (h1 : L.all (fun c => isCode c || P c) = true) (h2 : ∀ c ∈ L.filter isCode, P c = true) : L.all P = true := by
  refine List.all_eq_true.mpr fun c hc => ?_
  have h := List.all_eq_true.mp h1 c hc
  rcases Bool.eq_false_or_eq_true (isCode c) with hi | hi
  · exact h2 c (List.mem_filter.mpr ⟨hc, hi⟩)
  · simpa [hi] using h
set_option maxRecDepth 65536 in
theorem w_c0 : (Jvm.Cond.code x code maxLocals ret).before args0 about1 = true := code_word (m := ⟨1, 1⟩) (meth := k1m1) (c := k1c1) (by decide +kernel) rfl rfl rfl (by decide +kernel)
set_option maxRecDepth 65536 in
theorem w_c1 : (Jvm.Cond.code ({ cls := "com/example/hold_steady/holdsteady/core/InFlightCount", name := "<init>", desc := "(J)V" } : Jvm.MethodName) prog_8_method_1_code (3 : Nat) (Option.none : Option Jvm.ClassFile.FieldType)).before args0 about1 = true := code_word (m := ⟨3, 0⟩) (meth := k3m0) (c := k3c0) (by decide +kernel) rfl rfl rfl (by decide +kernel)
set_option maxRecDepth 65536 in
theorem w_c2 : (Jvm.Cond.code ({ cls := "java/lang/Object", name := "<init>", desc := "()V" } : Jvm.MethodName) object_method_1_code (1 : Nat) (Option.none : Option Jvm.ClassFile.FieldType)).before args0 about1 = true := code_word (m := ⟨0, 0⟩) (meth := k0m0) (c := k0c0) (by decide +kernel) rfl rfl rfl (by decide +kernel)
set_option maxRecDepth 65536 in
theorem w_c3 : (Jvm.Cond.code ({ cls := "com/example/hold_steady/holdsteady/core/InFlightCount", name := "roomFrom", desc := "(JJJ)J" } : Jvm.MethodName) prog_8_method_2_code (8 : Nat) (Option.some Jvm.ClassFile.FieldType.long)).before args0 about1 = true := code_word (m := ⟨3, 1⟩) (meth := k3m1) (c := k3c1) (by decide +kernel) rfl rfl rfl (by decide +kernel)
set_option maxRecDepth 65536 in
theorem w_c4 : (Jvm.Cond.code ({ cls := "com/example/hold_steady/holdsteady/core/InFlightCount", name := "admit", desc := "(JJ)V" } : Jvm.MethodName) prog_8_method_3_code (5 : Nat) (Option.none : Option Jvm.ClassFile.FieldType)).before args0 about1 = true := code_word (m := ⟨3, 2⟩) (meth := k3m2) (c := k3c2) (by decide +kernel) rfl rfl rfl (by decide +kernel)
set_option maxRecDepth 65536 in
theorem w_c5 : (Jvm.Cond.code ({ cls := "com/example/hold_steady/holdsteady/core/InFlightCount", name := "release", desc := "(J)V" } : Jvm.MethodName) prog_8_method_4_code (3 : Nat) (Option.none : Option Jvm.ClassFile.FieldType)).before args0 about1 = true := code_word (m := ⟨3, 3⟩) (meth := k3m3) (c := k3c3) (by decide +kernel) rfl rfl rfl (by decide +kernel)
def codes1 : List Jvm.Cond := [Jvm.Cond.code x code maxLocals ret, Jvm.Cond.code ({ cls := "com/example/hold_steady/holdsteady/core/InFlightCount", name := "<init>", desc := "(J)V" } : Jvm.MethodName) prog_8_method_1_code (3 : Nat) (Option.none : Option Jvm.ClassFile.FieldType), Jvm.Cond.code ({ cls := "java/lang/Object", name := "<init>", desc := "()V" } : Jvm.MethodName) object_method_1_code (1 : Nat) (Option.none : Option Jvm.ClassFile.FieldType), Jvm.Cond.code ({ cls := "com/example/hold_steady/holdsteady/core/InFlightCount", name := "roomFrom", desc := "(JJJ)J" } : Jvm.MethodName) prog_8_method_2_code (8 : Nat) (Option.some Jvm.ClassFile.FieldType.long), Jvm.Cond.code ({ cls := "com/example/hold_steady/holdsteady/core/InFlightCount", name := "admit", desc := "(JJ)V" } : Jvm.MethodName) prog_8_method_3_code (5 : Nat) (Option.none : Option Jvm.ClassFile.FieldType), Jvm.Cond.code ({ cls := "com/example/hold_steady/holdsteady/core/InFlightCount", name := "release", desc := "(J)V" } : Jvm.MethodName) prog_8_method_4_code (3 : Nat) (Option.none : Option Jvm.ClassFile.FieldType)]
set_option maxRecDepth 65536 in
theorem codes_eq : words1.filter isCode = codes1 := rfl
theorem w_codes : ∀ c ∈ words1.filter isCode, c.before args0 about1 = true := by
  rw [codes_eq]
  intro c hc
  simp only [codes1, List.mem_cons, List.not_mem_nil, or_false] at hc
  rcases hc with rfl | rfl | rfl | rfl | rfl | rfl
  · exact w_c0
  · exact w_c1
  · exact w_c2
  · exact w_c3
  · exact w_c4
  · exact w_c5
set_option maxRecDepth 65536 in
theorem w_t1 : (words1.take 24).all (fun c => isCode c || c.before args0 about1) = true := by decide +kernel
set_option maxRecDepth 65536 in
theorem w_t2 : (words1.drop 24).all (fun c => isCode c || c.before args0 about1) = true := by decide +kernel
theorem w_tables : (allAtoms (Jvm.Cond.code x code maxLocals ret :: tables_1)).before args0 about1 = true := by
  rw [allAtoms_all]
  show words1.all (fun c => c.before args0 about1) = true
  refine all_split ?_ w_codes
  rw [← List.take_append_drop 24 words1, List.all_append, w_t1, w_t2]
  rfl
set_option maxRecDepth 65536 in
theorem w_case : (Jvm.Cond.and given_1 narrow_1).before args0 about1 = true := by decide +kernel
theorem w_applies : (headSpec (Jvm.Cond.code x code maxLocals ret :: tables_1) room_1).applies x e0.platform about1 = true :=
  (Spec.applies_iff w_frames).mpr ⟨w_running, w_runnable, w_alone, w_named, w_hears, w_ripe, w_room, w_tables⟩
theorem atStart : AtStart classFile x code maxLocals ret World_1 tables_1 room_1 Calls_1 rest_1 Pre_1 launch0 p0 e0 about1 theMethod args0 below0 :=
  ⟨lists_1, trivial, launch0.admits_env _ _ _, launch0.least_env, fairChoices_fair.cas, fairChoices_fair.clock, w_frames, w_args, w_heap, w_applies, trivial, trivial, w_case⟩
end start1
theorem witness_1 : WitnessClaimed_1 := ⟨start1.p0, start1.e0, start1.about1, start1.theMethod, start1.args0, start1.below0, start1.atStart⟩
end Jvm.Pilot.@@N@@
