import JvmDerived
import JvmDerived.Pilot.@@N@@Statement
import JvmDerived.Pilot.@@N@@Code
set_option linter.unusedVariables false
set_option linter.unusedSimpArgs false
namespace Jvm.Own
open Jvm Sem ClassFile Op Lib Jvm.Stand Jvm.Free Jvm.LawKit Jvm.RoadKit Bundle
/-- from the state U on the body comes to its end, and what it leaves answers to Q -/
def Ends (tb : Tables) (e : Env) (below : List Frame) (s : State) (Q : Option Value → Heap → List Loc → Prop) (C S : Nat) (U : State) : Prop :=
  ∃ s₂ o, Steps tb e below U s₂ ∧ s₂.status = .running ∧ Ended s₂ below o ∧ ∃ v L, o = .returned v ∧ Q v s₂.heap L ∧ FrameEnd s o s₂ L C S
section Walk
variable {p : Program} {l : Launch} {e : Env} {R : Room} {s : State} {m : MethodId} {args : Array Value} {below : List Frame} {meth : Method} {c : Code} {T : State} {locs : List Loc} {cells slots : Nat} {Q : Option Value → Heap → List Loc → Prop} {C S : Nat} {pc : Nat} {Ls : Array Slot} {st : List Value} {Z : State} {a0 : Array Value} {h : Heap}
theorem Ends.step {tb : Tables} {U V : State} (k : Ends tb e below s Q C S V) (hs : ∀ t, Steps tb e below V t → Steps tb e below U t) : Ends tb e below s Q C S U := by
  obtain ⟨s₂, o, h1, r⟩ := k
  exact ⟨s₂, o, hs _ h1, r⟩
theorem Ends.mono {tb : Tables} {U : State} {Q' : Option Value → Heap → List Loc → Prop} (k : Ends tb e below s Q' C S U) (hq : ∀ v h L, Q' v h L → Q v h L) : Ends tb e below s Q C S U := by
  obtain ⟨s₂, o, h1, h2, h3, v, L, h4, h5, h6⟩ := k
  exact ⟨s₂, o, h1, h2, h3, v, L, h4, hq _ _ _ h5, h6⟩
theorem iload (n : Nat) (X : Stand p l e R s m args below meth c T locs cells slots) (hx : p.tables.exec = Jvm.exec) {k : Nat} {v : Int32} (hd : decode c.code pc = .ok (.iload k, 2)) (hn : pc + 2 = n) (hl : Ls[k]? = some (.val (.int v))) (K : Ends p.tables e below s Q C S (T.setTop (mkF m n Ls (.int v :: st)))) : Ends p.tables e below s Q C S (T.setTop (mkF m pc Ls (st))) := by
  subst hn; exact K.step fun t k => XS.iload (g := mkF m pc Ls (st)) X.here hx rfl hd hl k
theorem iloadN (n : Nat) (X : Stand p l e R s m args below meth c T locs cells slots) (hx : p.tables.exec = Jvm.exec) {k : Fin 4} {v : Int32} (hd : decode c.code pc = .ok (.iload_n k, 1)) (hn : pc + 1 = n) (hl : Ls[k.val]? = some (.val (.int v))) (K : Ends p.tables e below s Q C S (T.setTop (mkF m n Ls (.int v :: st)))) : Ends p.tables e below s Q C S (T.setTop (mkF m pc Ls (st))) := by
  subst hn; exact K.step fun t k => XS.iloadN (g := mkF m pc Ls (st)) X.here hx rfl hd hl k
theorem lload (n : Nat) (X : Stand p l e R s m args below meth c T locs cells slots) (hx : p.tables.exec = Jvm.exec) {k : Nat} {v : Int64} (hd : decode c.code pc = .ok (.lload k, 2)) (hn : pc + 2 = n) (hl : Ls[k]? = some (.val (.long v))) (K : Ends p.tables e below s Q C S (T.setTop (mkF m n Ls (.long v :: st)))) : Ends p.tables e below s Q C S (T.setTop (mkF m pc Ls (st))) := by
  subst hn; exact K.step fun t k => XS.lload (g := mkF m pc Ls (st)) X.here hx rfl hd hl k
theorem lloadN (n : Nat) (X : Stand p l e R s m args below meth c T locs cells slots) (hx : p.tables.exec = Jvm.exec) {k : Fin 4} {v : Int64} (hd : decode c.code pc = .ok (.lload_n k, 1)) (hn : pc + 1 = n) (hl : Ls[k.val]? = some (.val (.long v))) (K : Ends p.tables e below s Q C S (T.setTop (mkF m n Ls (.long v :: st)))) : Ends p.tables e below s Q C S (T.setTop (mkF m pc Ls (st))) := by
  subst hn; exact K.step fun t k => XS.lloadN (g := mkF m pc Ls (st)) X.here hx rfl hd hl k
theorem aload (n : Nat) (X : Stand p l e R s m args below meth c T locs cells slots) (hx : p.tables.exec = Jvm.exec) {k : Nat} {v : Value} (hd : decode c.code pc = .ok (.aload k, 2)) (hn : pc + 2 = n) (hl : Ls[k]? = some (.val v)) (hv : v.isRef = true) (K : Ends p.tables e below s Q C S (T.setTop (mkF m n Ls (v :: st)))) : Ends p.tables e below s Q C S (T.setTop (mkF m pc Ls (st))) := by
  subst hn; exact K.step fun t k => XS.aload (g := mkF m pc Ls (st)) X.here hx rfl hd hl hv k
theorem aloadN (n : Nat) (X : Stand p l e R s m args below meth c T locs cells slots) (hx : p.tables.exec = Jvm.exec) {k : Fin 4} {v : Value} (hd : decode c.code pc = .ok (.aload_n k, 1)) (hn : pc + 1 = n) (hl : Ls[k.val]? = some (.val v)) (hv : v.isRef = true) (K : Ends p.tables e below s Q C S (T.setTop (mkF m n Ls (v :: st)))) : Ends p.tables e below s Q C S (T.setTop (mkF m pc Ls (st))) := by
  subst hn; exact K.step fun t k => XS.aloadN (g := mkF m pc Ls (st)) X.here hx rfl hd hl hv k
theorem iconst (n : Nat) (X : Stand p l e R s m args below meth c T locs cells slots) (hx : p.tables.exec = Jvm.exec) {i : Int} (v : Int32) (hd : decode c.code pc = .ok (.iconst i, 1)) (hn : pc + 1 = n) (hv : Int32.ofInt i = v) (K : Ends p.tables e below s Q C S (T.setTop (mkF m n Ls (.int v :: st)))) : Ends p.tables e below s Q C S (T.setTop (mkF m pc Ls (st))) := by
  subst hn; exact K.step fun t k => XS.iconst (g := mkF m pc Ls (st)) X.here hx rfl hd (hv ▸ k)
theorem bipush (n : Nat) (X : Stand p l e R s m args below meth c T locs cells slots) (hx : p.tables.exec = Jvm.exec) {i : Int} (v : Int32) (hd : decode c.code pc = .ok (.bipush i, 2)) (hn : pc + 2 = n) (hv : (Int8.ofInt i).toInt32 = v) (K : Ends p.tables e below s Q C S (T.setTop (mkF m n Ls (.int v :: st)))) : Ends p.tables e below s Q C S (T.setTop (mkF m pc Ls (st))) := by
  subst hn; exact K.step fun t k => XS.bipush (g := mkF m pc Ls (st)) X.here hx rfl hd (hv ▸ k)
theorem sipush (n : Nat) (X : Stand p l e R s m args below meth c T locs cells slots) (hx : p.tables.exec = Jvm.exec) {i : Int} (v : Int32) (hd : decode c.code pc = .ok (.sipush i, 3)) (hn : pc + 3 = n) (hv : (Int16.ofInt i).toInt32 = v) (K : Ends p.tables e below s Q C S (T.setTop (mkF m n Ls (.int v :: st)))) : Ends p.tables e below s Q C S (T.setTop (mkF m pc Ls (st))) := by
  subst hn; exact K.step fun t k => XS.sipush (g := mkF m pc Ls (st)) X.here hx rfl hd (hv ▸ k)
theorem lconst (n : Nat) (X : Stand p l e R s m args below meth c T locs cells slots) (hx : p.tables.exec = Jvm.exec) {i : Fin 2} (v : Int64) (hd : decode c.code pc = .ok (.lconst i, 1)) (hn : pc + 1 = n) (hv : Int64.ofNat i = v) (K : Ends p.tables e below s Q C S (T.setTop (mkF m n Ls (.long v :: st)))) : Ends p.tables e below s Q C S (T.setTop (mkF m pc Ls (st))) := by
  subst hn; exact K.step fun t k => XS.lconst (g := mkF m pc Ls (st)) X.here hx rfl hd (hv ▸ k)
theorem aconstNull (n : Nat) (X : Stand p l e R s m args below meth c T locs cells slots) (hx : p.tables.exec = Jvm.exec)  (hd : decode c.code pc = .ok (.aconst_null, 1)) (hn : pc + 1 = n)  (K : Ends p.tables e below s Q C S (T.setTop (mkF m n Ls (.null :: st)))) : Ends p.tables e below s Q C S (T.setTop (mkF m pc Ls (st))) := by
  subst hn; exact K.step fun t k => XS.aconstNull (g := mkF m pc Ls (st)) X.here hx rfl hd k
theorem iadd (n : Nat) (X : Stand p l e R s m args below meth c T locs cells slots) (hx : p.tables.exec = Jvm.exec) {x y r : Int32} {rest : List Value} (hd : decode c.code pc = .ok (.iadd, 1)) (hn : pc + 1 = n) (hr : x + y = r) (K : Ends p.tables e below s Q C S (T.setTop (mkF m n Ls (.int r :: rest)))) : Ends p.tables e below s Q C S (T.setTop (mkF m pc Ls (.int y :: .int x :: rest))) := by
  subst hn; exact K.step fun t k => XS.iadd (g := mkF m pc Ls (.int y :: .int x :: rest)) X.here hx rfl hd rfl (hr ▸ k)
theorem isub (n : Nat) (X : Stand p l e R s m args below meth c T locs cells slots) (hx : p.tables.exec = Jvm.exec) {x y r : Int32} {rest : List Value} (hd : decode c.code pc = .ok (.isub, 1)) (hn : pc + 1 = n) (hr : x - y = r) (K : Ends p.tables e below s Q C S (T.setTop (mkF m n Ls (.int r :: rest)))) : Ends p.tables e below s Q C S (T.setTop (mkF m pc Ls (.int y :: .int x :: rest))) := by
  subst hn; exact K.step fun t k => XS.isub (g := mkF m pc Ls (.int y :: .int x :: rest)) X.here hx rfl hd rfl (hr ▸ k)
theorem iand (n : Nat) (X : Stand p l e R s m args below meth c T locs cells slots) (hx : p.tables.exec = Jvm.exec) {x y r : Int32} {rest : List Value} (hd : decode c.code pc = .ok (.iand, 1)) (hn : pc + 1 = n) (hr : x &&& y = r) (K : Ends p.tables e below s Q C S (T.setTop (mkF m n Ls (.int r :: rest)))) : Ends p.tables e below s Q C S (T.setTop (mkF m pc Ls (.int y :: .int x :: rest))) := by
  subst hn; exact K.step fun t k => XS.iand (g := mkF m pc Ls (.int y :: .int x :: rest)) X.here hx rfl hd rfl (hr ▸ k)
theorem imul (n : Nat) (X : Stand p l e R s m args below meth c T locs cells slots) (hx : p.tables.exec = Jvm.exec) {x y r : Int32} {rest : List Value} (hd : decode c.code pc = .ok (.imul, 1)) (hn : pc + 1 = n) (hr : x * y = r) (K : Ends p.tables e below s Q C S (T.setTop (mkF m n Ls (.int r :: rest)))) : Ends p.tables e below s Q C S (T.setTop (mkF m pc Ls (.int y :: .int x :: rest))) := by
  subst hn; exact K.step fun t k => XS.imul (g := mkF m pc Ls (.int y :: .int x :: rest)) X.here hx rfl hd rfl (hr ▸ k)
theorem ior (n : Nat) (X : Stand p l e R s m args below meth c T locs cells slots) (hx : p.tables.exec = Jvm.exec) {x y r : Int32} {rest : List Value} (hd : decode c.code pc = .ok (.ior, 1)) (hn : pc + 1 = n) (hr : x ||| y = r) (K : Ends p.tables e below s Q C S (T.setTop (mkF m n Ls (.int r :: rest)))) : Ends p.tables e below s Q C S (T.setTop (mkF m pc Ls (.int y :: .int x :: rest))) := by
  subst hn; exact K.step fun t k => XS.ior (g := mkF m pc Ls (.int y :: .int x :: rest)) X.here hx rfl hd rfl (hr ▸ k)
theorem ixor (n : Nat) (X : Stand p l e R s m args below meth c T locs cells slots) (hx : p.tables.exec = Jvm.exec) {x y r : Int32} {rest : List Value} (hd : decode c.code pc = .ok (.ixor, 1)) (hn : pc + 1 = n) (hr : x ^^^ y = r) (K : Ends p.tables e below s Q C S (T.setTop (mkF m n Ls (.int r :: rest)))) : Ends p.tables e below s Q C S (T.setTop (mkF m pc Ls (.int y :: .int x :: rest))) := by
  subst hn; exact K.step fun t k => XS.ixor (g := mkF m pc Ls (.int y :: .int x :: rest)) X.here hx rfl hd rfl (hr ▸ k)
theorem ishl (n : Nat) (X : Stand p l e R s m args below meth c T locs cells slots) (hx : p.tables.exec = Jvm.exec) {x y r : Int32} {rest : List Value} (hd : decode c.code pc = .ok (.ishl, 1)) (hn : pc + 1 = n) (hr : x <<< (y &&& 31) = r) (K : Ends p.tables e below s Q C S (T.setTop (mkF m n Ls (.int r :: rest)))) : Ends p.tables e below s Q C S (T.setTop (mkF m pc Ls (.int y :: .int x :: rest))) := by
  subst hn; exact K.step fun t k => XS.ishl (g := mkF m pc Ls (.int y :: .int x :: rest)) X.here hx rfl hd rfl (hr ▸ k)
theorem ishr (n : Nat) (X : Stand p l e R s m args below meth c T locs cells slots) (hx : p.tables.exec = Jvm.exec) {x y r : Int32} {rest : List Value} (hd : decode c.code pc = .ok (.ishr, 1)) (hn : pc + 1 = n) (hr : x >>> (y &&& 31) = r) (K : Ends p.tables e below s Q C S (T.setTop (mkF m n Ls (.int r :: rest)))) : Ends p.tables e below s Q C S (T.setTop (mkF m pc Ls (.int y :: .int x :: rest))) := by
  subst hn; exact K.step fun t k => XS.ishr (g := mkF m pc Ls (.int y :: .int x :: rest)) X.here hx rfl hd rfl (hr ▸ k)
theorem iushr (n : Nat) (X : Stand p l e R s m args below meth c T locs cells slots) (hx : p.tables.exec = Jvm.exec) {x y r : Int32} {rest : List Value} (hd : decode c.code pc = .ok (.iushr, 1)) (hn : pc + 1 = n) (hr : (x.toUInt32 >>> (y &&& 31).toUInt32).toInt32 = r) (K : Ends p.tables e below s Q C S (T.setTop (mkF m n Ls (.int r :: rest)))) : Ends p.tables e below s Q C S (T.setTop (mkF m pc Ls (.int y :: .int x :: rest))) := by
  subst hn; exact K.step fun t k => XS.iushr (g := mkF m pc Ls (.int y :: .int x :: rest)) X.here hx rfl hd rfl (hr ▸ k)
theorem ladd (n : Nat) (X : Stand p l e R s m args below meth c T locs cells slots) (hx : p.tables.exec = Jvm.exec) {x y r : Int64} {rest : List Value} (hd : decode c.code pc = .ok (.ladd, 1)) (hn : pc + 1 = n) (hr : x + y = r) (K : Ends p.tables e below s Q C S (T.setTop (mkF m n Ls (.long r :: rest)))) : Ends p.tables e below s Q C S (T.setTop (mkF m pc Ls (.long y :: .long x :: rest))) := by
  subst hn; exact K.step fun t k => XS.ladd (g := mkF m pc Ls (.long y :: .long x :: rest)) X.here hx rfl hd rfl (hr ▸ k)
theorem lsub (n : Nat) (X : Stand p l e R s m args below meth c T locs cells slots) (hx : p.tables.exec = Jvm.exec) {x y r : Int64} {rest : List Value} (hd : decode c.code pc = .ok (.lsub, 1)) (hn : pc + 1 = n) (hr : x - y = r) (K : Ends p.tables e below s Q C S (T.setTop (mkF m n Ls (.long r :: rest)))) : Ends p.tables e below s Q C S (T.setTop (mkF m pc Ls (.long y :: .long x :: rest))) := by
  subst hn; exact K.step fun t k => XS.lsub (g := mkF m pc Ls (.long y :: .long x :: rest)) X.here hx rfl hd rfl (hr ▸ k)
theorem land (n : Nat) (X : Stand p l e R s m args below meth c T locs cells slots) (hx : p.tables.exec = Jvm.exec) {x y r : Int64} {rest : List Value} (hd : decode c.code pc = .ok (.land, 1)) (hn : pc + 1 = n) (hr : x &&& y = r) (K : Ends p.tables e below s Q C S (T.setTop (mkF m n Ls (.long r :: rest)))) : Ends p.tables e below s Q C S (T.setTop (mkF m pc Ls (.long y :: .long x :: rest))) := by
  subst hn; exact K.step fun t k => XS.land (g := mkF m pc Ls (.long y :: .long x :: rest)) X.here hx rfl hd rfl (hr ▸ k)
theorem lmul (n : Nat) (X : Stand p l e R s m args below meth c T locs cells slots) (hx : p.tables.exec = Jvm.exec) {x y r : Int64} {rest : List Value} (hd : decode c.code pc = .ok (.lmul, 1)) (hn : pc + 1 = n) (hr : x * y = r) (K : Ends p.tables e below s Q C S (T.setTop (mkF m n Ls (.long r :: rest)))) : Ends p.tables e below s Q C S (T.setTop (mkF m pc Ls (.long y :: .long x :: rest))) := by
  subst hn; exact K.step fun t k => XS.lmul (g := mkF m pc Ls (.long y :: .long x :: rest)) X.here hx rfl hd rfl (hr ▸ k)
theorem lor (n : Nat) (X : Stand p l e R s m args below meth c T locs cells slots) (hx : p.tables.exec = Jvm.exec) {x y r : Int64} {rest : List Value} (hd : decode c.code pc = .ok (.lor, 1)) (hn : pc + 1 = n) (hr : x ||| y = r) (K : Ends p.tables e below s Q C S (T.setTop (mkF m n Ls (.long r :: rest)))) : Ends p.tables e below s Q C S (T.setTop (mkF m pc Ls (.long y :: .long x :: rest))) := by
  subst hn; exact K.step fun t k => XS.lor (g := mkF m pc Ls (.long y :: .long x :: rest)) X.here hx rfl hd rfl (hr ▸ k)
theorem lxor (n : Nat) (X : Stand p l e R s m args below meth c T locs cells slots) (hx : p.tables.exec = Jvm.exec) {x y r : Int64} {rest : List Value} (hd : decode c.code pc = .ok (.lxor, 1)) (hn : pc + 1 = n) (hr : x ^^^ y = r) (K : Ends p.tables e below s Q C S (T.setTop (mkF m n Ls (.long r :: rest)))) : Ends p.tables e below s Q C S (T.setTop (mkF m pc Ls (.long y :: .long x :: rest))) := by
  subst hn; exact K.step fun t k => XS.lxor (g := mkF m pc Ls (.long y :: .long x :: rest)) X.here hx rfl hd rfl (hr ▸ k)
theorem lshl (n : Nat) (X : Stand p l e R s m args below meth c T locs cells slots) (hx : p.tables.exec = Jvm.exec) {x r : Int64} {y : Int32} {rest : List Value} (hd : decode c.code pc = .ok (.lshl, 1)) (hn : pc + 1 = n) (hr : x <<< (y &&& 0x3f).toInt64 = r) (K : Ends p.tables e below s Q C S (T.setTop (mkF m n Ls (.long r :: rest)))) : Ends p.tables e below s Q C S (T.setTop (mkF m pc Ls (.int y :: .long x :: rest))) := by
  subst hn; exact K.step fun t k => XS.lshl (g := mkF m pc Ls (.int y :: .long x :: rest)) X.here hx rfl hd rfl (hr ▸ k)
theorem lshr (n : Nat) (X : Stand p l e R s m args below meth c T locs cells slots) (hx : p.tables.exec = Jvm.exec) {x r : Int64} {y : Int32} {rest : List Value} (hd : decode c.code pc = .ok (.lshr, 1)) (hn : pc + 1 = n) (hr : x >>> (y &&& 0x3f).toInt64 = r) (K : Ends p.tables e below s Q C S (T.setTop (mkF m n Ls (.long r :: rest)))) : Ends p.tables e below s Q C S (T.setTop (mkF m pc Ls (.int y :: .long x :: rest))) := by
  subst hn; exact K.step fun t k => XS.lshr (g := mkF m pc Ls (.int y :: .long x :: rest)) X.here hx rfl hd rfl (hr ▸ k)
theorem lushr (n : Nat) (X : Stand p l e R s m args below meth c T locs cells slots) (hx : p.tables.exec = Jvm.exec) {x r : Int64} {y : Int32} {rest : List Value} (hd : decode c.code pc = .ok (.lushr, 1)) (hn : pc + 1 = n) (hr : (x.toUInt64 >>> (y &&& 0x3f).toInt64.toUInt64).toInt64 = r) (K : Ends p.tables e below s Q C S (T.setTop (mkF m n Ls (.long r :: rest)))) : Ends p.tables e below s Q C S (T.setTop (mkF m pc Ls (.int y :: .long x :: rest))) := by
  subst hn; exact K.step fun t k => XS.lushr (g := mkF m pc Ls (.int y :: .long x :: rest)) X.here hx rfl hd rfl (hr ▸ k)
theorem idiv (n : Nat) (X : Stand p l e R s m args below meth c T locs cells slots) (hx : p.tables.exec = Jvm.exec) {x y r : Int32} {rest : List Value} (hd : decode c.code pc = .ok (.idiv, 1)) (hn : pc + 1 = n) (hy : y ≠ 0) (hr : x / y = r) (K : Ends p.tables e below s Q C S (T.setTop (mkF m n Ls (.int r :: rest)))) : Ends p.tables e below s Q C S (T.setTop (mkF m pc Ls (.int y :: .int x :: rest))) := by
  subst hn; exact K.step fun t k => XS.idiv (g := mkF m pc Ls (.int y :: .int x :: rest)) X.here hx rfl hd rfl hy (hr ▸ k)
theorem irem (n : Nat) (X : Stand p l e R s m args below meth c T locs cells slots) (hx : p.tables.exec = Jvm.exec) {x y r : Int32} {rest : List Value} (hd : decode c.code pc = .ok (.irem, 1)) (hn : pc + 1 = n) (hy : y ≠ 0) (hr : x % y = r) (K : Ends p.tables e below s Q C S (T.setTop (mkF m n Ls (.int r :: rest)))) : Ends p.tables e below s Q C S (T.setTop (mkF m pc Ls (.int y :: .int x :: rest))) := by
  subst hn; exact K.step fun t k => iremM (g := mkF m pc Ls (.int y :: .int x :: rest)) X hx rfl hd rfl hy (hr ▸ k)
theorem ldiv (n : Nat) (X : Stand p l e R s m args below meth c T locs cells slots) (hx : p.tables.exec = Jvm.exec) {x y r : Int64} {rest : List Value} (hd : decode c.code pc = .ok (.ldiv, 1)) (hn : pc + 1 = n) (hy : y ≠ 0) (hr : x / y = r) (K : Ends p.tables e below s Q C S (T.setTop (mkF m n Ls (.long r :: rest)))) : Ends p.tables e below s Q C S (T.setTop (mkF m pc Ls (.long y :: .long x :: rest))) := by
  subst hn; exact K.step fun t k => XS.ldiv (g := mkF m pc Ls (.long y :: .long x :: rest)) X.here hx rfl hd rfl hy (hr ▸ k)
theorem lrem (n : Nat) (X : Stand p l e R s m args below meth c T locs cells slots) (hx : p.tables.exec = Jvm.exec) {x y r : Int64} {rest : List Value} (hd : decode c.code pc = .ok (.lrem, 1)) (hn : pc + 1 = n) (hy : y ≠ 0) (hr : x % y = r) (K : Ends p.tables e below s Q C S (T.setTop (mkF m n Ls (.long r :: rest)))) : Ends p.tables e below s Q C S (T.setTop (mkF m pc Ls (.long y :: .long x :: rest))) := by
  subst hn; exact K.step fun t k => XS.lrem (g := mkF m pc Ls (.long y :: .long x :: rest)) X.here hx rfl hd rfl hy (by rw [lrem_mod, hr]; exact k)
theorem ineg (n : Nat) (X : Stand p l e R s m args below meth c T locs cells slots) (hx : p.tables.exec = Jvm.exec) {x : Int32} {r : Int32} {rest : List Value} (hd : decode c.code pc = .ok (.ineg, 1)) (hn : pc + 1 = n) (hr : -x = r) (K : Ends p.tables e below s Q C S (T.setTop (mkF m n Ls (.int r :: rest)))) : Ends p.tables e below s Q C S (T.setTop (mkF m pc Ls (.int x :: rest))) := by
  subst hn; exact K.step fun t k => XS.ineg (g := mkF m pc Ls (.int x :: rest)) X.here hx rfl hd rfl (hr ▸ k)
theorem lneg (n : Nat) (X : Stand p l e R s m args below meth c T locs cells slots) (hx : p.tables.exec = Jvm.exec) {x : Int64} {r : Int64} {rest : List Value} (hd : decode c.code pc = .ok (.lneg, 1)) (hn : pc + 1 = n) (hr : -x = r) (K : Ends p.tables e below s Q C S (T.setTop (mkF m n Ls (.long r :: rest)))) : Ends p.tables e below s Q C S (T.setTop (mkF m pc Ls (.long x :: rest))) := by
  subst hn; exact K.step fun t k => XS.lneg (g := mkF m pc Ls (.long x :: rest)) X.here hx rfl hd rfl (hr ▸ k)
theorem i2l (n : Nat) (X : Stand p l e R s m args below meth c T locs cells slots) (hx : p.tables.exec = Jvm.exec) {x : Int32} {r : Int64} {rest : List Value} (hd : decode c.code pc = .ok (.i2l, 1)) (hn : pc + 1 = n) (hr : x.toInt64 = r) (K : Ends p.tables e below s Q C S (T.setTop (mkF m n Ls (.long r :: rest)))) : Ends p.tables e below s Q C S (T.setTop (mkF m pc Ls (.int x :: rest))) := by
  subst hn; exact K.step fun t k => XS.i2l (g := mkF m pc Ls (.int x :: rest)) X.here hx rfl hd rfl (hr ▸ k)
theorem l2i (n : Nat) (X : Stand p l e R s m args below meth c T locs cells slots) (hx : p.tables.exec = Jvm.exec) {x : Int64} {r : Int32} {rest : List Value} (hd : decode c.code pc = .ok (.l2i, 1)) (hn : pc + 1 = n) (hr : x.toInt32 = r) (K : Ends p.tables e below s Q C S (T.setTop (mkF m n Ls (.int r :: rest)))) : Ends p.tables e below s Q C S (T.setTop (mkF m pc Ls (.long x :: rest))) := by
  subst hn; exact K.step fun t k => XS.l2i (g := mkF m pc Ls (.long x :: rest)) X.here hx rfl hd rfl (hr ▸ k)
theorem i2b (n : Nat) (X : Stand p l e R s m args below meth c T locs cells slots) (hx : p.tables.exec = Jvm.exec) {x : Int32} {r : Int32} {rest : List Value} (hd : decode c.code pc = .ok (.i2b, 1)) (hn : pc + 1 = n) (hr : x.toInt8.toInt32 = r) (K : Ends p.tables e below s Q C S (T.setTop (mkF m n Ls (.int r :: rest)))) : Ends p.tables e below s Q C S (T.setTop (mkF m pc Ls (.int x :: rest))) := by
  subst hn; exact K.step fun t k => XS.i2b (g := mkF m pc Ls (.int x :: rest)) X.here hx rfl hd rfl (hr ▸ k)
theorem i2c (n : Nat) (X : Stand p l e R s m args below meth c T locs cells slots) (hx : p.tables.exec = Jvm.exec) {x : Int32} {r : Int32} {rest : List Value} (hd : decode c.code pc = .ok (.i2c, 1)) (hn : pc + 1 = n) (hr : x.toUInt32.toUInt16.toUInt32.toInt32 = r) (K : Ends p.tables e below s Q C S (T.setTop (mkF m n Ls (.int r :: rest)))) : Ends p.tables e below s Q C S (T.setTop (mkF m pc Ls (.int x :: rest))) := by
  subst hn; exact K.step fun t k => XS.i2c (g := mkF m pc Ls (.int x :: rest)) X.here hx rfl hd rfl (hr ▸ k)
theorem i2s (n : Nat) (X : Stand p l e R s m args below meth c T locs cells slots) (hx : p.tables.exec = Jvm.exec) {x : Int32} {r : Int32} {rest : List Value} (hd : decode c.code pc = .ok (.i2s, 1)) (hn : pc + 1 = n) (hr : x.toInt16.toInt32 = r) (K : Ends p.tables e below s Q C S (T.setTop (mkF m n Ls (.int r :: rest)))) : Ends p.tables e below s Q C S (T.setTop (mkF m pc Ls (.int x :: rest))) := by
  subst hn; exact K.step fun t k => XS.i2s (g := mkF m pc Ls (.int x :: rest)) X.here hx rfl hd rfl (hr ▸ k)
theorem dup (n : Nat) (X : Stand p l e R s m args below meth c T locs cells slots) (hx : p.tables.exec = Jvm.exec) {x : Value} {rest : List Value} (hd : decode c.code pc = .ok (.dup, 1)) (hn : pc + 1 = n) (hc : x.category = 1) (K : Ends p.tables e below s Q C S (T.setTop (mkF m n Ls (x :: x :: rest)))) : Ends p.tables e below s Q C S (T.setTop (mkF m pc Ls (x :: rest))) := by
  subst hn; exact K.step fun t k => XS.dup (g := mkF m pc Ls (x :: rest)) X.here hx rfl hd rfl hc k
theorem pop (n : Nat) (X : Stand p l e R s m args below meth c T locs cells slots) (hx : p.tables.exec = Jvm.exec) {x : Value} {rest : List Value} (hd : decode c.code pc = .ok (.pop, 1)) (hn : pc + 1 = n) (hc : x.category = 1) (K : Ends p.tables e below s Q C S (T.setTop (mkF m n Ls (rest)))) : Ends p.tables e below s Q C S (T.setTop (mkF m pc Ls (x :: rest))) := by
  subst hn; exact K.step fun t k => XS.pop (g := mkF m pc Ls (x :: rest)) X.here hx rfl hd rfl hc k
theorem dupX1 (n : Nat) (X : Stand p l e R s m args below meth c T locs cells slots) (hx : p.tables.exec = Jvm.exec) {x y : Value} {rest : List Value} (hd : decode c.code pc = .ok (.dup_x1, 1)) (hn : pc + 1 = n) (hc : x.category = 1) (hc2 : y.category = 1) (K : Ends p.tables e below s Q C S (T.setTop (mkF m n Ls (x :: y :: x :: rest)))) : Ends p.tables e below s Q C S (T.setTop (mkF m pc Ls (x :: y :: rest))) := by
  subst hn; exact K.step fun t k => XS.dupX1 (g := mkF m pc Ls (x :: y :: rest)) X.here hx rfl hd rfl hc hc2 k
theorem istore (n : Nat) (F : Int32 → Array Slot) (X : Stand p l e R s m args below meth c T locs cells slots) (hx : p.tables.exec = Jvm.exec) {k : Nat} {x : Int32} {rest : List Value} (hd : decode c.code pc = .ok (.istore k, 2)) (hn : pc + 2 = n) (hl : ∀ z, storeLocals Ls k (.int z) = some (F z)) (K : ∀ z, z = x → Ends p.tables e below s Q C S (T.setTop (mkF m n (F z) (rest)))) : Ends p.tables e below s Q C S (T.setTop (mkF m pc Ls (.int x :: rest))) := by
  subst hn; exact (K x rfl).step fun t k => XS.istore (g := mkF m pc Ls (.int x :: rest)) X.here hx rfl hd rfl (hl x) k
theorem istoreV (n : Nat) (L1 : Array Slot) (X : Stand p l e R s m args below meth c T locs cells slots) (hx : p.tables.exec = Jvm.exec) {k : Nat} {x : Int32} {rest : List Value} (hd : decode c.code pc = .ok (.istore k, 2)) (hn : pc + 2 = n) (hl : storeLocals Ls k (.int x) = some L1) (K : Ends p.tables e below s Q C S (T.setTop (mkF m n L1 (rest)))) : Ends p.tables e below s Q C S (T.setTop (mkF m pc Ls (.int x :: rest))) := by
  subst hn; exact K.step fun t k => XS.istore (g := mkF m pc Ls (.int x :: rest)) X.here hx rfl hd rfl hl k
theorem istoreN (n : Nat) (F : Int32 → Array Slot) (X : Stand p l e R s m args below meth c T locs cells slots) (hx : p.tables.exec = Jvm.exec) {k : Fin 4} {x : Int32} {rest : List Value} (hd : decode c.code pc = .ok (.istore_n k, 1)) (hn : pc + 1 = n) (hl : ∀ z, storeLocals Ls k.val (.int z) = some (F z)) (K : ∀ z, z = x → Ends p.tables e below s Q C S (T.setTop (mkF m n (F z) (rest)))) : Ends p.tables e below s Q C S (T.setTop (mkF m pc Ls (.int x :: rest))) := by
  subst hn; exact (K x rfl).step fun t k => XS.istoreN (g := mkF m pc Ls (.int x :: rest)) X.here hx rfl hd rfl (hl x) k
theorem istoreNV (n : Nat) (L1 : Array Slot) (X : Stand p l e R s m args below meth c T locs cells slots) (hx : p.tables.exec = Jvm.exec) {k : Fin 4} {x : Int32} {rest : List Value} (hd : decode c.code pc = .ok (.istore_n k, 1)) (hn : pc + 1 = n) (hl : storeLocals Ls k.val (.int x) = some L1) (K : Ends p.tables e below s Q C S (T.setTop (mkF m n L1 (rest)))) : Ends p.tables e below s Q C S (T.setTop (mkF m pc Ls (.int x :: rest))) := by
  subst hn; exact K.step fun t k => XS.istoreN (g := mkF m pc Ls (.int x :: rest)) X.here hx rfl hd rfl hl k
theorem lstore (n : Nat) (F : Int64 → Array Slot) (X : Stand p l e R s m args below meth c T locs cells slots) (hx : p.tables.exec = Jvm.exec) {k : Nat} {x : Int64} {rest : List Value} (hd : decode c.code pc = .ok (.lstore k, 2)) (hn : pc + 2 = n) (hl : ∀ z, storeLocals Ls k (.long z) = some (F z)) (K : ∀ z, z = x → Ends p.tables e below s Q C S (T.setTop (mkF m n (F z) (rest)))) : Ends p.tables e below s Q C S (T.setTop (mkF m pc Ls (.long x :: rest))) := by
  subst hn; exact (K x rfl).step fun t k => XS.lstore (g := mkF m pc Ls (.long x :: rest)) X.here hx rfl hd rfl (hl x) k
theorem lstoreV (n : Nat) (L1 : Array Slot) (X : Stand p l e R s m args below meth c T locs cells slots) (hx : p.tables.exec = Jvm.exec) {k : Nat} {x : Int64} {rest : List Value} (hd : decode c.code pc = .ok (.lstore k, 2)) (hn : pc + 2 = n) (hl : storeLocals Ls k (.long x) = some L1) (K : Ends p.tables e below s Q C S (T.setTop (mkF m n L1 (rest)))) : Ends p.tables e below s Q C S (T.setTop (mkF m pc Ls (.long x :: rest))) := by
  subst hn; exact K.step fun t k => XS.lstore (g := mkF m pc Ls (.long x :: rest)) X.here hx rfl hd rfl hl k
theorem lstoreN (n : Nat) (F : Int64 → Array Slot) (X : Stand p l e R s m args below meth c T locs cells slots) (hx : p.tables.exec = Jvm.exec) {k : Fin 4} {x : Int64} {rest : List Value} (hd : decode c.code pc = .ok (.lstore_n k, 1)) (hn : pc + 1 = n) (hl : ∀ z, storeLocals Ls k.val (.long z) = some (F z)) (K : ∀ z, z = x → Ends p.tables e below s Q C S (T.setTop (mkF m n (F z) (rest)))) : Ends p.tables e below s Q C S (T.setTop (mkF m pc Ls (.long x :: rest))) := by
  subst hn; exact (K x rfl).step fun t k => XS.lstoreN (g := mkF m pc Ls (.long x :: rest)) X.here hx rfl hd rfl (hl x) k
theorem lstoreNV (n : Nat) (L1 : Array Slot) (X : Stand p l e R s m args below meth c T locs cells slots) (hx : p.tables.exec = Jvm.exec) {k : Fin 4} {x : Int64} {rest : List Value} (hd : decode c.code pc = .ok (.lstore_n k, 1)) (hn : pc + 1 = n) (hl : storeLocals Ls k.val (.long x) = some L1) (K : Ends p.tables e below s Q C S (T.setTop (mkF m n L1 (rest)))) : Ends p.tables e below s Q C S (T.setTop (mkF m pc Ls (.long x :: rest))) := by
  subst hn; exact K.step fun t k => XS.lstoreN (g := mkF m pc Ls (.long x :: rest)) X.here hx rfl hd rfl hl k
theorem astore (n : Nat) (L1 : Array Slot) (X : Stand p l e R s m args below meth c T locs cells slots) (hx : p.tables.exec = Jvm.exec) {k : Nat} {x : Value} {rest : List Value} (hd : decode c.code pc = .ok (.astore k, 2)) (hn : pc + 2 = n) (hv : x.isRef = true) (hl : storeLocals Ls k x = some L1) (K : Ends p.tables e below s Q C S (T.setTop (mkF m n L1 (rest)))) : Ends p.tables e below s Q C S (T.setTop (mkF m pc Ls (x :: rest))) := by
  subst hn; exact K.step fun t k => XS.astore (g := mkF m pc Ls (x :: rest)) X.here hx rfl hd rfl hv hl k
theorem astoreN (n : Nat) (L1 : Array Slot) (X : Stand p l e R s m args below meth c T locs cells slots) (hx : p.tables.exec = Jvm.exec) {k : Fin 4} {x : Value} {rest : List Value} (hd : decode c.code pc = .ok (.astore_n k, 1)) (hn : pc + 1 = n) (hv : x.isRef = true) (hl : storeLocals Ls k.val x = some L1) (K : Ends p.tables e below s Q C S (T.setTop (mkF m n L1 (rest)))) : Ends p.tables e below s Q C S (T.setTop (mkF m pc Ls (x :: rest))) := by
  subst hn; exact K.step fun t k => XS.astoreN (g := mkF m pc Ls (x :: rest)) X.here hx rfl hd rfl hv hl k
theorem iinc (n : Nat) (F : Int32 → Array Slot) (X : Stand p l e R s m args below meth c T locs cells slots) (hx : p.tables.exec = Jvm.exec) {k : Nat} {cst : Int} {x : Int32} (d : Int32) (hd : decode c.code pc = .ok (.iinc k cst, 3)) (hn : pc + 3 = n) (hc : Int32.ofInt cst = d) (hl : Ls[k]? = some (.val (.int x))) (hl2 : ∀ z, storeLocals Ls k (.int z) = some (F z)) (K : ∀ z, z = x + d → Ends p.tables e below s Q C S (T.setTop (mkF m n (F z) (st)))) : Ends p.tables e below s Q C S (T.setTop (mkF m pc Ls (st))) := by
  subst hn hc; exact (K _ rfl).step fun t k => XS.iinc (g := mkF m pc Ls st) X.here hx rfl hd hl (hl2 _) k
theorem goto (n : Nat) (X : Stand p l e R s m args below meth c T locs cells slots) (hx : p.tables.exec = Jvm.exec) {o : Int} (hd : decode c.code pc = .ok (.goto o, 3)) (hn : 0 ≤ (pc : Int) + o ∧ ((pc : Int) + o).toNat = n) (K : Ends p.tables e below s Q C S (T.setTop (mkF m n Ls (st)))) : Ends p.tables e below s Q C S (T.setTop (mkF m pc Ls (st))) :=
  K.step fun t k => XS.goto (g := mkF m pc Ls st) X.here hx rfl (pc0 := pc) (pc' := n) rfl hd hn.1 hn.2 k
theorem icmpB (nY nN : Nat) (X : Stand p l e R s m args below meth c T locs cells slots) (hx : p.tables.exec = Jvm.exec) {cd : ClassFile.Cond} {o : Int} {x y : Int32} {rest : List Value} (hd : decode c.code pc = .ok (.if_icmp cd o, 3)) (hY : 0 ≤ (pc : Int) + o ∧ ((pc : Int) + o).toNat = nY) (hN : pc + 3 = nN) (KY : if_icmp.holds cd x y = true → Ends p.tables e below s Q C S (T.setTop (mkF m nY Ls (rest)))) (KN : if_icmp.holds cd x y = false → Ends p.tables e below s Q C S (T.setTop (mkF m nN Ls (rest)))) : Ends p.tables e below s Q C S (T.setTop (mkF m pc Ls (.int y :: .int x :: rest))) := by
  subst hN
  cases hb : if_icmp.holds cd x y with
  | true => exact (KY hb).step fun t k => XS.icmpYes (g := mkF m pc Ls (.int y :: .int x :: rest)) X.here hx rfl (pc0 := pc) (pc' := nY) rfl hd rfl hb hY.1 hY.2 k
  | false => exact (KN hb).step fun t k => XS.icmpNo (g := mkF m pc Ls (.int y :: .int x :: rest)) X.here hx rfl hd rfl hb k
theorem ifB (nY nN : Nat) (X : Stand p l e R s m args below meth c T locs cells slots) (hx : p.tables.exec = Jvm.exec) {cd : ClassFile.Cond} {o : Int} {x : Int32} {rest : List Value} (hd : decode c.code pc = .ok (.ifCond cd o, 3)) (hY : 0 ≤ (pc : Int) + o ∧ ((pc : Int) + o).toNat = nY) (hN : pc + 3 = nN) (KY : if_icmp.holds cd x 0 = true → Ends p.tables e below s Q C S (T.setTop (mkF m nY Ls (rest)))) (KN : if_icmp.holds cd x 0 = false → Ends p.tables e below s Q C S (T.setTop (mkF m nN Ls (rest)))) : Ends p.tables e below s Q C S (T.setTop (mkF m pc Ls (.int x :: rest))) := by
  subst hN
  cases hb : if_icmp.holds cd x 0 with
  | true => exact (KY hb).step fun t k => XS.ifYes (g := mkF m pc Ls (.int x :: rest)) X.here hx rfl (pc0 := pc) (pc' := nY) rfl hd rfl ((if0 _ _).trans hb) hY.1 hY.2 k
  | false => exact (KN hb).step fun t k => XS.ifNo (g := mkF m pc Ls (.int x :: rest)) X.here hx rfl hd rfl ((if0 _ _).trans hb) k
theorem h_lt {x y : Int32} : (if_icmp.holds .lt x y = true → x < y) ∧ (if_icmp.holds .lt x y = false → ¬ x < y) := by simp [if_icmp.holds]
theorem h_ge {x y : Int32} : (if_icmp.holds .ge x y = true → ¬ x < y) ∧ (if_icmp.holds .ge x y = false → x < y) := by simp [if_icmp.holds, Int32.not_lt, Int32.not_le]
theorem h_gt {x y : Int32} : (if_icmp.holds .gt x y = true → y < x) ∧ (if_icmp.holds .gt x y = false → ¬ y < x) := by simp [if_icmp.holds, Int32.not_lt, Int32.not_le]
theorem h_le {x y : Int32} : (if_icmp.holds .le x y = true → ¬ y < x) ∧ (if_icmp.holds .le x y = false → y < x) := by simp [if_icmp.holds, Int32.not_lt, Int32.not_le]
theorem h_eq {x y : Int32} : (if_icmp.holds .eq x y = true → x = y) ∧ (if_icmp.holds .eq x y = false → ¬ x = y) := by simp [if_icmp.holds]
theorem h_ne {x y : Int32} : (if_icmp.holds .ne x y = true → ¬ x = y) ∧ (if_icmp.holds .ne x y = false → x = y) := by simp [if_icmp.holds]
theorem icmp_lt (nY nN : Nat) (X : Stand p l e R s m args below meth c T locs cells slots) (hx : p.tables.exec = Jvm.exec) {o : Int} {x y : Int32} {rest : List Value} (hd : decode c.code pc = .ok (.if_icmp .lt o, 3)) (hY : 0 ≤ (pc : Int) + o ∧ ((pc : Int) + o).toNat = nY) (hN : pc + 3 = nN) (KY : x < y → Ends p.tables e below s Q C S (T.setTop (mkF m nY Ls (rest)))) (KN : ¬ x < y → Ends p.tables e below s Q C S (T.setTop (mkF m nN Ls (rest)))) : Ends p.tables e below s Q C S (T.setTop (mkF m pc Ls (.int y :: .int x :: rest))) :=
  icmpB nY nN X hx hd hY hN (fun hb => KY (h_lt.1 hb)) (fun hb => KN (h_lt.2 hb))
theorem if_lt (nY nN : Nat) (X : Stand p l e R s m args below meth c T locs cells slots) (hx : p.tables.exec = Jvm.exec) {o : Int} {x : Int32} {rest : List Value} (hd : decode c.code pc = .ok (.ifCond .lt o, 3)) (hY : 0 ≤ (pc : Int) + o ∧ ((pc : Int) + o).toNat = nY) (hN : pc + 3 = nN) (KY : x < 0 → Ends p.tables e below s Q C S (T.setTop (mkF m nY Ls (rest)))) (KN : ¬ x < 0 → Ends p.tables e below s Q C S (T.setTop (mkF m nN Ls (rest)))) : Ends p.tables e below s Q C S (T.setTop (mkF m pc Ls (.int x :: rest))) :=
  ifB nY nN X hx hd hY hN (fun hb => KY (h_lt.1 hb)) (fun hb => KN (h_lt.2 hb))
theorem icmp_ge (nY nN : Nat) (X : Stand p l e R s m args below meth c T locs cells slots) (hx : p.tables.exec = Jvm.exec) {o : Int} {x y : Int32} {rest : List Value} (hd : decode c.code pc = .ok (.if_icmp .ge o, 3)) (hY : 0 ≤ (pc : Int) + o ∧ ((pc : Int) + o).toNat = nY) (hN : pc + 3 = nN) (KY : ¬ x < y → Ends p.tables e below s Q C S (T.setTop (mkF m nY Ls (rest)))) (KN : x < y → Ends p.tables e below s Q C S (T.setTop (mkF m nN Ls (rest)))) : Ends p.tables e below s Q C S (T.setTop (mkF m pc Ls (.int y :: .int x :: rest))) :=
  icmpB nY nN X hx hd hY hN (fun hb => KY (h_ge.1 hb)) (fun hb => KN (h_ge.2 hb))
theorem if_ge (nY nN : Nat) (X : Stand p l e R s m args below meth c T locs cells slots) (hx : p.tables.exec = Jvm.exec) {o : Int} {x : Int32} {rest : List Value} (hd : decode c.code pc = .ok (.ifCond .ge o, 3)) (hY : 0 ≤ (pc : Int) + o ∧ ((pc : Int) + o).toNat = nY) (hN : pc + 3 = nN) (KY : ¬ x < 0 → Ends p.tables e below s Q C S (T.setTop (mkF m nY Ls (rest)))) (KN : x < 0 → Ends p.tables e below s Q C S (T.setTop (mkF m nN Ls (rest)))) : Ends p.tables e below s Q C S (T.setTop (mkF m pc Ls (.int x :: rest))) :=
  ifB nY nN X hx hd hY hN (fun hb => KY (h_ge.1 hb)) (fun hb => KN (h_ge.2 hb))
theorem icmp_gt (nY nN : Nat) (X : Stand p l e R s m args below meth c T locs cells slots) (hx : p.tables.exec = Jvm.exec) {o : Int} {x y : Int32} {rest : List Value} (hd : decode c.code pc = .ok (.if_icmp .gt o, 3)) (hY : 0 ≤ (pc : Int) + o ∧ ((pc : Int) + o).toNat = nY) (hN : pc + 3 = nN) (KY : y < x → Ends p.tables e below s Q C S (T.setTop (mkF m nY Ls (rest)))) (KN : ¬ y < x → Ends p.tables e below s Q C S (T.setTop (mkF m nN Ls (rest)))) : Ends p.tables e below s Q C S (T.setTop (mkF m pc Ls (.int y :: .int x :: rest))) :=
  icmpB nY nN X hx hd hY hN (fun hb => KY (h_gt.1 hb)) (fun hb => KN (h_gt.2 hb))
theorem if_gt (nY nN : Nat) (X : Stand p l e R s m args below meth c T locs cells slots) (hx : p.tables.exec = Jvm.exec) {o : Int} {x : Int32} {rest : List Value} (hd : decode c.code pc = .ok (.ifCond .gt o, 3)) (hY : 0 ≤ (pc : Int) + o ∧ ((pc : Int) + o).toNat = nY) (hN : pc + 3 = nN) (KY : 0 < x → Ends p.tables e below s Q C S (T.setTop (mkF m nY Ls (rest)))) (KN : ¬ 0 < x → Ends p.tables e below s Q C S (T.setTop (mkF m nN Ls (rest)))) : Ends p.tables e below s Q C S (T.setTop (mkF m pc Ls (.int x :: rest))) :=
  ifB nY nN X hx hd hY hN (fun hb => KY (h_gt.1 hb)) (fun hb => KN (h_gt.2 hb))
theorem icmp_le (nY nN : Nat) (X : Stand p l e R s m args below meth c T locs cells slots) (hx : p.tables.exec = Jvm.exec) {o : Int} {x y : Int32} {rest : List Value} (hd : decode c.code pc = .ok (.if_icmp .le o, 3)) (hY : 0 ≤ (pc : Int) + o ∧ ((pc : Int) + o).toNat = nY) (hN : pc + 3 = nN) (KY : ¬ y < x → Ends p.tables e below s Q C S (T.setTop (mkF m nY Ls (rest)))) (KN : y < x → Ends p.tables e below s Q C S (T.setTop (mkF m nN Ls (rest)))) : Ends p.tables e below s Q C S (T.setTop (mkF m pc Ls (.int y :: .int x :: rest))) :=
  icmpB nY nN X hx hd hY hN (fun hb => KY (h_le.1 hb)) (fun hb => KN (h_le.2 hb))
theorem if_le (nY nN : Nat) (X : Stand p l e R s m args below meth c T locs cells slots) (hx : p.tables.exec = Jvm.exec) {o : Int} {x : Int32} {rest : List Value} (hd : decode c.code pc = .ok (.ifCond .le o, 3)) (hY : 0 ≤ (pc : Int) + o ∧ ((pc : Int) + o).toNat = nY) (hN : pc + 3 = nN) (KY : ¬ 0 < x → Ends p.tables e below s Q C S (T.setTop (mkF m nY Ls (rest)))) (KN : 0 < x → Ends p.tables e below s Q C S (T.setTop (mkF m nN Ls (rest)))) : Ends p.tables e below s Q C S (T.setTop (mkF m pc Ls (.int x :: rest))) :=
  ifB nY nN X hx hd hY hN (fun hb => KY (h_le.1 hb)) (fun hb => KN (h_le.2 hb))
theorem icmp_eq (nY nN : Nat) (X : Stand p l e R s m args below meth c T locs cells slots) (hx : p.tables.exec = Jvm.exec) {o : Int} {x y : Int32} {rest : List Value} (hd : decode c.code pc = .ok (.if_icmp .eq o, 3)) (hY : 0 ≤ (pc : Int) + o ∧ ((pc : Int) + o).toNat = nY) (hN : pc + 3 = nN) (KY : x = y → Ends p.tables e below s Q C S (T.setTop (mkF m nY Ls (rest)))) (KN : ¬ x = y → Ends p.tables e below s Q C S (T.setTop (mkF m nN Ls (rest)))) : Ends p.tables e below s Q C S (T.setTop (mkF m pc Ls (.int y :: .int x :: rest))) :=
  icmpB nY nN X hx hd hY hN (fun hb => KY (h_eq.1 hb)) (fun hb => KN (h_eq.2 hb))
theorem if_eq (nY nN : Nat) (X : Stand p l e R s m args below meth c T locs cells slots) (hx : p.tables.exec = Jvm.exec) {o : Int} {x : Int32} {rest : List Value} (hd : decode c.code pc = .ok (.ifCond .eq o, 3)) (hY : 0 ≤ (pc : Int) + o ∧ ((pc : Int) + o).toNat = nY) (hN : pc + 3 = nN) (KY : x = 0 → Ends p.tables e below s Q C S (T.setTop (mkF m nY Ls (rest)))) (KN : ¬ x = 0 → Ends p.tables e below s Q C S (T.setTop (mkF m nN Ls (rest)))) : Ends p.tables e below s Q C S (T.setTop (mkF m pc Ls (.int x :: rest))) :=
  ifB nY nN X hx hd hY hN (fun hb => KY (h_eq.1 hb)) (fun hb => KN (h_eq.2 hb))
theorem icmp_ne (nY nN : Nat) (X : Stand p l e R s m args below meth c T locs cells slots) (hx : p.tables.exec = Jvm.exec) {o : Int} {x y : Int32} {rest : List Value} (hd : decode c.code pc = .ok (.if_icmp .ne o, 3)) (hY : 0 ≤ (pc : Int) + o ∧ ((pc : Int) + o).toNat = nY) (hN : pc + 3 = nN) (KY : ¬ x = y → Ends p.tables e below s Q C S (T.setTop (mkF m nY Ls (rest)))) (KN : x = y → Ends p.tables e below s Q C S (T.setTop (mkF m nN Ls (rest)))) : Ends p.tables e below s Q C S (T.setTop (mkF m pc Ls (.int y :: .int x :: rest))) :=
  icmpB nY nN X hx hd hY hN (fun hb => KY (h_ne.1 hb)) (fun hb => KN (h_ne.2 hb))
theorem if_ne (nY nN : Nat) (X : Stand p l e R s m args below meth c T locs cells slots) (hx : p.tables.exec = Jvm.exec) {o : Int} {x : Int32} {rest : List Value} (hd : decode c.code pc = .ok (.ifCond .ne o, 3)) (hY : 0 ≤ (pc : Int) + o ∧ ((pc : Int) + o).toNat = nY) (hN : pc + 3 = nN) (KY : ¬ x = 0 → Ends p.tables e below s Q C S (T.setTop (mkF m nY Ls (rest)))) (KN : x = 0 → Ends p.tables e below s Q C S (T.setTop (mkF m nN Ls (rest)))) : Ends p.tables e below s Q C S (T.setTop (mkF m pc Ls (.int x :: rest))) :=
  ifB nY nN X hx hd hY hN (fun hb => KY (h_ne.1 hb)) (fun hb => KN (h_ne.2 hb))
theorem w_lt {x y : Int64} : lcmpW x y < 0 → x < y := (lw_lt x y).mp
theorem w_nlt {x y : Int64} : ¬ lcmpW x y < 0 → ¬ x < y := fun q r => q ((lw_lt x y).mpr r)
theorem w_gt {x y : Int64} : 0 < lcmpW x y → y < x := (lw_gt x y).mp
theorem w_ngt {x y : Int64} : ¬ 0 < lcmpW x y → ¬ y < x := fun q r => q ((lw_gt x y).mpr r)
theorem w_eq {x y : Int64} : lcmpW x y = 0 → x = y := (lw_eq x y).mp
theorem w_neq {x y : Int64} : ¬ lcmpW x y = 0 → ¬ x = y := fun q r => q ((lw_eq x y).mpr r)
theorem lif_lt (nY nN : Nat) (X : Stand p l e R s m args below meth c T locs cells slots) (hx : p.tables.exec = Jvm.exec) {o : Int} {x y : Int64} {rest : List Value} (hd0 : decode c.code pc = .ok (.lcmp, 1)) {pc1 : Nat} (hp : pc + 1 = pc1) (hd : decode c.code pc1 = .ok (.ifCond .lt o, 3)) (hY : 0 ≤ (pc1 : Int) + o ∧ ((pc1 : Int) + o).toNat = nY) (hN : pc1 + 3 = nN) (KY : x < y → Ends p.tables e below s Q C S (T.setTop (mkF m nY Ls (rest)))) (KN : ¬ x < y → Ends p.tables e below s Q C S (T.setTop (mkF m nN Ls (rest)))) : Ends p.tables e below s Q C S (T.setTop (mkF m pc Ls (.long y :: .long x :: rest))) := by
  subst hp
  refine Ends.step ?_ fun t k => XS.lcmp (g := mkF m pc Ls (.long y :: .long x :: rest)) X.here hx rfl hd0 rfl k
  exact if_lt nY nN X hx hd hY hN (fun hb => KY (w_lt hb)) (fun hb => KN (w_nlt hb))
theorem lif_ge (nY nN : Nat) (X : Stand p l e R s m args below meth c T locs cells slots) (hx : p.tables.exec = Jvm.exec) {o : Int} {x y : Int64} {rest : List Value} (hd0 : decode c.code pc = .ok (.lcmp, 1)) {pc1 : Nat} (hp : pc + 1 = pc1) (hd : decode c.code pc1 = .ok (.ifCond .ge o, 3)) (hY : 0 ≤ (pc1 : Int) + o ∧ ((pc1 : Int) + o).toNat = nY) (hN : pc1 + 3 = nN) (KY : ¬ x < y → Ends p.tables e below s Q C S (T.setTop (mkF m nY Ls (rest)))) (KN : x < y → Ends p.tables e below s Q C S (T.setTop (mkF m nN Ls (rest)))) : Ends p.tables e below s Q C S (T.setTop (mkF m pc Ls (.long y :: .long x :: rest))) := by
  subst hp
  refine Ends.step ?_ fun t k => XS.lcmp (g := mkF m pc Ls (.long y :: .long x :: rest)) X.here hx rfl hd0 rfl k
  exact if_ge nY nN X hx hd hY hN (fun hb => KY (w_nlt hb)) (fun hb => KN (w_lt hb))
theorem lif_gt (nY nN : Nat) (X : Stand p l e R s m args below meth c T locs cells slots) (hx : p.tables.exec = Jvm.exec) {o : Int} {x y : Int64} {rest : List Value} (hd0 : decode c.code pc = .ok (.lcmp, 1)) {pc1 : Nat} (hp : pc + 1 = pc1) (hd : decode c.code pc1 = .ok (.ifCond .gt o, 3)) (hY : 0 ≤ (pc1 : Int) + o ∧ ((pc1 : Int) + o).toNat = nY) (hN : pc1 + 3 = nN) (KY : y < x → Ends p.tables e below s Q C S (T.setTop (mkF m nY Ls (rest)))) (KN : ¬ y < x → Ends p.tables e below s Q C S (T.setTop (mkF m nN Ls (rest)))) : Ends p.tables e below s Q C S (T.setTop (mkF m pc Ls (.long y :: .long x :: rest))) := by
  subst hp
  refine Ends.step ?_ fun t k => XS.lcmp (g := mkF m pc Ls (.long y :: .long x :: rest)) X.here hx rfl hd0 rfl k
  exact if_gt nY nN X hx hd hY hN (fun hb => KY (w_gt hb)) (fun hb => KN (w_ngt hb))
theorem lif_le (nY nN : Nat) (X : Stand p l e R s m args below meth c T locs cells slots) (hx : p.tables.exec = Jvm.exec) {o : Int} {x y : Int64} {rest : List Value} (hd0 : decode c.code pc = .ok (.lcmp, 1)) {pc1 : Nat} (hp : pc + 1 = pc1) (hd : decode c.code pc1 = .ok (.ifCond .le o, 3)) (hY : 0 ≤ (pc1 : Int) + o ∧ ((pc1 : Int) + o).toNat = nY) (hN : pc1 + 3 = nN) (KY : ¬ y < x → Ends p.tables e below s Q C S (T.setTop (mkF m nY Ls (rest)))) (KN : y < x → Ends p.tables e below s Q C S (T.setTop (mkF m nN Ls (rest)))) : Ends p.tables e below s Q C S (T.setTop (mkF m pc Ls (.long y :: .long x :: rest))) := by
  subst hp
  refine Ends.step ?_ fun t k => XS.lcmp (g := mkF m pc Ls (.long y :: .long x :: rest)) X.here hx rfl hd0 rfl k
  exact if_le nY nN X hx hd hY hN (fun hb => KY (w_ngt hb)) (fun hb => KN (w_gt hb))
theorem lif_eq (nY nN : Nat) (X : Stand p l e R s m args below meth c T locs cells slots) (hx : p.tables.exec = Jvm.exec) {o : Int} {x y : Int64} {rest : List Value} (hd0 : decode c.code pc = .ok (.lcmp, 1)) {pc1 : Nat} (hp : pc + 1 = pc1) (hd : decode c.code pc1 = .ok (.ifCond .eq o, 3)) (hY : 0 ≤ (pc1 : Int) + o ∧ ((pc1 : Int) + o).toNat = nY) (hN : pc1 + 3 = nN) (KY : x = y → Ends p.tables e below s Q C S (T.setTop (mkF m nY Ls (rest)))) (KN : ¬ x = y → Ends p.tables e below s Q C S (T.setTop (mkF m nN Ls (rest)))) : Ends p.tables e below s Q C S (T.setTop (mkF m pc Ls (.long y :: .long x :: rest))) := by
  subst hp
  refine Ends.step ?_ fun t k => XS.lcmp (g := mkF m pc Ls (.long y :: .long x :: rest)) X.here hx rfl hd0 rfl k
  exact if_eq nY nN X hx hd hY hN (fun hb => KY (w_eq hb)) (fun hb => KN (w_neq hb))
theorem lif_ne (nY nN : Nat) (X : Stand p l e R s m args below meth c T locs cells slots) (hx : p.tables.exec = Jvm.exec) {o : Int} {x y : Int64} {rest : List Value} (hd0 : decode c.code pc = .ok (.lcmp, 1)) {pc1 : Nat} (hp : pc + 1 = pc1) (hd : decode c.code pc1 = .ok (.ifCond .ne o, 3)) (hY : 0 ≤ (pc1 : Int) + o ∧ ((pc1 : Int) + o).toNat = nY) (hN : pc1 + 3 = nN) (KY : ¬ x = y → Ends p.tables e below s Q C S (T.setTop (mkF m nY Ls (rest)))) (KN : x = y → Ends p.tables e below s Q C S (T.setTop (mkF m nN Ls (rest)))) : Ends p.tables e below s Q C S (T.setTop (mkF m pc Ls (.long y :: .long x :: rest))) := by
  subst hp
  refine Ends.step ?_ fun t k => XS.lcmp (g := mkF m pc Ls (.long y :: .long x :: rest)) X.here hx rfl hd0 rfl k
  exact if_ne nY nN X hx hd hY hN (fun hb => KY (w_neq hb)) (fun hb => KN (w_eq hb))
theorem ifnull (nY nN : Nat) (X : Stand p l e R s m args below meth c T locs cells slots) (hx : p.tables.exec = Jvm.exec) {o : Int} {v : Value} {rest : List Value} (hd : decode c.code pc = .ok (.ifnull o, 3)) (hv : v.isRef = true) (hY : 0 ≤ (pc : Int) + o ∧ ((pc : Int) + o).toNat = nY) (hN : pc + 3 = nN) (KY : v = .null → Ends p.tables e below s Q C S (T.setTop (mkF m nY Ls (rest)))) (KN : ∀ a, v = .ref a → Ends p.tables e below s Q C S (T.setTop (mkF m nN Ls (rest)))) : Ends p.tables e below s Q C S (T.setTop (mkF m pc Ls (v :: rest))) := by
  subst hN
  rcases ref_cases hv with rfl | ⟨a, rfl⟩
  · exact (KY rfl).step fun t k => XS.ifnullYes (g := mkF m pc Ls (.null :: rest)) X.here hx rfl (pc0 := pc) (pc' := nY) rfl hd rfl hY.1 hY.2 k
  · exact (KN a rfl).step fun t k => XS.ifnullNo (g := mkF m pc Ls (.ref a :: rest)) X.here hx rfl hd rfl k
theorem ifnonnull (nY nN : Nat) (X : Stand p l e R s m args below meth c T locs cells slots) (hx : p.tables.exec = Jvm.exec) {o : Int} {v : Value} {rest : List Value} (hd : decode c.code pc = .ok (.ifnonnull o, 3)) (hv : v.isRef = true) (hY : 0 ≤ (pc : Int) + o ∧ ((pc : Int) + o).toNat = nY) (hN : pc + 3 = nN) (KY : ∀ a, v = .ref a → Ends p.tables e below s Q C S (T.setTop (mkF m nY Ls (rest)))) (KN : v = .null → Ends p.tables e below s Q C S (T.setTop (mkF m nN Ls (rest)))) : Ends p.tables e below s Q C S (T.setTop (mkF m pc Ls (v :: rest))) := by
  subst hN
  rcases ref_cases hv with rfl | ⟨a, rfl⟩
  · exact (KN rfl).step fun t k => XS.ifnonnullNo (g := mkF m pc Ls (.null :: rest)) X.here hx rfl hd rfl k
  · exact (KY a rfl).step fun t k => XS.ifnonnullYes (g := mkF m pc Ls (.ref a :: rest)) X.here hx rfl (pc0 := pc) (pc' := nY) rfl hd rfl hY.1 hY.2 k
theorem retI (X : Stand p l e R s m args below meth c T locs cells slots) (hx : p.tables.exec = Jvm.exec) {pc : Nat} {Ls : Array Slot} {z : Int32} {rest : List Value} (hret : meth.sig.returnType = some .int) (hd : decode c.code pc = .ok (.ireturn, 1)) {fs : List Frame}
    (hl : ∀ (f : JFrame) (acts : List Action), f.method = m → f.locked = none → f.entered = [] → (doReturn e (T.setTop f) acts (some (.int z))).1 = T.setFrames fs) : Steps p.tables e below (T.setTop (mkF m pc Ls (.int z :: rest))) (T.setFrames fs) := by
  have hm' : T.vm.method? m = some meth := X.method'
  have hn : narrow .int (.int z) = .int z := rfl
  show Steps p.tables e below (T.setTop { method := m, pc := pc, locals := Ls, stack := _ :: rest, locked := none }) _
  jvm_step X.here [X.here.top, hx, hd, hm', hret, hn]
  first | (intro acts; rw [hl _ acts rfl rfl rfl]) | rw [hl _ _ rfl rfl rfl]
  exact Steps.refl _
theorem fin {fs : List Frame} {v : Option Value} {U : State} (X : Stand p l e R s m args below meth c T locs cells slots) (hst : Steps p.tables e below U (T.setFrames fs)) (hrun : (T.setFrames fs).status = .running) (hend : Ended (T.setFrames fs) below (.returned v)) (hW : s.WarmedH (T.setFrames fs).vm) (hsame : s.sameButNew ({ T.setFrames fs with vm := s.vm } : State) locs cells slots) (q : Q v T.heap locs) (hC : cells ≤ C) (hS : slots ≤ S) : Ends p.tables e below s Q C S U :=
  ⟨_, _, hst, hrun, hend, _, _, rfl, q, ⟨_, rfl⟩, hW, hsame.mono hC hS⟩
theorem retInt (X : Stand p l e R s m args below meth c T locs cells slots) (hx : p.tables.exec = Jvm.exec) {z : Int32} {rest : List Value} (hlk : meth.locks = false) (hret : meth.sig.returnType = some .int) (hd : decode c.code pc = .ok (.ireturn, 1)) (hC : cells ≤ C) (hS : slots ≤ S) (q : Q (some (.int z)) T.heap locs) : Ends p.tables e below s Q C S (T.setTop (mkF m pc Ls (.int z :: rest))) := by
  obtain ⟨fs, hr, hrun, hended, hW, hsame⟩ := X.leave (v := some (.int z)) (fun h => by rw [hret] at h; cases h) hlk
  exact fin X (retI X hx hret hd hr) hrun hended hW hsame q hC hS
theorem retBool (X : Stand p l e R s m args below meth c T locs cells slots) (hx : p.tables.exec = Jvm.exec) {z : Int32} {rest : List Value} (hlk : meth.locks = false) (hret : meth.sig.returnType = some .boolean) (hd : decode c.code pc = .ok (.ireturn, 1)) (hC : cells ≤ C) (hS : slots ≤ S) (q : Q (some (.int (nar .boolean z))) T.heap locs) : Ends p.tables e below s Q C S (T.setTop (mkF m pc Ls (.int z :: rest))) := by
  obtain ⟨fs, hr, hrun, hended, hW, hsame⟩ := X.leave (v := some (.int (nar .boolean z))) (fun h => by rw [hret] at h; cases h) hlk
  exact fin X (retN X hx hret (Or.inl rfl) hd hr) hrun hended hW hsame q hC hS
theorem retLong (X : Stand p l e R s m args below meth c T locs cells slots) (hx : p.tables.exec = Jvm.exec) {z : Int64} (hlk : meth.locks = false) (hret : meth.sig.returnType = some .long) (hd : decode c.code pc = .ok (.lreturn, 1)) (hC : cells ≤ C) (hS : slots ≤ S) (q : Q (some (.long z)) T.heap locs) : Ends p.tables e below s Q C S (T.setTop (mkF m pc Ls ([.long z]))) := by
  obtain ⟨fs, hr, hrun, hended, hW, hsame⟩ := X.leave (v := some (.long z)) (fun h => by rw [hret] at h; cases h) hlk
  exact fin X (X.lreturnOut hx hret hd hr) hrun hended hW hsame q hC hS
theorem retRef (X : Stand p l e R s m args below meth c T locs cells slots) (hx : p.tables.exec = Jvm.exec) {v : Value} {t : FieldType} (hlk : meth.locks = false) (hv : v.isRef = true) (hret : meth.sig.returnType = some t) (ht : t.isReference = true) (hd : decode c.code pc = .ok (.areturn, 1)) (hC : cells ≤ C) (hS : slots ≤ S) (q : Q (some v) T.heap locs) : Ends p.tables e below s Q C S (T.setTop (mkF m pc Ls ([v]))) := by
  obtain ⟨fs, hr, hrun, hended, hW, hsame⟩ := X.leave (v := some v) (fun h => by rw [hret] at h; cases h) hlk
  exact fin X (X.areturnOut hx hv hret ht hd hr) hrun hended hW hsame q hC hS
theorem retVoid (X : Stand p l e R s m args below meth c T locs cells slots) (hx : p.tables.exec = Jvm.exec) (hlk : meth.locks = false) (hret : meth.sig.returnType = none) (hd : decode c.code pc = .ok (.return_, 1)) (hC : cells ≤ C) (hS : slots ≤ S) (q : Q none T.heap locs) : Ends p.tables e below s Q C S (T.setTop (mkF m pc Ls ([]))) := by
  obtain ⟨fs, hr, hrun, hended, hW, hsame⟩ := X.leave (v := none) (fun _ => rfl) hlk
  exact fin X (X.returnOut hx hret hd hr) hrun hended hW hsame q hC hS
theorem ldcInt (n : Nat) (X : Stand p l e R s m args below meth c T locs cells slots) (hx : p.tables.exec = Jvm.exec) (hZ : Z.Warmed39 s.vm) {own : String} {index : Nat} (v : Int32) (hown : s.vm.findClass own = some m.cls) (w : (Cond.constant own index v).before a0 Z = true) (hd : decode c.code pc = .ok (.ldc index, 2)) (hn : pc + 2 = n) (K : Ends p.tables e below s Q C S (T.setTop (mkF m n Ls (.int v :: st)))) : Ends p.tables e below s Q C S (T.setTop (mkF m pc Ls (st))) := by
  subst hn; exact K.step fun t k => X.ldcInt hx hown (mvT hZ w) (g := mkF m pc Ls st) rfl hd _ k
theorem ldcwInt (n : Nat) (X : Stand p l e R s m args below meth c T locs cells slots) (hx : p.tables.exec = Jvm.exec) (hZ : Z.Warmed39 s.vm) {own : String} {index : Nat} (v : Int32) (hown : s.vm.findClass own = some m.cls) (w : (Cond.constant own index v).before a0 Z = true) (hd : decode c.code pc = .ok (.ldc_w index, 3)) (hn : pc + 3 = n) (K : Ends p.tables e below s Q C S (T.setTop (mkF m n Ls (.int v :: st)))) : Ends p.tables e below s Q C S (T.setTop (mkF m pc Ls (st))) := by
  subst hn; exact K.step fun t k => X.ldcwInt hx hown (mvT hZ w) (g := mkF m pc Ls st) rfl hd _ k
theorem ldc2Long (n : Nat) (X : Stand p l e R s m args below meth c T locs cells slots) (hx : p.tables.exec = Jvm.exec) (hZ : Z.Warmed39 s.vm) {own : String} {index : Nat} (v : Int64) (hown : s.vm.findClass own = some m.cls) (w : (Cond.constantLong own index v).before a0 Z = true) (hd : decode c.code pc = .ok (.ldc2_w index, 3)) (hn : pc + 3 = n) (K : Ends p.tables e below s Q C S (T.setTop (mkF m n Ls (.long v :: st)))) : Ends p.tables e below s Q C S (T.setTop (mkF m pc Ls (st))) := by
  subst hn; exact K.step fun t k => X.ldc2Long hx hown (mvT hZ w) (g := mkF m pc Ls st) rfl hd _ k
theorem getFld (n : Nat) (X : Stand p l e R s m args below meth c T locs cells slots) (hx : p.tables.exec = Jvm.exec) (hZ : Z.Warmed39 s.vm) {own R0 O nm d host : String} {index : Nat} (hown : s.vm.findClass own = some m.cls) (w : (Cond.fieldLink own index R0 nm d).before a0 Z = true ∨ (Cond.fieldLinkNest own index R0 nm d host).before a0 Z = true) (via : Via Z R0 O nm d) (eT : T.heap = h) {a : Addr} {v : Value} (F : Fld Z h a O nm d v) {rest : List Value} (hd : decode c.code pc = .ok (.getfield index, 3)) (hn : pc + 3 = n) (K : ∀ T', Stand p l e R s m args below meth c T' locs cells slots → T'.heap = h → Ends p.tables e below s Q C S (T'.setTop (mkF m n Ls (v :: rest)))) : Ends p.tables e below s Q C S (T.setTop (mkF m pc Ls (.ref a :: rest))) := by
  subst hn
  obtain ⟨T1, X1, e1, st1⟩ := getF X hx hZ hown w via eT F (g := mkF m pc Ls (.ref a :: rest)) rfl rfl hd
  exact (K T1 X1 e1).step st1
theorem getSta (n : Nat) (X : Stand p l e R s m args below meth c T locs cells slots) (hx : p.tables.exec = Jvm.exec) (hZ : Z.Warmed39 s.vm) {own R0 O nm d host : String} {index : Nat} (hown : s.vm.findClass own = some m.cls) (w : (Cond.fieldLink own index R0 nm d).before a0 Z = true ∨ (Cond.fieldLinkNest own index R0 nm d host).before a0 Z = true) (via : Via Z R0 O nm d) (eT : T.heap = h) {v : Value} (F : Sta Z h O nm d v) (hd : decode c.code pc = .ok (.getstatic index, 3)) (hn : pc + 3 = n) (K : ∀ T', Stand p l e R s m args below meth c T' locs cells slots → T'.heap = h → Ends p.tables e below s Q C S (T'.setTop (mkF m n Ls (v :: st)))) : Ends p.tables e below s Q C S (T.setTop (mkF m pc Ls (st))) := by
  subst hn
  obtain ⟨T1, X1, e1, st1⟩ := getS2 X hx hZ hown w via eT F (g := mkF m pc Ls st) rfl hd
  exact (K T1 X1 e1).step st1
theorem putFld (n : Nat) (X : Stand p l e R s m args below meth c T locs cells slots) (hx : p.tables.exec = Jvm.exec) (hZ : Z.Warmed39 s.vm) {own R0 O nm d host CC : String} {index kk : Nat} {ty : FieldType} (hown : s.vm.findClass own = some m.cls) (w : (Cond.fieldLink own index R0 nm d).before a0 Z = true ∨ (Cond.fieldLinkNest own index R0 nm d host).before a0 Z = true) (via : Via Z R0 O nm d) (eT : T.heap = h) {a : Addr} {v old : Value} (F : Fld Z h a O nm d old) (E : Exa Z h a CC) (L : (Cond.lays CC O nm d).before a0 Z = true ∨ ((Cond.laysFinal CC O nm d).before a0 Z = true ∧ own = O ∧ meth.name = "<init>")) (wi : (Cond.instantiable CC kk).before a0 Z = true) (hty : parseFieldDescriptor d = some ty) (hnw : narrow ty v = v) (hf : fits ty v = true) {rest : List Value} (hd : decode c.code pc = .ok (.putfield index, 3)) (hn : pc + 3 = n) (K : ∀ T' h', Stand p l e R s m args below meth c T' (locs ++ [⟨a, Jvm.RoadKit.slotOf Z O nm d⟩]) cells slots → T'.heap = h' → Wr h h' a (Jvm.RoadKit.slotOf Z O nm d) v → Ends p.tables e below s Q C S (T'.setTop (mkF m n Ls (rest)))) : Ends p.tables e below s Q C S (T.setTop (mkF m pc Ls (v :: .ref a :: rest))) := by
  subst hn
  obtain ⟨T1, h1, X1, e1, W1, st1⟩ := putF X hx hZ hown w via eT F E L wi hty hnw hf (g := mkF m pc Ls (v :: .ref a :: rest)) rfl rfl hd
  exact (K T1 h1 X1 e1 W1).step st1
theorem newObj (n : Nat) (X : Stand p l e R s m args below meth c T locs cells slots) (hx : p.tables.exec = Jvm.exec) (hZ : Z.Warmed39 s.vm) {own CC : String} {index sz : Nat} (hown : s.vm.findClass own = some m.cls) (w : (Cond.classLink own index CC).before a0 Z = true) (wi : (Cond.instantiable CC sz).before a0 Z = true) (wz : (Cond.initialized CC).before a0 Z = true) (eT : T.heap = h) (hd : decode c.code pc = .ok (.new index, 3)) (hn : pc + 3 = n) (hc : cells + 1 ≤ R.cells) (hl : slots + sz ≤ R.slots) (K : ∀ T' h' a, a = h.size → Stand p l e R s m args below meth c T' locs (cells + 1) (slots + sz) → T'.heap = h' → Ext h h' → Exa Z h' a CC → (∀ {O nm d : String} {ty : FieldType}, Laid Z a0 CC O nm d → parseFieldDescriptor d = some ty → Fld Z h' a O nm d (defaultValue ty)) → Ends p.tables e below s Q C S (T'.setTop (mkF m n Ls (.ref a :: st)))) : Ends p.tables e below s Q C S (T.setTop (mkF m pc Ls (st))) := by
  subst hn
  obtain ⟨T1, h1, X1, e1, E1, A1, D1, -, st1⟩ := newO X hx hZ hown w wi wz eT (g := mkF m pc Ls st) rfl hd hc hl
  exact (K T1 h1 _ rfl X1 e1 E1 A1 (fun L q => D1 L q)).step st1
theorem initObj (n W : Nat) (X : Stand p l e R s m args below meth c T locs cells slots) (hx : p.tables.exec = Jvm.exec) (hZ : Z.Warmed39 s.vm) {own : String} {index : Nat} (hown : s.vm.findClass own = some m.cls) (w1 : (Cond.methodLink own index Lib.objectInit).before a0 Z = true) (w2 : (Cond.instanceMethod Lib.objectInit).before a0 Z = true) (w3 : (Cond.code Lib.objectInit ⟨#[0xb1]⟩ 1 none).before a0 Z = true) (eT : T.heap = h) {a : Addr} {rest : List Value} (hsz : Ls.size = c.maxLocals) (hd : decode c.code pc = .ok (.invokespecial index, 3)) (hn : pc + 3 = n) (hf : 1 ≤ R.frames) (hW : (rest.map fun v => v.category).sum ≤ W) (hl : W + 12 ≤ R.locals) (K : ∀ T', Stand p l e R s m args below meth c T' locs cells slots → T'.heap = h → Ends p.tables e below s Q C S (T'.setTop (mkF m n Ls (rest)))) : Ends p.tables e below s Q C S (T.setTop (mkF m pc Ls (.ref a :: rest))) := by
  subst hn
  obtain ⟨T1, X1, e1, st1⟩ := initO X hx hZ hown w1 w2 w3 eT (g := mkF m pc Ls (.ref a :: rest)) rfl hsz rfl hd hf (W := W) (by show 2 * 0 + _ ≤ _; omega) hl
  exact (K T1 X1 e1).step st1
/-- the contract of a body: entered with these arguments at this heap it returns, and what it leaves answers to QQ -/
def Met (l : Launch) (Z : State) (y : MethodName) (bytes : ByteArray) (maxL : Nat) (ret : Option FieldType) (ws : List Cond) (rm : Room) (as : Array Value) (h : Heap) (QQ : Option Value → Heap → List Loc → Prop) : Prop :=
  MetFree l y (head1 (Cond.code y bytes maxL ret :: ws) rm) (fun a U => a = as ∧ Z.Warmed39 U.vm ∧ U.heap = h) (fun _ _ _ _ _ => True) (fun _ U o U' => ∃ v L, o = .returned v ∧ QQ v U'.heap L ∧ FrameEnd U o U' L rm.cells rm.slots)
theorem Met.of {y : MethodName} {bytes : ByteArray} {maxL : Nat} {ret : Option FieldType} {ws : List Cond} {rm : Room} {as : Array Value} {QQ : Option Value → Heap → List Loc → Prop} (hp : plainFor y = true)
    (body : ∀ (p : Program) (e : Env) (s : State) (m : MethodId) (below : List Frame) (meth : Method) (c : Code) (T : State), p.tables.exec = Jvm.exec → c.code = bytes → c.maxLocals = maxL → s.vm.findClass y.cls = some m.cls → meth.name = y.name → meth.sig.returnType = ret → meth.locks = false → Z.Warmed39 s.vm → Stand p l e rm s m as below meth c T [] 0 0 → T.heap = h → Ends p.tables e below s QQ rm.cells rm.slots (T.setTop (entryFrame m as maxL))) :
    Met l Z y bytes maxL ret ws rm as h QQ := by
  refine MetFree.of_bodySF hp hisR ?_
  intro p e s m args below meth c s₁ Bd hml0 hP hK
  obtain ⟨rfl, hZ, hh⟩ := hP
  exact body p e s m below meth c s₁ Bd.exec Bd.bytes hml0 (findClass_of_methodNamed Bd.named) (name_of_methodNamed Bd.named Bd.method).1 Bd.returns Bd.notSynchronized hZ (Stand.of_body Bd) (by rw [← hh, Bd.state]; rfl)
theorem callSt (n W : Nat) (argsL rest : List Value) (X : Stand p l e R s m args below meth c T locs cells slots) (hx : p.tables.exec = Jvm.exec) (hZ : Z.Warmed39 s.vm) {own : String} {index : Nat} {y : MethodName} {bytes : ByteArray} {maxL : Nat} {ret : Option FieldType} {rm : Room} {QQ : Option Value → Heap → List Loc → Prop} (hown : s.vm.findClass own = some m.cls) (hM : Met l Z y bytes maxL ret [] rm argsL.toArray h QQ) (wl : (Cond.methodLink own index y).before a0 Z = true) (ws : (Cond.static y).before a0 Z = true) (wi : (Cond.initialized y.cls).before a0 Z = true) (wc : (Cond.code y bytes maxL ret).before a0 Z = true) (hy : y.cls ≠ "java/lang/invoke/MethodHandle" ∧ y.cls ≠ "java/lang/invoke/VarHandle") (eT : T.heap = h) (hfr : rm.frames + 1 ≤ R.frames) (hlc : W + (maxL + 11) + rm.locals ≤ R.locals) (hc : cells + rm.cells ≤ R.cells) (hs : slots + rm.slots ≤ R.slots) (hsz : Ls.size = c.maxLocals) (hlen : ∀ sig, parseMethodDescriptor y.desc = some sig → argsL.length = sig.parameters.length) (hst : st = argsL.reverse ++ rest) (hW : (rest.map fun v => v.category).sum ≤ W) (hd : decode c.code pc = .ok (.invokestatic index, 3)) (hn : pc + 3 = n) (K : ∀ v T' L', Stand p l e R s m args below meth c T' (locs ++ L') (cells + rm.cells) (slots + rm.slots) → QQ v T'.heap L' → Ends p.tables e below s Q C S (T'.setTop (mkF m n Ls (v.toList ++ rest)))) : Ends p.tables e below s Q C S (T.setTop (mkF m pc Ls (st))) := by
  subst hn
  obtain ⟨v, vm1, ⟨T1, L1, k1, n1⟩, -, X1, ⟨Lc, hQ, l1, y1, z1⟩, st1⟩ := Jvm.LawKit.callS X hx (y := y) hown (mvT hZ wl) (mvT hZ ws) (mvT hZ wi) (mvT hZ wc) hy (backOf (W := W) hM hZ wc wi hfr hlc) (g := mkF m pc Ls st) rfl hsz (argsL := argsL) (rest := rest) hlen hst (by show 2 * 0 + _ ≤ _; omega) hd (fun _ _ => ⟨rfl, eT, hc, hs⟩)
  dsimp only [Pt.U, Pt.locs, Pt.cells, Pt.slots] at X1 l1 y1 z1 st1 hQ
  subst l1 y1 z1
  exact (K v T1 Lc X1 hQ).step st1
theorem callInit (n W : Nat) (a : Addr) (argsL rest : List Value) (X : Stand p l e R s m args below meth c T locs cells slots) (hx : p.tables.exec = Jvm.exec) (hZ : Z.Warmed39 s.vm) {own : String} {index : Nat} {y : MethodName} {bytes : ByteArray} {maxL : Nat} {rm : Room} {QQ : Option Value → Heap → List Loc → Prop} (hown : s.vm.findClass own = some m.cls) (hM : Met l Z y bytes maxL none [] rm (.ref a :: argsL).toArray h QQ) (hy1 : y.name = "<init>") (wl : (Cond.methodLink own index y).before a0 Z = true) (ws : (Cond.instanceMethod y).before a0 Z = true) (wi : (Cond.initialized y.cls).before a0 Z = true) (wc : (Cond.code y bytes maxL none).before a0 Z = true) (hy : y.cls ≠ "java/lang/invoke/MethodHandle" ∧ y.cls ≠ "java/lang/invoke/VarHandle") (eT : T.heap = h) (hfr : rm.frames + 1 ≤ R.frames) (hlc : W + (maxL + 11) + rm.locals ≤ R.locals) (hc : cells + rm.cells ≤ R.cells) (hs : slots + rm.slots ≤ R.slots) (hsz : Ls.size = c.maxLocals) (hlen : ∀ sig, parseMethodDescriptor y.desc = some sig → argsL.length = sig.parameters.length) (hst : st = argsL.reverse ++ .ref a :: rest) (hW : (rest.map fun v => v.category).sum ≤ W) (hd : decode c.code pc = .ok (.invokespecial index, 3)) (hn : pc + 3 = n) (K : ∀ v T' L', Stand p l e R s m args below meth c T' (locs ++ L') (cells + rm.cells) (slots + rm.slots) → QQ v T'.heap L' → Ends p.tables e below s Q C S (T'.setTop (mkF m n Ls (v.toList ++ rest)))) : Ends p.tables e below s Q C S (T.setTop (mkF m pc Ls (st))) := by
  subst hn
  obtain ⟨v, vm1, ⟨T1, L1, k1, n1⟩, -, X1, ⟨Lc, hQ, l1, y1, z1⟩, st1⟩ := X.specialBack hx (y := y) hy1 hown (mvT hZ wl) (mvT hZ ws) (mvT hZ wc) hy (backOf (W := W) hM hZ wc wi hfr hlc) (g := mkF m pc Ls st) rfl hsz (Steps.refl _) (a := a) (argsL := argsL) (rest := rest) hlen hst (by show 2 * 0 + _ ≤ _; omega) hd (fun _ _ => ⟨rfl, eT, hc, hs⟩)
  dsimp only [Pt.U, Pt.locs, Pt.cells, Pt.slots] at X1 l1 y1 z1 st1 hQ
  subst l1 y1 z1
  exact (K v T1 Lc X1 hQ).step fun t k => st1.trans k
theorem callVt (n W : Nat) (a : Addr) (argsL rest : List Value) (X : Stand p l e R s m args below meth c T locs cells slots) (hx : p.tables.exec = Jvm.exec) (hZ : Z.Warmed39 s.vm) {own CC : String} {index : Nat} {y z : MethodName} {bytes : ByteArray} {maxL : Nat} {ret : Option FieldType} {rm : Room} {QQ : Option Value → Heap → List Loc → Prop} (hown : s.vm.findClass own = some m.cls) (hM : Met l Z z bytes maxL ret [] rm (.ref a :: argsL).toArray h QQ) (E : Exa Z h a CC) (hnf : NotFace s y) (wl : (Cond.methodLink own index y).before a0 Z = true) (wd : (Cond.declares y).before a0 Z = true) (wsel : (Cond.selects CC y z).before a0 Z = true) (ws : (Cond.instanceMethod z).before a0 Z = true) (wi : (Cond.initialized z.cls).before a0 Z = true) (wc : (Cond.code z bytes maxL ret).before a0 Z = true) (hy : y.cls ≠ "java/lang/invoke/MethodHandle" ∧ y.cls ≠ "java/lang/invoke/VarHandle") (eT : T.heap = h) (hfr : rm.frames + 1 ≤ R.frames) (hlc : W + (maxL + 11) + rm.locals ≤ R.locals) (hc : cells + rm.cells ≤ R.cells) (hs : slots + rm.slots ≤ R.slots) (hsz : Ls.size = c.maxLocals) (hlen : ∀ sig, parseMethodDescriptor y.desc = some sig → argsL.length = sig.parameters.length) (hst : st = argsL.reverse ++ .ref a :: rest) (hW : (rest.map fun v => v.category).sum ≤ W) (hd : decode c.code pc = .ok (.invokevirtual index, 3)) (hn : pc + 3 = n) (K : ∀ v T' L', Stand p l e R s m args below meth c T' (locs ++ L') (cells + rm.cells) (slots + rm.slots) → QQ v T'.heap L' → Ends p.tables e below s Q C S (T'.setTop (mkF m n Ls (v.toList ++ rest)))) : Ends p.tables e below s Q C S (T.setTop (mkF m pc Ls (st))) := by
  subst hn
  obtain ⟨cq, kq, qa, qb, qc⟩ := isOf hZ eT E
  obtain ⟨v, vm1, ⟨T1, L1, k1, n1⟩, -, X1, ⟨Lc, hQ, l1, y1, z1⟩, st1⟩ := X.virtualBack hx (y := y) (z := z) hown (mvT hZ wl) (mvT hZ wd) hnf (mvT hZ wsel) (mvT hZ ws) hy (backOf (W := W) hM hZ wc wi hfr hlc) qa qc (g := mkF m pc Ls st) rfl hsz (Steps.refl _) (argsL := argsL) (rest := rest) hlen hst (by show 2 * 0 + _ ≤ _; omega) hd (fun _ _ => ⟨rfl, eT, hc, hs⟩)
  dsimp only [Pt.U, Pt.locs, Pt.cells, Pt.slots] at X1 l1 y1 z1 st1 hQ
  subst l1 y1 z1
  exact (K v T1 Lc X1 hQ).step fun t k => st1.trans k
theorem callPr (n W : Nat) (a : Addr) (argsL rest : List Value) (X : Stand p l e R s m args below meth c T locs cells slots) (hx : p.tables.exec = Jvm.exec) (hZ : Z.Warmed39 s.vm) {own CC : String} {index : Nat} {y : MethodName} {bytes : ByteArray} {maxL : Nat} {ret : Option FieldType} {rm : Room} {QQ : Option Value → Heap → List Loc → Prop} (hown : s.vm.findClass own = some m.cls) (hM : Met l Z y bytes maxL ret [] rm (.ref a :: argsL).toArray h QQ) (E : Exa Z h a CC) (wl : (Cond.methodLink own index y).before a0 Z = true) (wp : (Cond.privateMethod y).before a0 Z = true) {kk : Nat} (wk : (Cond.instantiable y.cls kk).before a0 Z = true) (ws : (Cond.instanceMethod y).before a0 Z = true) (wi : (Cond.initialized y.cls).before a0 Z = true) (wc : (Cond.code y bytes maxL ret).before a0 Z = true) (hy : y.cls ≠ "java/lang/invoke/MethodHandle" ∧ y.cls ≠ "java/lang/invoke/VarHandle") (eT : T.heap = h) (hfr : rm.frames + 1 ≤ R.frames) (hlc : W + (maxL + 11) + rm.locals ≤ R.locals) (hc : cells + rm.cells ≤ R.cells) (hs : slots + rm.slots ≤ R.slots) (hsz : Ls.size = c.maxLocals) (hlen : ∀ sig, parseMethodDescriptor y.desc = some sig → argsL.length = sig.parameters.length) (hst : st = argsL.reverse ++ .ref a :: rest) (hW : (rest.map fun v => v.category).sum ≤ W) (hd : decode c.code pc = .ok (.invokevirtual index, 3)) (hn : pc + 3 = n) (K : ∀ v T' L', Stand p l e R s m args below meth c T' (locs ++ L') (cells + rm.cells) (slots + rm.slots) → QQ v T'.heap L' → Ends p.tables e below s Q C S (T'.setTop (mkF m n Ls (v.toList ++ rest)))) : Ends p.tables e below s Q C S (T.setTop (mkF m pc Ls (st))) := by
  subst hn
  obtain ⟨cq, qa, qb⟩ := E.cell
  obtain ⟨cI, kI, i1, i2, -, i4, -⟩ := Cond.instantiable_spec (mvT (args := args) hZ wk)
  obtain ⟨v, vm1, ⟨T1, L1, k1, n1⟩, -, X1, ⟨Lc, hQ, l1, y1, z1⟩, st1⟩ := X.privateBack hx (y := y) hown (mvT hZ wl) (mvT hZ ws) (selects_self_of_private i1 i2 (by simpa using (Bool.or_eq_false_iff.mp i4).1) (Cond.privateMethod_at (mvP hZ wp (args := #[]))) (mvT hZ ws) hy) (Cond.privateMethod_at (mvP hZ wp (args := #[]))) (mvT hZ wc) hy (backOf (W := W) hM hZ wc wi hfr hlc) (g := mkF m pc Ls st) rfl hsz (Steps.refl _) (a := a) (by rw [eT]; exact qa) qb (argsL := argsL) (rest := rest) hlen hst (by show 2 * 0 + _ ≤ _; omega) hd (fun _ _ => ⟨rfl, eT, hc, hs⟩)
  dsimp only [Pt.U, Pt.locs, Pt.cells, Pt.slots] at X1 l1 y1 z1 st1 hQ
  subst l1 y1 z1
  exact (K v T1 Lc X1 hQ).step fun t k => st1.trans k
theorem arrLen (n : Nat) (X : Stand p l e R s m args below meth c T locs cells slots) (hx : p.tables.exec = Jvm.exec) (hZ : Z.Warmed39 s.vm) (eT : T.heap = h) {a : Addr} {k : ClassId} {ty : FieldType} {z : Int32} {vs : List Value} {dv : Value} {rest : List Value} (A : Arv Z h a k ty z vs dv) (hd : decode c.code pc = .ok (.arraylength, 1)) (hn : pc + 1 = n) (K : Ends p.tables e below s Q C S (T.setTop (mkF m n Ls (.int z :: rest)))) : Ends p.tables e below s Q C S (T.setTop (mkF m pc Ls (.ref a :: rest))) := by
  subst hn
  obtain ⟨cl, Ar, -, Sz, Nz, -, -⟩ := A
  refine K.step fun t kk => X.arraylength hx (by rw [eT]; exact Ar.1) (State.isArrayOf_alike hZ.alike Ar.2.1) (g := mkF m pc Ls (.ref a :: rest)) rfl rfl hd _ ?_
  rw [len_of Sz Nz]; exact kk
theorem iaload (n : Nat) (X : Stand p l e R s m args below meth c T locs cells slots) (hx : p.tables.exec = Jvm.exec) (hZ : Z.Warmed39 s.vm) (eT : T.heap = h) {a : Addr} {k : ClassId} {z j : Int32} (v : Int32) {vs : List Value} {dv : Value} {rest : List Value} (A : Arv Z h a k .int z vs dv) (hj : ¬ j < 0 ∧ j < z) (hv : vs.getD j.toNatClampNeg dv = .int v) (hd : decode c.code pc = .ok (.iaload, 1)) (hn : pc + 1 = n) (K : Ends p.tables e below s Q C S (T.setTop (mkF m n Ls (.int v :: rest)))) : Ends p.tables e below s Q C S (T.setTop (mkF m pc Ls (.int j :: .ref a :: rest))) := by
  subst hn
  obtain ⟨cl, Ar, -, Sz, Nz, Hs, -⟩ := A
  have hin := inb_of Sz hj
  exact K.step fun t kk => X.iaload hx (j := j) (v := .int v) (by rw [eT]; exact Ar.1) (State.isArrayOf_alike hZ.alike Ar.2.1) Ar.2.2 hin (Hs.at hin hv) (g := mkF m pc Ls (.int j :: .ref a :: rest)) rfl rfl hd _ kk
theorem laload (n : Nat) (X : Stand p l e R s m args below meth c T locs cells slots) (hx : p.tables.exec = Jvm.exec) (hZ : Z.Warmed39 s.vm) (eT : T.heap = h) {a : Addr} {k : ClassId} {z j : Int32} (v : Int64) {vs : List Value} {dv : Value} {rest : List Value} (A : Arv Z h a k .long z vs dv) (hj : ¬ j < 0 ∧ j < z) (hv : vs.getD j.toNatClampNeg dv = .long v) (hd : decode c.code pc = .ok (.laload, 1)) (hn : pc + 1 = n) (K : Ends p.tables e below s Q C S (T.setTop (mkF m n Ls (.long v :: rest)))) : Ends p.tables e below s Q C S (T.setTop (mkF m pc Ls (.int j :: .ref a :: rest))) := by
  subst hn
  obtain ⟨cl, Ar, -, Sz, Nz, Hs, -⟩ := A
  have hin := inb_of Sz hj
  exact K.step fun t kk => X.laload hx (j := j) (v := .long v) (by rw [eT]; exact Ar.1) (State.isArrayOf_alike hZ.alike Ar.2.1) Ar.2.2 hin (Hs.at hin hv) (g := mkF m pc Ls (.int j :: .ref a :: rest)) rfl rfl hd _ kk
theorem baload (n : Nat) (X : Stand p l e R s m args below meth c T locs cells slots) (hx : p.tables.exec = Jvm.exec) (hZ : Z.Warmed39 s.vm) (eT : T.heap = h) {a : Addr} {k : ClassId} {z j : Int32} (v : Int32) {vs : List Value} {dv : Value} {rest : List Value} (A : Arv Z h a k .byte z vs dv) (hj : ¬ j < 0 ∧ j < z) (hv : vs.getD j.toNatClampNeg dv = .int v) (hd : decode c.code pc = .ok (.baload, 1)) (hn : pc + 1 = n) (K : Ends p.tables e below s Q C S (T.setTop (mkF m n Ls (.int v :: rest)))) : Ends p.tables e below s Q C S (T.setTop (mkF m pc Ls (.int j :: .ref a :: rest))) := by
  subst hn
  obtain ⟨cl, Ar, -, Sz, Nz, Hs, -⟩ := A
  have hin := inb_of Sz hj
  exact K.step fun t kk => X.baloadBytes hx (j := j) (v := .int v) (by rw [eT]; exact Ar.1) (State.isArrayOf_alike hZ.alike Ar.2.1) Ar.2.2 hin (Hs.at hin hv) (g := mkF m pc Ls (.int j :: .ref a :: rest)) rfl rfl hd _ kk
theorem caload (n : Nat) (X : Stand p l e R s m args below meth c T locs cells slots) (hx : p.tables.exec = Jvm.exec) (hZ : Z.Warmed39 s.vm) (eT : T.heap = h) {a : Addr} {k : ClassId} {z j : Int32} (v : Int32) {vs : List Value} {dv : Value} {rest : List Value} (A : Arv Z h a k .char z vs dv) (hj : ¬ j < 0 ∧ j < z) (hv : vs.getD j.toNatClampNeg dv = .int v) (hd : decode c.code pc = .ok (.caload, 1)) (hn : pc + 1 = n) (K : Ends p.tables e below s Q C S (T.setTop (mkF m n Ls (.int v :: rest)))) : Ends p.tables e below s Q C S (T.setTop (mkF m pc Ls (.int j :: .ref a :: rest))) := by
  subst hn
  obtain ⟨cl, Ar, -, Sz, Nz, Hs, -⟩ := A
  have hin := inb_of Sz hj
  exact K.step fun t kk => X.caload hx (j := j) (v := .int v) (by rw [eT]; exact Ar.1) (State.isArrayOf_alike hZ.alike Ar.2.1) Ar.2.2 hin (Hs.at hin hv) (g := mkF m pc Ls (.int j :: .ref a :: rest)) rfl rfl hd _ kk
theorem aaload (n : Nat) (X : Stand p l e R s m args below meth c T locs cells slots) (hx : p.tables.exec = Jvm.exec) (hZ : Z.Warmed39 s.vm) (eT : T.heap = h) {a : Addr} {k : ClassId} {z j : Int32} {ty : FieldType} (v : Value) {vs : List Value} {dv : Value} {rest : List Value} (A : Arv Z h a k ty z vs dv) (hty : ty.isReference = true) (hj : ¬ j < 0 ∧ j < z) (hv : vs.getD j.toNatClampNeg dv = v) (hd : decode c.code pc = .ok (.aaload, 1)) (hn : pc + 1 = n) (K : Ends p.tables e below s Q C S (T.setTop (mkF m n Ls (v :: rest)))) : Ends p.tables e below s Q C S (T.setTop (mkF m pc Ls (.int j :: .ref a :: rest))) := by
  subst hn
  obtain ⟨cl, Ar, -, Sz, Nz, Hs, -⟩ := A
  have hin := inb_of Sz hj
  exact K.step fun t kk => X.aaload hx (j := j) (v := v) (by rw [eT]; exact Ar.1) (State.isArrayOf_alike hZ.alike Ar.2.1) hty Ar.2.2 hin (Hs.at hin hv) (g := mkF m pc Ls (.int j :: .ref a :: rest)) rfl rfl hd _ kk
theorem iastore (n : Nat) (X : Stand p l e R s m args below meth c T locs cells slots) (hx : p.tables.exec = Jvm.exec) (hZ : Z.Warmed39 s.vm) (eT : T.heap = h) {a : Addr} {k : ClassId} {z j : Int32} {x : Int32} {vs : List Value} {dv : Value} {rest : List Value} (A : Arv Z h a k .int z vs dv) (hj : ¬ j < 0 ∧ j < z) (hlen : j.toNatClampNeg < vs.length) (hd : decode c.code pc = .ok (.iastore, 1)) (hn : pc + 1 = n) (K : ∀ T' h', Stand p l e R s m args below meth c T' (locs ++ [⟨a, j.toNatClampNeg⟩]) cells slots → T'.heap = h' → Wr h h' a j.toNatClampNeg (.int x) → Arv Z h' a k .int z (vs.set j.toNatClampNeg (.int x)) dv → Ends p.tables e below s Q C S (T'.setTop (mkF m n Ls (rest)))) : Ends p.tables e below s Q C S (T.setTop (mkF m pc Ls (.int x :: .int j :: .ref a :: rest))) := by
  subst hn
  obtain ⟨cl, Ar, q1, Sz, Nz, Hs, Gs⟩ := A
  obtain ⟨T1, h1, X1, e1, W1, st1⟩ := stI X hx hZ eT Ar (j := j) (inb_of Sz hj) (g := mkF m pc Ls (.int x :: .int j :: .ref a :: rest)) rfl rfl hd
  exact (K T1 h1 X1 e1 W1 (Arv.set Ar q1 Sz Nz Hs Gs rfl W1 _ rfl hlen)).step st1
theorem lastore (n : Nat) (X : Stand p l e R s m args below meth c T locs cells slots) (hx : p.tables.exec = Jvm.exec) (hZ : Z.Warmed39 s.vm) (eT : T.heap = h) {a : Addr} {k : ClassId} {z j : Int32} {x : Int64} {vs : List Value} {dv : Value} {rest : List Value} (A : Arv Z h a k .long z vs dv) (hj : ¬ j < 0 ∧ j < z) (hlen : j.toNatClampNeg < vs.length) (hd : decode c.code pc = .ok (.lastore, 1)) (hn : pc + 1 = n) (K : ∀ T' h', Stand p l e R s m args below meth c T' (locs ++ [⟨a, j.toNatClampNeg⟩]) cells slots → T'.heap = h' → Wr h h' a j.toNatClampNeg (.long x) → Arv Z h' a k .long z (vs.set j.toNatClampNeg (.long x)) dv → Ends p.tables e below s Q C S (T'.setTop (mkF m n Ls (rest)))) : Ends p.tables e below s Q C S (T.setTop (mkF m pc Ls (.long x :: .int j :: .ref a :: rest))) := by
  subst hn
  obtain ⟨cl, Ar, q1, Sz, Nz, Hs, Gs⟩ := A
  obtain ⟨T1, h1, X1, e1, W1, st1⟩ := stJ X hx hZ eT Ar (j := j) (inb_of Sz hj) (g := mkF m pc Ls (.long x :: .int j :: .ref a :: rest)) rfl rfl hd
  exact (K T1 h1 X1 e1 W1 (Arv.set Ar q1 Sz Nz Hs Gs rfl W1 _ rfl hlen)).step st1
theorem bastore (n : Nat) (X : Stand p l e R s m args below meth c T locs cells slots) (hx : p.tables.exec = Jvm.exec) (hZ : Z.Warmed39 s.vm) (eT : T.heap = h) {a : Addr} {k : ClassId} {z j : Int32} {x : Int32} {vs : List Value} {dv : Value} {rest : List Value} (A : Arv Z h a k .byte z vs dv) (hj : ¬ j < 0 ∧ j < z) (hlen : j.toNatClampNeg < vs.length) (hd : decode c.code pc = .ok (.bastore, 1)) (hn : pc + 1 = n) (K : ∀ T' h', Stand p l e R s m args below meth c T' (locs ++ [⟨a, j.toNatClampNeg⟩]) cells slots → T'.heap = h' → Wr h h' a j.toNatClampNeg (.int x.toInt8.toInt32) → Arv Z h' a k .byte z (vs.set j.toNatClampNeg (.int x.toInt8.toInt32)) dv → Ends p.tables e below s Q C S (T'.setTop (mkF m n Ls (rest)))) : Ends p.tables e below s Q C S (T.setTop (mkF m pc Ls (.int x :: .int j :: .ref a :: rest))) := by
  subst hn
  obtain ⟨cl, Ar, q1, Sz, Nz, Hs, Gs⟩ := A
  obtain ⟨T1, h1, X1, e1, W1, st1⟩ := stB X hx hZ eT Ar (j := j) (inb_of Sz hj) (g := mkF m pc Ls (.int x :: .int j :: .ref a :: rest)) rfl rfl hd
  exact (K T1 h1 X1 e1 W1 (Arv.set Ar q1 Sz Nz Hs Gs (fits_nar_byte _) W1 _ rfl hlen)).step st1
theorem castore (n : Nat) (X : Stand p l e R s m args below meth c T locs cells slots) (hx : p.tables.exec = Jvm.exec) (hZ : Z.Warmed39 s.vm) (eT : T.heap = h) {a : Addr} {k : ClassId} {z j : Int32} {x : Int32} {vs : List Value} {dv : Value} {rest : List Value} (A : Arv Z h a k .char z vs dv) (hj : ¬ j < 0 ∧ j < z) (hlen : j.toNatClampNeg < vs.length) (hd : decode c.code pc = .ok (.castore, 1)) (hn : pc + 1 = n) (K : ∀ T' h', Stand p l e R s m args below meth c T' (locs ++ [⟨a, j.toNatClampNeg⟩]) cells slots → T'.heap = h' → Wr h h' a j.toNatClampNeg (.int (nar .char x)) → Arv Z h' a k .char z (vs.set j.toNatClampNeg (.int (nar .char x))) dv → Ends p.tables e below s Q C S (T'.setTop (mkF m n Ls (rest)))) : Ends p.tables e below s Q C S (T.setTop (mkF m pc Ls (.int x :: .int j :: .ref a :: rest))) := by
  subst hn
  obtain ⟨cl, Ar, q1, Sz, Nz, Hs, Gs⟩ := A
  obtain ⟨T1, h1, X1, e1, W1, st1⟩ := stC X hx hZ eT Ar (j := j) (inb_of Sz hj) (g := mkF m pc Ls (.int x :: .int j :: .ref a :: rest)) rfl rfl hd
  exact (K T1 h1 X1 e1 W1 (Arv.set Ar q1 Sz Nz Hs Gs (fits_nar_char _) W1 _ rfl hlen)).step st1
theorem newArr (n cap : Nat) (X : Stand p l e R s m args below meth c T locs cells slots) (hx : p.tables.exec = Jvm.exec) (hZ : Z.Warmed39 s.vm) {aty : ArrayType} (w : (Cond.arrayClass (newarray.typeOf aty)).before a0 Z = true) (eT : T.heap = h) {z : Int32} {rest : List Value} (hz : ¬ z < 0) (hcap : z.toNatClampNeg ≤ cap) (hb : cap * 8 ≤ 536870912) (hd : decode c.code pc = .ok (.newarray aty, 2)) (hn : pc + 2 = n) (hc : cells + 1 ≤ R.cells) (hl : slots + cap ≤ R.slots) (K : ∀ T' h' a k, a = h.size → Stand p l e R s m args below meth c T' locs (cells + 1) (slots + cap) → T'.heap = h' → Ext h h' → Arv Z h' a k (newarray.typeOf aty) z (List.replicate z.toNatClampNeg (defaultValue (newarray.typeOf aty))) (defaultValue (newarray.typeOf aty)) → Ends p.tables e below s Q C S (T'.setTop (mkF m n Ls (.ref a :: rest)))) : Ends p.tables e below s Q C S (T.setTop (mkF m pc Ls (.int z :: rest))) := by
  subst hn
  obtain ⟨T1, h1, k1, X1, e1, E1, A1, st1⟩ := newP X hx hZ w eT (g := mkF m pc Ls (.int z :: rest)) rfl hd rfl hz (cap := cap) hcap hb hc hl
  exact (K T1 h1 _ k1 rfl X1 e1 E1 ((Arv.new A1 hz).pad (pad_rep [] _ _))).step st1
theorem arrCopy (n W : Nat) (X : Stand p l e R s m args below meth c T locs cells slots) (hx : p.tables.exec = Jvm.exec) (hZ : Z.Warmed39 s.vm) {own : String} {index : Nat} (hown : s.vm.findClass own = some m.cls) (w1 : (Cond.methodLink own index Jvm.Stand.acN).before a0 Z = true) (w2 : (Cond.native Jvm.Stand.acN).before a0 Z = true) (w3 : (Cond.static Jvm.Stand.acN).before a0 Z = true) (w4 : (Cond.initialized "java/lang/System").before a0 Z = true) (eT : T.heap = h) {a b : Addr} {k k2 : ClassId} {ty : FieldType} {z z2 sp dp nn : Int32} {vs vd : List Value} {dv dd : Value} (A : Arv Z h a k ty z vs dv) (B : Arv Z h b k2 ty z2 vd dd) (hty : refKind ty = false) (h1 : ¬ sp < 0) (h2 : ¬ dp < 0) (h3 : ¬ nn < 0) (h4 : sp.toNatClampNeg + nn.toNatClampNeg ≤ z.toNatClampNeg) (h5 : dp.toNatClampNeg + nn.toNatClampNeg ≤ z2.toNatClampNeg) (hl : dp.toNatClampNeg + nn.toNatClampNeg ≤ vd.length) {n0 : Nat} (N : Fr n0 locs) (ge : n0 ≤ b) (hsz : Ls.size = c.maxLocals) {rest : List Value} (hd : decode c.code pc = .ok (.invokestatic index, 3)) (hn : pc + 3 = n) (hf : 1 ≤ R.frames) (hW : (rest.map fun v => v.category).sum ≤ W) (hlo : W + (nativeFrameWords "java/lang/System" "arraycopy" 5 + 11) ≤ R.locals) (K : ∀ T' h' L vs', Stand p l e R s m args below meth c T' L cells slots → T'.heap = h' → Fr n0 L → Keep h h' [b] → vs' = vd.take dp.toNatClampNeg ++ ((List.range nn.toNatClampNeg).map fun i => vs.getD (sp.toNatClampNeg + i) dv) ++ vd.drop (dp.toNatClampNeg + nn.toNatClampNeg) → vs'.length = vd.length → Arv Z h' b k2 ty z2 vs' dd → Ends p.tables e below s Q C S (T'.setTop (mkF m n Ls (rest)))) : Ends p.tables e below s Q C S (T.setTop (mkF m pc Ls (.int nn :: .int dp :: .ref b :: .int sp :: .ref a :: rest))) := by
  subst hn
  obtain ⟨T1, hh1, L1, X1, e1, N1, K1, V1, st1⟩ := cpA X hx hZ hown w1 w2 w3 w4 eT A B (Or.inl ⟨rfl, hty⟩) h1 h2 h3 h4 h5 rfl hl N ge (g := mkF m pc Ls (.int nn :: .int dp :: .ref b :: .int sp :: .ref a :: rest)) rfl hsz rfl hd hf (W := W) (by show 2 * 0 + _ ≤ _; omega) hlo
  exact (K T1 hh1 L1 _ X1 e1 N1 K1 rfl (by simp; omega) V1).step st1
/-- an array of this kind and length, whatever it holds -/
def Ax (Z : State) (h : Heap) (a : Addr) (ty : FieldType) (z : Int32) : Prop := ∃ (k : ClassId) (vs : List Value), vs.length = z.toNatClampNeg ∧ Arv Z h a k ty z vs (defaultValue ty)
theorem Ax.lt {a : Addr} {ty : FieldType} {z : Int32} (F : Ax Z h a ty z) : a < h.size := by obtain ⟨k, vs, -, A⟩ := F; exact A.lt
theorem Ax.ext {h' : Heap} {a : Addr} {ty : FieldType} {z : Int32} (F : Ax Z h a ty z) (E : Ext h h') : Ax Z h' a ty z := by obtain ⟨k, vs, q, A⟩ := F; exact ⟨k, vs, q, A.ext E⟩
theorem Ax.keep {h' : Heap} {a : Addr} {ty : FieldType} {z : Int32} {ws : List Addr} (F : Ax Z h a ty z) (K : Keep h h' ws) (q : a ∉ ws) : Ax Z h' a ty z := by obtain ⟨k, vs, r, A⟩ := F; exact ⟨k, vs, r, A.keep K q⟩
theorem Ax.other {h' : Heap} {a b : Addr} {sl : Nat} {v : Value} {ty : FieldType} {z : Int32} (F : Ax Z h a ty z) (W : Wr h h' b sl v) (q : a ≠ b) : Ax Z h' a ty z := by obtain ⟨k, vs, r, A⟩ := F; exact ⟨k, vs, r, A.other W q⟩
theorem Ax.nn {a : Addr} {ty : FieldType} {z : Int32} (F : Ax Z h a ty z) : ¬ z < 0 := by obtain ⟨k, vs, -, c, -, -, -, N, -⟩ := F; exact N
theorem axLen (n : Nat) (X : Stand p l e R s m args below meth c T locs cells slots) (hx : p.tables.exec = Jvm.exec) (hZ : Z.Warmed39 s.vm) (eT : T.heap = h) {a : Addr} {ty : FieldType} {z : Int32} {rest : List Value} (A : Ax Z h a ty z) (hd : decode c.code pc = .ok (.arraylength, 1)) (hn : pc + 1 = n) (K : Ends p.tables e below s Q C S (T.setTop (mkF m n Ls (.int z :: rest)))) : Ends p.tables e below s Q C S (T.setTop (mkF m pc Ls (.ref a :: rest))) := by
  obtain ⟨k, vs, -, A⟩ := A
  exact arrLen n X hx hZ eT A hd hn K
theorem axLoadI (n : Nat) (X : Stand p l e R s m args below meth c T locs cells slots) (hx : p.tables.exec = Jvm.exec) (hZ : Z.Warmed39 s.vm) (eT : T.heap = h) {a : Addr} {z j : Int32} {rest : List Value} (A : Ax Z h a .int z) (hj : ¬ j < 0 ∧ j < z) (hd : decode c.code pc = .ok (.iaload, 1)) (hn : pc + 1 = n) (K : ∀ v : Int32, Ends p.tables e below s Q C S (T.setTop (mkF m n Ls (.int v :: rest)))) : Ends p.tables e below s Q C S (T.setTop (mkF m pc Ls (.int j :: .ref a :: rest))) := by
  obtain ⟨k, vs, -, A⟩ := A
  have A1 := A
  obtain ⟨cl, Ar, -, Sz, Nz, Hs, Gs⟩ := A1
  have hin := inb_of Sz hj
  have G := Gs j.toNatClampNeg (Nat.lt_of_not_le fun y => hin (Or.inr y))
  obtain ⟨v, hv⟩ := fit_I G (Or.inl rfl)
  exact iaload n X hx hZ eT v A hj hv hd hn (K v)
theorem axLoadJ (n : Nat) (X : Stand p l e R s m args below meth c T locs cells slots) (hx : p.tables.exec = Jvm.exec) (hZ : Z.Warmed39 s.vm) (eT : T.heap = h) {a : Addr} {z j : Int32} {rest : List Value} (A : Ax Z h a .long z) (hj : ¬ j < 0 ∧ j < z) (hd : decode c.code pc = .ok (.laload, 1)) (hn : pc + 1 = n) (K : ∀ v : Int64, Ends p.tables e below s Q C S (T.setTop (mkF m n Ls (.long v :: rest)))) : Ends p.tables e below s Q C S (T.setTop (mkF m pc Ls (.int j :: .ref a :: rest))) := by
  obtain ⟨k, vs, -, A⟩ := A
  have A1 := A
  obtain ⟨cl, Ar, -, Sz, Nz, Hs, Gs⟩ := A1
  have hin := inb_of Sz hj
  have G := Gs j.toNatClampNeg (Nat.lt_of_not_le fun y => hin (Or.inr y))
  obtain ⟨v, hv⟩ := fit_J G
  exact laload n X hx hZ eT v A hj hv hd hn (K v)
theorem axLoadB (n : Nat) (X : Stand p l e R s m args below meth c T locs cells slots) (hx : p.tables.exec = Jvm.exec) (hZ : Z.Warmed39 s.vm) (eT : T.heap = h) {a : Addr} {z j : Int32} {rest : List Value} (A : Ax Z h a .byte z) (hj : ¬ j < 0 ∧ j < z) (hd : decode c.code pc = .ok (.baload, 1)) (hn : pc + 1 = n) (K : ∀ v : Int32, Ends p.tables e below s Q C S (T.setTop (mkF m n Ls (.int v :: rest)))) : Ends p.tables e below s Q C S (T.setTop (mkF m pc Ls (.int j :: .ref a :: rest))) := by
  obtain ⟨k, vs, -, A⟩ := A
  have A1 := A
  obtain ⟨cl, Ar, -, Sz, Nz, Hs, Gs⟩ := A1
  have hin := inb_of Sz hj
  have G := Gs j.toNatClampNeg (Nat.lt_of_not_le fun y => hin (Or.inr y))
  obtain ⟨v, hv⟩ := fit_I G (Or.inr (Or.inr (Or.inl rfl)))
  exact baload n X hx hZ eT v A hj hv hd hn (K v)
theorem axStoreI (n : Nat) (X : Stand p l e R s m args below meth c T locs cells slots) (hx : p.tables.exec = Jvm.exec) (hZ : Z.Warmed39 s.vm) (eT : T.heap = h) {a : Addr} {z j : Int32} {x : Int32} {rest : List Value} (A : Ax Z h a .int z) (hj : ¬ j < 0 ∧ j < z) (hd : decode c.code pc = .ok (.iastore, 1)) (hn : pc + 1 = n) (K : ∀ T' h', Stand p l e R s m args below meth c T' (locs ++ [⟨a, j.toNatClampNeg⟩]) cells slots → T'.heap = h' → Wr h h' a j.toNatClampNeg (.int x) → Ax Z h' a .int z → Ends p.tables e below s Q C S (T'.setTop (mkF m n Ls (rest)))) : Ends p.tables e below s Q C S (T.setTop (mkF m pc Ls (.int x :: .int j :: .ref a :: rest))) := by
  obtain ⟨k, vs, hl, A⟩ := A
  have hjz : j.toNatClampNeg < z.toNatClampNeg := by
    have h1 := nat_of hj.1
    have h2 := hj.2
    have h3 := nat_of (Ax.nn ⟨k, vs, hl, A⟩)
    rw [Int32.lt_iff_toInt_lt] at h2
    omega
  exact iastore n X hx hZ eT A hj (by rw [hl]; exact hjz) hd hn (fun T1 h1 X1 e1 W1 A1 => K T1 h1 X1 e1 W1 ⟨k, _, by rw [List.length_set, hl], A1⟩)
theorem axStoreJ (n : Nat) (X : Stand p l e R s m args below meth c T locs cells slots) (hx : p.tables.exec = Jvm.exec) (hZ : Z.Warmed39 s.vm) (eT : T.heap = h) {a : Addr} {z j : Int32} {x : Int64} {rest : List Value} (A : Ax Z h a .long z) (hj : ¬ j < 0 ∧ j < z) (hd : decode c.code pc = .ok (.lastore, 1)) (hn : pc + 1 = n) (K : ∀ T' h', Stand p l e R s m args below meth c T' (locs ++ [⟨a, j.toNatClampNeg⟩]) cells slots → T'.heap = h' → Wr h h' a j.toNatClampNeg (.long x) → Ax Z h' a .long z → Ends p.tables e below s Q C S (T'.setTop (mkF m n Ls (rest)))) : Ends p.tables e below s Q C S (T.setTop (mkF m pc Ls (.long x :: .int j :: .ref a :: rest))) := by
  obtain ⟨k, vs, hl, A⟩ := A
  have hjz : j.toNatClampNeg < z.toNatClampNeg := by
    have h1 := nat_of hj.1
    have h2 := hj.2
    have h3 := nat_of (Ax.nn ⟨k, vs, hl, A⟩)
    rw [Int32.lt_iff_toInt_lt] at h2
    omega
  exact lastore n X hx hZ eT A hj (by rw [hl]; exact hjz) hd hn (fun T1 h1 X1 e1 W1 A1 => K T1 h1 X1 e1 W1 ⟨k, _, by rw [List.length_set, hl], A1⟩)
theorem axStoreB (n : Nat) (X : Stand p l e R s m args below meth c T locs cells slots) (hx : p.tables.exec = Jvm.exec) (hZ : Z.Warmed39 s.vm) (eT : T.heap = h) {a : Addr} {z j : Int32} {x : Int32} {rest : List Value} (A : Ax Z h a .byte z) (hj : ¬ j < 0 ∧ j < z) (hd : decode c.code pc = .ok (.bastore, 1)) (hn : pc + 1 = n) (K : ∀ T' h', Stand p l e R s m args below meth c T' (locs ++ [⟨a, j.toNatClampNeg⟩]) cells slots → T'.heap = h' → Wr h h' a j.toNatClampNeg (.int x.toInt8.toInt32) → Ax Z h' a .byte z → Ends p.tables e below s Q C S (T'.setTop (mkF m n Ls (rest)))) : Ends p.tables e below s Q C S (T.setTop (mkF m pc Ls (.int x :: .int j :: .ref a :: rest))) := by
  obtain ⟨k, vs, hl, A⟩ := A
  have hjz : j.toNatClampNeg < z.toNatClampNeg := by
    have h1 := nat_of hj.1
    have h2 := hj.2
    have h3 := nat_of (Ax.nn ⟨k, vs, hl, A⟩)
    rw [Int32.lt_iff_toInt_lt] at h2
    omega
  exact bastore n X hx hZ eT A hj (by rw [hl]; exact hjz) hd hn (fun T1 h1 X1 e1 W1 A1 => K T1 h1 X1 e1 W1 ⟨k, _, by rw [List.length_set, hl], A1⟩)
theorem axNew (n cap : Nat) (X : Stand p l e R s m args below meth c T locs cells slots) (hx : p.tables.exec = Jvm.exec) (hZ : Z.Warmed39 s.vm) {aty : ArrayType} (w : (Cond.arrayClass (newarray.typeOf aty)).before a0 Z = true) (eT : T.heap = h) {z : Int32} {rest : List Value} (hz : ¬ z < 0) (hcap : z.toNatClampNeg ≤ cap) (hb : cap * 8 ≤ 536870912) (hd : decode c.code pc = .ok (.newarray aty, 2)) (hn : pc + 2 = n) (hc : cells + 1 ≤ R.cells) (hl : slots + cap ≤ R.slots) (K : ∀ T' h' a, a = h.size → Stand p l e R s m args below meth c T' locs (cells + 1) (slots + cap) → T'.heap = h' → Ext h h' → Ax Z h' a (newarray.typeOf aty) z → Ends p.tables e below s Q C S (T'.setTop (mkF m n Ls (.ref a :: rest)))) : Ends p.tables e below s Q C S (T.setTop (mkF m pc Ls (.int z :: rest))) :=
  newArr n cap X hx hZ w eT hz hcap hb hd hn hc hl (fun T1 h1 a k q X1 e1 E1 A1 => K T1 h1 a q X1 e1 E1 ⟨k, _, List.length_replicate, A1⟩)
theorem axCopy (n W : Nat) (X : Stand p l e R s m args below meth c T locs cells slots) (hx : p.tables.exec = Jvm.exec) (hZ : Z.Warmed39 s.vm) {own : String} {index : Nat} (hown : s.vm.findClass own = some m.cls) (w1 : (Cond.methodLink own index Jvm.Stand.acN).before a0 Z = true) (w2 : (Cond.native Jvm.Stand.acN).before a0 Z = true) (w3 : (Cond.static Jvm.Stand.acN).before a0 Z = true) (w4 : (Cond.initialized "java/lang/System").before a0 Z = true) (eT : T.heap = h) {a b : Addr} {ty : FieldType} {z z2 sp dp nn : Int32} (A : Ax Z h a ty z) (B : Ax Z h b ty z2) (hty : refKind ty = false) (h1 : ¬ sp < 0) (h2 : ¬ dp < 0) (h3 : ¬ nn < 0) (h4 : sp.toNatClampNeg + nn.toNatClampNeg ≤ z.toNatClampNeg) (h5 : dp.toNatClampNeg + nn.toNatClampNeg ≤ z2.toNatClampNeg) {n0 : Nat} (N : Fr n0 locs) (ge : n0 ≤ b) (hsz : Ls.size = c.maxLocals) {rest : List Value} (hd : decode c.code pc = .ok (.invokestatic index, 3)) (hn : pc + 3 = n) (hf : 1 ≤ R.frames) (hW : (rest.map fun v => v.category).sum ≤ W) (hlo : W + (nativeFrameWords "java/lang/System" "arraycopy" 5 + 11) ≤ R.locals) (K : ∀ T' h' L, Stand p l e R s m args below meth c T' L cells slots → T'.heap = h' → Fr n0 L → Keep h h' [b] → Ax Z h' b ty z2 → Ends p.tables e below s Q C S (T'.setTop (mkF m n Ls (rest)))) : Ends p.tables e below s Q C S (T.setTop (mkF m pc Ls (.int nn :: .int dp :: .ref b :: .int sp :: .ref a :: rest))) := by
  obtain ⟨k, vs, hl, A⟩ := A
  obtain ⟨k2, vd, hl2, B⟩ := B
  exact arrCopy n W X hx hZ hown w1 w2 w3 w4 eT A B hty h1 h2 h3 h4 h5 (by rw [hl2]; exact h5) N ge hsz hd hn hf hW hlo (fun T1 hh1 L1 vs1 X1 e1 N1 K1 _ q V1 => K T1 hh1 L1 X1 e1 N1 K1 ⟨k2, vs1, q.trans hl2, V1⟩)
end Walk
end Jvm.Own
namespace Jvm.Pilot.@@N@@
open Jvm Jvm.ClassFile Sem Op Lib Jvm.Free Jvm.Stand Jvm.LawKit Jvm.RoadKit Bundle Jvm.Pilot.@@N@@.Jvm.D
theorem pd_0 : parseMethodDescriptor "(I)V" = some ⟨[.int], none⟩ := by decide +kernel
theorem pd_1 : parseMethodDescriptor "(II)V" = some ⟨[.int, .int], none⟩ := by decide +kernel
theorem pd_2 : parseMethodDescriptor "(CC)Lcom/example/hold_steady/holdsteady/server/Bytes;" = some ⟨[.char, .char], some (.object "com/example/hold_steady/holdsteady/server/Bytes")⟩ := by decide +kernel
theorem pd_3 : parseMethodDescriptor "(IIB)I" = some ⟨[.int, .int, .byte], some .int⟩ := by decide +kernel
theorem pd_4 : parseMethodDescriptor "(IIIBB)Z" = some ⟨[.int, .int, .int, .byte, .byte], some .boolean⟩ := by decide +kernel

def own_hit (i : Int) (f t b v : Int32) : Prop := f.toInt ≤ i ∧ i < t.toInt ∧ v.toInt = b.toInt
def own_is (f t b v0 v1 v2 v3 r : Int32) : Prop := (r.toInt = 0 ∧ own_hit 0 f t b v0) ∨ (r.toInt = 1 ∧ ¬ own_hit 0 f t b v0 ∧ own_hit 1 f t b v1) ∨ (r.toInt = 2 ∧ ¬ own_hit 0 f t b v0 ∧ ¬ own_hit 1 f t b v1 ∧ own_hit 2 f t b v2) ∨ (r.toInt = 3 ∧ ¬ own_hit 0 f t b v0 ∧ ¬ own_hit 1 f t b v1 ∧ ¬ own_hit 2 f t b v2 ∧ own_hit 3 f t b v3) ∨ (r.toInt = -1 ∧ ¬ own_hit 0 f t b v0 ∧ ¬ own_hit 1 f t b v1 ∧ ¬ own_hit 2 f t b v2 ∧ ¬ own_hit 3 f t b v3)
theorem own_is_eq {f t b v0 v1 v2 v3 r r' : Int32} (h : own_is f t b v0 v1 v2 v3 r) (h' : own_is f t b v0 v1 v2 v3 r') : r = r' := by
  apply Int32.toInt_inj.mp
  unfold own_is own_hit at *
  omega
theorem own_b8 (x : Int32) : x.toInt8.toInt32.toInt8.toInt32 = x.toInt8.toInt32 := by
  have a := c_i2b x
  have b := c_i2b x.toInt8.toInt32
  apply Int32.toInt_inj.mp
  omega
theorem own_c8 (y : Int32) : (y &&& 255).toUInt32.toUInt16.toUInt32.toInt32.toInt8.toInt32 = y.toInt8.toInt32 := by
  have a := c_i2b y
  have b := c_i2c (y &&& 255)
  have c := c_mask y 255 8 (by decide) (by decide)
  have d := c_i2b (y &&& 255).toUInt32.toUInt16.toUInt32.toInt32
  apply Int32.toInt_inj.mp
  omega
theorem own_five (x : Int32) : 0 ≤ ((x &&& 2147483647) % 5).toInt ∧ ((x &&& 2147483647) % 5).toInt < 5 := by
  have a := c_mask x 2147483647 31 (by decide) (by decide)
  have b := c_irem (x &&& 2147483647) 5 5 (by decide)
  omega
theorem own_lit5 {x : Int32} (h : 0 ≤ x.toInt ∧ x.toInt < 5) : x = 0 ∨ x = 1 ∨ x = 2 ∨ x = 3 ∨ x = 4 := by
  simp only [← Int32.toInt_inj, show (0 : Int32).toInt = 0 from by decide, show (1 : Int32).toInt = 1 from by decide, show (2 : Int32).toInt = 2 from by decide, show (3 : Int32).toInt = 3 from by decide, show (4 : Int32).toInt = 4 from by decide]
  omega
theorem own_t0 : (0 : Int32).toInt = 0 := by decide
theorem own_t1 : (1 : Int32).toInt = 1 := by decide
theorem own_t2 : (2 : Int32).toInt = 2 := by decide
theorem own_t3 : (3 : Int32).toInt = 3 := by decide
theorem own_t4 : (4 : Int32).toInt = 4 := by decide
theorem own_tm : (-1 : Int32).toInt = -1 := by decide

theorem d1_0 : decode prog_43_method_2_code 0 = .ok (.aload_n 0, 1) := by decide +kernel
theorem d1_1 : decode prog_43_method_2_code 1 = .ok (.invokespecial 10, 3) := by decide +kernel
theorem d1_4 : decode prog_43_method_2_code 4 = .ok (.aload_n 0, 1) := by decide +kernel
theorem d1_5 : decode prog_43_method_2_code 5 = .ok (.iload_n 1, 1) := by decide +kernel
theorem d1_6 : decode prog_43_method_2_code 6 = .ok (.newarray .byte, 2) := by decide +kernel
theorem d1_8 : decode prog_43_method_2_code 8 = .ok (.putfield 15, 3) := by decide +kernel
theorem d1_11 : decode prog_43_method_2_code 11 = .ok (.aload_n 0, 1) := by decide +kernel
theorem d1_12 : decode prog_43_method_2_code 12 = .ok (.iload_n 2, 1) := by decide +kernel
theorem d1_13 : decode prog_43_method_2_code 13 = .ok (.putfield 19, 3) := by decide +kernel
theorem d1_16 : decode prog_43_method_2_code 16 = .ok (.return_, 1) := by decide +kernel
set_option maxRecDepth 65536 in
set_option maxHeartbeats 40000000 in
theorem m1 (l : Launch) (Z : State) (a0 : Array Value) (w : ∀ (i : Nat) {d : Jvm.Cond}, tables_1[i]? = some d → d.before a0 Z = true) (a : Addr) (u1 u2 u3 : Value) (n0 : Nat) (h0 : Heap) (Z0 : n0 ≤ h0.size) (E_a : Exa Z h0 a "com/example/hold_steady/holdsteady/server/Bytes") (F1 : Fld Z h0 a "com/example/hold_steady/holdsteady/server/Bytes" "array" "[B" u1) (F2 : Fld Z h0 a "com/example/hold_steady/holdsteady/server/Bytes" "ceiling" "I" u2) (F3 : Fld Z h0 a "com/example/hold_steady/holdsteady/server/Bytes" "end" "I" u3) (g_a : n0 ≤ a) :
    Own.Met l Z (⟨"com/example/hold_steady/holdsteady/server/Bytes", "<init>", "(II)V"⟩ : MethodName) prog_43_method_2_code 3 none [] ({ frames := 1, cells := 1, slots := 4, locals := 12 } : Room) #[(.ref a), (.int (4 : Int32)), (.int (4 : Int32))] h0 (fun v h L => v = none ∧ Fr n0 L ∧ Keep h0 h [a] ∧ ∃ (b : Addr) (k : ClassId), n0 ≤ b ∧ h0.size ≤ b ∧ Fld Z h a "com/example/hold_steady/holdsteady/server/Bytes" "array" "[B" (.ref b) ∧ Fld Z h a "com/example/hold_steady/holdsteady/server/Bytes" "end" "I" u3 ∧ Arv Z h b k .byte (4 : Int32) [(.int (0 : Int32)), (.int (0 : Int32)), (.int (0 : Int32)), (.int (0 : Int32))] (.int (0 : Int32))) := by
  refine Own.Met.of (plainFor_of_name (by first | (simp [plainName, overriddenIn]; done) | decide +kernel)) ?_
  intro p e s m below meth c T0 hx hby hml hown hnm hret hlk hZ X0 e0
  have hown : s.vm.findClass "com/example/hold_steady/holdsteady/server/Bytes" = some m.cls := hown
  have hml : c.maxLocals = 3 := hml
  have hnm : meth.name = "<init>" := hnm
  have ef : entryFrame m #[(.ref a), (.int (4 : Int32)), (.int (4 : Int32))] 3 = mkF m 0 #[.val (.ref a), .val (.int (4 : Int32)), .val (.int (4 : Int32))] [] := by first | (simp [entryFrame, mkF, argsToLocals, Value.category]; done) | rfl
  rw [ef]
  have N0 := Fr.nil n0
  refine Own.aloadN 1 X0 hx (hb hby d1_0) rfl rfl rfl ?_
  refine Own.initObj 4 0 X0 hx hZ hown (w 7 rfl) (w 8 rfl) (w 9 rfl) e0 (by rw [hml]; rfl) (hb hby d1_1) rfl (by decide) (Nat.le_of_eq rfl) (by decide) ?_
  intro T1 X1 e1
  refine Own.aloadN 5 X1 hx (hb hby d1_4) rfl rfl rfl ?_
  refine Own.iloadN 6 X1 hx (hb hby d1_5) rfl rfl ?_
  refine Own.newArr 8 4 X1 hx hZ (w 10 rfl) e1 (by decide) (by decide) (by decide) (hb hby d1_6) rfl (by decide) (by decide) ?_
  intro T2 h2 b k2 z2 X2 e2 E2 A2
  have ne_a_b : a ≠ b := Nat.ne_of_lt (Nat.lt_of_lt_of_le E_a.lt (Nat.le_of_eq z2.symm))
  have g_b : n0 ≤ b := Nat.le_trans Z0 (Nat.le_of_eq z2.symm)
  have sz_b : h0.size ≤ b := Nat.le_trans (Keep.refl h0 [a]).1 (Nat.le_of_eq z2.symm)
  have K2 := (Keep.refl h0 [a]).ext E2
  have Ef_4 := E_a.ext E2
  have Ff_5 := F1.ext E2
  have Ff_6 := F2.ext E2
  have Ff_7 := F3.ext E2
  have zl2 := Nat.le_trans Z0 E2.1
  have V2 : Arv Z h2 b k2 .byte (4 : Int32) [(.int (0 : Int32)), (.int (0 : Int32)), (.int (0 : Int32)), (.int (0 : Int32))] (.int (0 : Int32)) := A2
  refine Own.putFld 11 X2 hx hZ hown (host := "") (Or.inl (w 11 rfl)) Via.refl e2 Ff_5 Ef_4 (Or.inl (w 12 rfl)) (w 2 rfl) (ty := (.array .byte)) (by decide) rfl rfl (hb hby d1_8) rfl ?_
  intro T8 h8 X8 e8 W8
  have N8 := Fr.snoc X8 N0 g_a
  have Ef_10 := Ef_4.wr W8
  have Ff_11 := Ff_5.same W8
  have Ff_12 := Ff_6.other W8 (Or.inr (slot_ne (Or.inr (w 14 rfl)) (Or.inl (w 12 rfl)) (by decide) (t := .int) (t' := (.array .byte)) (by decide) (by decide)))
  have Ff_13 := Ff_7.other W8 (Or.inr (slot_ne (Or.inl (w 25 rfl)) (Or.inl (w 12 rfl)) (by decide) (t := .int) (t' := (.array .byte)) (by decide) (by decide)))
  have Vf_14 := V2.other W8 (Ne.symm ne_a_b)
  have zl8 := Nat.le_trans zl2 (Nat.le_of_eq W8.size.symm)
  have K8 := K2.wr W8 (Or.inl (List.mem_of_getElem? (i := 0) rfl))
  refine Own.aloadN 12 X8 hx (hb hby d1_11) rfl rfl rfl ?_
  refine Own.iloadN 13 X8 hx (hb hby d1_12) rfl rfl ?_
  refine Own.putFld 16 X8 hx hZ hown (host := "") (Or.inl (w 13 rfl)) Via.refl e8 Ff_12 Ef_10 (Or.inr ⟨(w 14 rfl), rfl, hnm⟩) (w 2 rfl) (ty := .int) (by decide) rfl rfl (hb hby d1_13) rfl ?_
  intro T15 h15 X15 e15 W15
  have N15 := Fr.snoc X15 N8 g_a
  have Ef_17 := Ef_10.wr W15
  have Ff_18 := Ff_11.other W15 (Or.inr (slot_ne (Or.inl (w 12 rfl)) (Or.inr (w 14 rfl)) (by decide) (t := (.array .byte)) (t' := .int) (by decide) (by decide)))
  have Ff_19 := Ff_12.same W15
  have Ff_20 := Ff_13.other W15 (Or.inr (slot_ne (Or.inl (w 25 rfl)) (Or.inr (w 14 rfl)) (by decide) (t := .int) (t' := .int) (by decide) (by decide)))
  have Vf_21 := Vf_14.other W15 (Ne.symm ne_a_b)
  have zl15 := Nat.le_trans zl8 (Nat.le_of_eq W15.size.symm)
  have K15 := K8.wr W15 (Or.inl (List.mem_of_getElem? (i := 0) rfl))
  refine Own.retVoid X15 hx hlk hret (hb hby d1_16) (by decide) (by decide) ?_
  rw [e15]
  exact ⟨rfl, N15, K15, b, k2, g_b, sz_b, Ff_18, Ff_20, Vf_21⟩
theorem d4_0 : decode prog_43_method_22_code 0 = .ok (.aload_n 0, 1) := by decide +kernel
theorem d4_1 : decode prog_43_method_22_code 1 = .ok (.getfield 15, 3) := by decide +kernel
theorem d4_4 : decode prog_43_method_22_code 4 = .ok (.arraylength, 1) := by decide +kernel
theorem d4_5 : decode prog_43_method_22_code 5 = .ok (.aload_n 0, 1) := by decide +kernel
theorem d4_6 : decode prog_43_method_22_code 6 = .ok (.getfield 26, 3) := by decide +kernel
theorem d4_9 : decode prog_43_method_22_code 9 = .ok (.isub, 1) := by decide +kernel
theorem d4_10 : decode prog_43_method_22_code 10 = .ok (.iload_n 1, 1) := by decide +kernel
theorem d4_11 : decode prog_43_method_22_code 11 = .ok (.if_icmp .lt 4, 3) := by decide +kernel
theorem d4_14 : decode prog_43_method_22_code 14 = .ok (.return_, 1) := by decide +kernel
set_option maxRecDepth 65536 in
set_option maxHeartbeats 40000000 in
theorem m4 (l : Launch) (Z : State) (a0 : Array Value) (w : ∀ (i : Nat) {d : Jvm.Cond}, tables_1[i]? = some d → d.before a0 Z = true) (a : Addr) (b : Addr) (k : ClassId) (v0 v1 v2 v3 en : Int32) (h0 : Heap) (F1 : Fld Z h0 a "com/example/hold_steady/holdsteady/server/Bytes" "array" "[B" (.ref b)) (F3 : Fld Z h0 a "com/example/hold_steady/holdsteady/server/Bytes" "end" "I" (.int en)) (V1 : Arv Z h0 b k .byte (4 : Int32) [(.int v0), (.int v1), (.int v2), (.int v3)] (.int (0 : Int32))) (hen : ¬ ((4 : Int32) - en) < 2) :
    Own.Met l Z (⟨"com/example/hold_steady/holdsteady/server/Bytes", "room", "(I)V"⟩ : MethodName) prog_43_method_22_code 8 none [] ({ frames := 0, cells := 0, slots := 0, locals := 0 } : Room) #[(.ref a), (.int (2 : Int32))] h0 (fun v h L => v = none ∧ h = h0 ∧ L = []) := by
  refine Own.Met.of (plainFor_of_name (by first | (simp [plainName, overriddenIn]; done) | decide +kernel)) ?_
  intro p e s m below meth c T0 hx hby hml hown hnm hret hlk hZ X0 e0
  have hown : s.vm.findClass "com/example/hold_steady/holdsteady/server/Bytes" = some m.cls := hown
  have hml : c.maxLocals = 8 := hml
  have hnm : meth.name = "room" := hnm
  have ef : entryFrame m #[(.ref a), (.int (2 : Int32))] 8 = mkF m 0 #[.val (.ref a), .val (.int (2 : Int32)), .unset, .unset, .unset, .unset, .unset, .unset] [] := by first | (simp [entryFrame, mkF, argsToLocals, Value.category]; done) | rfl
  rw [ef]
  refine Own.aloadN 1 X0 hx (hb hby d4_0) rfl rfl rfl ?_
  refine Own.getFld 4 X0 hx hZ hown (host := "") (Or.inl (w 11 rfl)) Via.refl e0 F1 (hb hby d4_1) rfl ?_
  intro T1 X1 e1
  refine Own.arrLen 5 X1 hx hZ e1 V1 (hb hby d4_4) rfl ?_
  refine Own.aloadN 6 X1 hx (hb hby d4_5) rfl rfl rfl ?_
  refine Own.getFld 9 X1 hx hZ hown (host := "") (Or.inl (w 24 rfl)) Via.refl e1 F3 (hb hby d4_6) rfl ?_
  intro T2 X2 e2
  refine Own.isub 10 X2 hx (hb hby d4_9) rfl rfl ?_
  refine Own.iloadN 11 X2 hx (hb hby d4_10) rfl rfl ?_
  refine Own.icmp_lt 15 14 X2 hx (hb hby d4_11) (by decide) rfl (fun tk => absurd tk hen) (fun tk => ?_)
  refine Own.retVoid X2 hx hlk hret (hb hby d4_14) (by decide) (by decide) ?_
  exact ⟨rfl, e2, rfl⟩
theorem d3_0 : decode prog_43_method_19_code 0 = .ok (.aload_n 0, 1) := by decide +kernel
theorem d3_1 : decode prog_43_method_19_code 1 = .ok (.iconst 2, 1) := by decide +kernel
theorem d3_2 : decode prog_43_method_19_code 2 = .ok (.invokevirtual 56, 3) := by decide +kernel
theorem d3_5 : decode prog_43_method_19_code 5 = .ok (.aload_n 0, 1) := by decide +kernel
theorem d3_6 : decode prog_43_method_19_code 6 = .ok (.getfield 15, 3) := by decide +kernel
theorem d3_9 : decode prog_43_method_19_code 9 = .ok (.aload_n 0, 1) := by decide +kernel
theorem d3_10 : decode prog_43_method_19_code 10 = .ok (.getfield 26, 3) := by decide +kernel
theorem d3_13 : decode prog_43_method_19_code 13 = .ok (.iload_n 1, 1) := by decide +kernel
theorem d3_14 : decode prog_43_method_19_code 14 = .ok (.i2b, 1) := by decide +kernel
theorem d3_15 : decode prog_43_method_19_code 15 = .ok (.bastore, 1) := by decide +kernel
theorem d3_16 : decode prog_43_method_19_code 16 = .ok (.aload_n 0, 1) := by decide +kernel
theorem d3_17 : decode prog_43_method_19_code 17 = .ok (.getfield 15, 3) := by decide +kernel
theorem d3_20 : decode prog_43_method_19_code 20 = .ok (.aload_n 0, 1) := by decide +kernel
theorem d3_21 : decode prog_43_method_19_code 21 = .ok (.getfield 26, 3) := by decide +kernel
theorem d3_24 : decode prog_43_method_19_code 24 = .ok (.iconst 1, 1) := by decide +kernel
theorem d3_25 : decode prog_43_method_19_code 25 = .ok (.iadd, 1) := by decide +kernel
theorem d3_26 : decode prog_43_method_19_code 26 = .ok (.iload_n 2, 1) := by decide +kernel
theorem d3_27 : decode prog_43_method_19_code 27 = .ok (.i2b, 1) := by decide +kernel
theorem d3_28 : decode prog_43_method_19_code 28 = .ok (.bastore, 1) := by decide +kernel
theorem d3_29 : decode prog_43_method_19_code 29 = .ok (.aload_n 0, 1) := by decide +kernel
theorem d3_30 : decode prog_43_method_19_code 30 = .ok (.dup, 1) := by decide +kernel
theorem d3_31 : decode prog_43_method_19_code 31 = .ok (.getfield 26, 3) := by decide +kernel
theorem d3_34 : decode prog_43_method_19_code 34 = .ok (.iconst 2, 1) := by decide +kernel
theorem d3_35 : decode prog_43_method_19_code 35 = .ok (.iadd, 1) := by decide +kernel
theorem d3_36 : decode prog_43_method_19_code 36 = .ok (.putfield 26, 3) := by decide +kernel
theorem d3_39 : decode prog_43_method_19_code 39 = .ok (.aload_n 0, 1) := by decide +kernel
theorem d3_40 : decode prog_43_method_19_code 40 = .ok (.areturn, 1) := by decide +kernel
set_option maxRecDepth 65536 in
set_option maxHeartbeats 40000000 in
theorem m3_0 (l : Launch) (Z : State) (a0 : Array Value) (w : ∀ (i : Nat) {d : Jvm.Cond}, tables_1[i]? = some d → d.before a0 Z = true) (a : Addr) (x1 : Int32) (x2 : Int32) (b : Addr) (k : ClassId) (v0 v1 v2 v3 : Int32) (n0 : Nat) (h0 : Heap) (Z0 : n0 ≤ h0.size) (E_a : Exa Z h0 a "com/example/hold_steady/holdsteady/server/Bytes") (F1 : Fld Z h0 a "com/example/hold_steady/holdsteady/server/Bytes" "array" "[B" (.ref b)) (F3 : Fld Z h0 a "com/example/hold_steady/holdsteady/server/Bytes" "end" "I" (.int (0 : Int32))) (V1 : Arv Z h0 b k .byte (4 : Int32) [(.int v0), (.int v1), (.int v2), (.int v3)] (.int (0 : Int32))) (g_a : n0 ≤ a) (g_b : n0 ≤ b) (ne_a_b : a ≠ b) :
    Own.Met l Z (⟨"com/example/hold_steady/holdsteady/server/Bytes", "addPair", "(CC)Lcom/example/hold_steady/holdsteady/server/Bytes;"⟩ : MethodName) prog_43_method_19_code 3 (some (.object "com/example/hold_steady/holdsteady/server/Bytes")) [] ({ frames := 1, cells := 0, slots := 0, locals := 19 } : Room) #[(.ref a), (.int x1), (.int x2)] h0 (fun v h L => v = some (.ref a) ∧ Fr n0 L ∧ Keep h0 h [a, b] ∧ Fld Z h a "com/example/hold_steady/holdsteady/server/Bytes" "array" "[B" (.ref b) ∧ Fld Z h a "com/example/hold_steady/holdsteady/server/Bytes" "end" "I" (.int (2 : Int32)) ∧ Arv Z h b k .byte (4 : Int32) [(.int x1.toInt8.toInt32), (.int x2.toInt8.toInt32), (.int v2), (.int v3)] (.int (0 : Int32))) := by
  refine Own.Met.of (plainFor_of_name (by first | (simp [plainName, overriddenIn]; done) | decide +kernel)) ?_
  intro p e s m below meth c T0 hx hby hml hown hnm hret hlk hZ X0 e0
  have hown : s.vm.findClass "com/example/hold_steady/holdsteady/server/Bytes" = some m.cls := hown
  have hml : c.maxLocals = 3 := hml
  have hnm : meth.name = "addPair" := hnm
  have ef : entryFrame m #[(.ref a), (.int x1), (.int x2)] 3 = mkF m 0 #[.val (.ref a), .val (.int x1), .val (.int x2)] [] := by first | (simp [entryFrame, mkF, argsToLocals, Value.category]; done) | rfl
  rw [ef]
  have N0 := Fr.nil n0
  refine Own.aloadN 1 X0 hx (hb hby d3_0) rfl rfl rfl ?_
  refine Own.iconst 2 X0 hx ((2 : Int32)) (hb hby d3_1) rfl rfl ?_
  refine Own.callPr 5 0 a [(.int (2 : Int32))] [] X0 hx hZ hown (m4 l Z a0 w a b k v0 v1 v2 v3 (0 : Int32) h0 F1 F3 V1 (by decide)) E_a (w 20 rfl) (w 22 rfl) (w 2 rfl) (w 21 rfl) (w 3 rfl) (w 23 rfl) (by decide) e0 (by decide) (by decide) (by decide) (by decide) (by rw [hml]; rfl) (lenOf pd_0 rfl) rfl (Nat.le_of_eq rfl) (hb hby d3_2) rfl ?_
  rintro vv T1 L1 X1 ⟨rfl, hh1, rfl⟩
  have N1 := Fr.app N0 (Fr.nil _)
  refine Own.aloadN 6 X1 hx (hb hby d3_5) rfl rfl rfl ?_
  refine Own.getFld 9 X1 hx hZ hown (host := "") (Or.inl (w 11 rfl)) Via.refl hh1 F1 (hb hby d3_6) rfl ?_
  intro T2 X2 e2
  refine Own.aloadN 10 X2 hx (hb hby d3_9) rfl rfl rfl ?_
  refine Own.getFld 13 X2 hx hZ hown (host := "") (Or.inl (w 24 rfl)) Via.refl e2 F3 (hb hby d3_10) rfl ?_
  intro T3 X3 e3
  refine Own.iloadN 14 X3 hx (hb hby d3_13) rfl rfl ?_
  refine Own.i2b 15 X3 hx (hb hby d3_14) rfl rfl ?_
  refine Own.bastore 16 X3 hx hZ e3 V1 (by decide) (Nat.le_of_ble_eq_true rfl) (hb hby d3_15) rfl ?_
  intro T4 h4 X4 e4 W4 A4
  have N4 := Fr.snoc X4 N1 g_b
  have Ef_6 := E_a.wr W4
  have Ff_7 := F1.other W4 (Or.inl ne_a_b)
  have Ff_8 := F3.other W4 (Or.inl ne_a_b)
  have zl4 := Nat.le_trans Z0 (Nat.le_of_eq W4.size.symm)
  have K4 := (Keep.refl h0 [a, b]).wr W4 (Or.inl (List.mem_of_getElem? (i := 1) rfl))
  have V4 : Arv Z h4 b k .byte (4 : Int32) [(.int x1.toInt8.toInt32), (.int v1), (.int v2), (.int v3)] (.int (0 : Int32)) := own_b8 x1 ▸ A4
  refine Own.aloadN 17 X4 hx (hb hby d3_16) rfl rfl rfl ?_
  refine Own.getFld 20 X4 hx hZ hown (host := "") (Or.inl (w 11 rfl)) Via.refl e4 Ff_7 (hb hby d3_17) rfl ?_
  intro T10 X10 e10
  refine Own.aloadN 21 X10 hx (hb hby d3_20) rfl rfl rfl ?_
  refine Own.getFld 24 X10 hx hZ hown (host := "") (Or.inl (w 24 rfl)) Via.refl e10 Ff_8 (hb hby d3_21) rfl ?_
  intro T11 X11 e11
  refine Own.iconst 25 X11 hx ((1 : Int32)) (hb hby d3_24) rfl rfl ?_
  refine Own.iadd 26 X11 hx (hb hby d3_25) rfl (show ((0 : Int32) + (1 : Int32)) = (1 : Int32) by decide) ?_
  refine Own.iloadN 27 X11 hx (hb hby d3_26) rfl rfl ?_
  refine Own.i2b 28 X11 hx (hb hby d3_27) rfl rfl ?_
  refine Own.bastore 29 X11 hx hZ e11 V4 (by decide) (Nat.le_of_ble_eq_true rfl) (hb hby d3_28) rfl ?_
  intro T12 h12 X12 e12 W12 A12
  have N12 := Fr.snoc X12 N4 g_b
  have Ef_14 := Ef_6.wr W12
  have Ff_15 := Ff_7.other W12 (Or.inl ne_a_b)
  have Ff_16 := Ff_8.other W12 (Or.inl ne_a_b)
  have zl12 := Nat.le_trans zl4 (Nat.le_of_eq W12.size.symm)
  have K12 := K4.wr W12 (Or.inl (List.mem_of_getElem? (i := 1) rfl))
  have V12 : Arv Z h12 b k .byte (4 : Int32) [(.int x1.toInt8.toInt32), (.int x2.toInt8.toInt32), (.int v2), (.int v3)] (.int (0 : Int32)) := own_b8 x2 ▸ A12
  refine Own.aloadN 30 X12 hx (hb hby d3_29) rfl rfl rfl ?_
  refine Own.dup 31 X12 hx (hb hby d3_30) rfl rfl ?_
  refine Own.getFld 34 X12 hx hZ hown (host := "") (Or.inl (w 24 rfl)) Via.refl e12 Ff_16 (hb hby d3_31) rfl ?_
  intro T18 X18 e18
  refine Own.iconst 35 X18 hx ((2 : Int32)) (hb hby d3_34) rfl rfl ?_
  refine Own.iadd 36 X18 hx (hb hby d3_35) rfl (show ((0 : Int32) + (2 : Int32)) = (2 : Int32) by decide) ?_
  refine Own.putFld 39 X18 hx hZ hown (host := "") (Or.inl (w 24 rfl)) Via.refl e18 Ff_16 Ef_14 (Or.inl (w 25 rfl)) (w 2 rfl) (ty := .int) (by decide) rfl rfl (hb hby d3_36) rfl ?_
  intro T19 h19 X19 e19 W19
  have N19 := Fr.snoc X19 N12 g_a
  have Ef_21 := Ef_14.wr W19
  have Ff_22 := Ff_15.other W19 (Or.inr (slot_ne (Or.inl (w 12 rfl)) (Or.inl (w 25 rfl)) (by decide) (t := (.array .byte)) (t' := .int) (by decide) (by decide)))
  have Ff_23 := Ff_16.same W19
  have Vf_24 := V12.other W19 (Ne.symm ne_a_b)
  have zl19 := Nat.le_trans zl12 (Nat.le_of_eq W19.size.symm)
  have K19 := K12.wr W19 (Or.inl (List.mem_of_getElem? (i := 0) rfl))
  refine Own.aloadN 40 X19 hx (hb hby d3_39) rfl rfl rfl ?_
  refine Own.retRef X19 hx hlk rfl hret rfl (hb hby d3_40) (by decide) (by decide) ?_
  rw [e19]
  exact ⟨rfl, N19, K19, Ff_22, Ff_23, Vf_24⟩
set_option maxRecDepth 65536 in
set_option maxHeartbeats 40000000 in
theorem m3_2 (l : Launch) (Z : State) (a0 : Array Value) (w : ∀ (i : Nat) {d : Jvm.Cond}, tables_1[i]? = some d → d.before a0 Z = true) (a : Addr) (x1 : Int32) (x2 : Int32) (b : Addr) (k : ClassId) (v0 v1 v2 v3 : Int32) (n0 : Nat) (h0 : Heap) (Z0 : n0 ≤ h0.size) (E_a : Exa Z h0 a "com/example/hold_steady/holdsteady/server/Bytes") (F1 : Fld Z h0 a "com/example/hold_steady/holdsteady/server/Bytes" "array" "[B" (.ref b)) (F3 : Fld Z h0 a "com/example/hold_steady/holdsteady/server/Bytes" "end" "I" (.int (2 : Int32))) (V1 : Arv Z h0 b k .byte (4 : Int32) [(.int v0), (.int v1), (.int v2), (.int v3)] (.int (0 : Int32))) (g_a : n0 ≤ a) (g_b : n0 ≤ b) (ne_a_b : a ≠ b) :
    Own.Met l Z (⟨"com/example/hold_steady/holdsteady/server/Bytes", "addPair", "(CC)Lcom/example/hold_steady/holdsteady/server/Bytes;"⟩ : MethodName) prog_43_method_19_code 3 (some (.object "com/example/hold_steady/holdsteady/server/Bytes")) [] ({ frames := 1, cells := 0, slots := 0, locals := 19 } : Room) #[(.ref a), (.int x1), (.int x2)] h0 (fun v h L => v = some (.ref a) ∧ Fr n0 L ∧ Keep h0 h [a, b] ∧ Fld Z h a "com/example/hold_steady/holdsteady/server/Bytes" "array" "[B" (.ref b) ∧ Fld Z h a "com/example/hold_steady/holdsteady/server/Bytes" "end" "I" (.int (4 : Int32)) ∧ Arv Z h b k .byte (4 : Int32) [(.int v0), (.int v1), (.int x1.toInt8.toInt32), (.int x2.toInt8.toInt32)] (.int (0 : Int32))) := by
  refine Own.Met.of (plainFor_of_name (by first | (simp [plainName, overriddenIn]; done) | decide +kernel)) ?_
  intro p e s m below meth c T0 hx hby hml hown hnm hret hlk hZ X0 e0
  have hown : s.vm.findClass "com/example/hold_steady/holdsteady/server/Bytes" = some m.cls := hown
  have hml : c.maxLocals = 3 := hml
  have hnm : meth.name = "addPair" := hnm
  have ef : entryFrame m #[(.ref a), (.int x1), (.int x2)] 3 = mkF m 0 #[.val (.ref a), .val (.int x1), .val (.int x2)] [] := by first | (simp [entryFrame, mkF, argsToLocals, Value.category]; done) | rfl
  rw [ef]
  have N0 := Fr.nil n0
  refine Own.aloadN 1 X0 hx (hb hby d3_0) rfl rfl rfl ?_
  refine Own.iconst 2 X0 hx ((2 : Int32)) (hb hby d3_1) rfl rfl ?_
  refine Own.callPr 5 0 a [(.int (2 : Int32))] [] X0 hx hZ hown (m4 l Z a0 w a b k v0 v1 v2 v3 (2 : Int32) h0 F1 F3 V1 (by decide)) E_a (w 20 rfl) (w 22 rfl) (w 2 rfl) (w 21 rfl) (w 3 rfl) (w 23 rfl) (by decide) e0 (by decide) (by decide) (by decide) (by decide) (by rw [hml]; rfl) (lenOf pd_0 rfl) rfl (Nat.le_of_eq rfl) (hb hby d3_2) rfl ?_
  rintro vv T1 L1 X1 ⟨rfl, hh1, rfl⟩
  have N1 := Fr.app N0 (Fr.nil _)
  refine Own.aloadN 6 X1 hx (hb hby d3_5) rfl rfl rfl ?_
  refine Own.getFld 9 X1 hx hZ hown (host := "") (Or.inl (w 11 rfl)) Via.refl hh1 F1 (hb hby d3_6) rfl ?_
  intro T2 X2 e2
  refine Own.aloadN 10 X2 hx (hb hby d3_9) rfl rfl rfl ?_
  refine Own.getFld 13 X2 hx hZ hown (host := "") (Or.inl (w 24 rfl)) Via.refl e2 F3 (hb hby d3_10) rfl ?_
  intro T3 X3 e3
  refine Own.iloadN 14 X3 hx (hb hby d3_13) rfl rfl ?_
  refine Own.i2b 15 X3 hx (hb hby d3_14) rfl rfl ?_
  refine Own.bastore 16 X3 hx hZ e3 V1 (by decide) (Nat.le_of_ble_eq_true rfl) (hb hby d3_15) rfl ?_
  intro T4 h4 X4 e4 W4 A4
  have N4 := Fr.snoc X4 N1 g_b
  have Ef_6 := E_a.wr W4
  have Ff_7 := F1.other W4 (Or.inl ne_a_b)
  have Ff_8 := F3.other W4 (Or.inl ne_a_b)
  have zl4 := Nat.le_trans Z0 (Nat.le_of_eq W4.size.symm)
  have K4 := (Keep.refl h0 [a, b]).wr W4 (Or.inl (List.mem_of_getElem? (i := 1) rfl))
  have V4 : Arv Z h4 b k .byte (4 : Int32) [(.int v0), (.int v1), (.int x1.toInt8.toInt32), (.int v3)] (.int (0 : Int32)) := own_b8 x1 ▸ A4
  refine Own.aloadN 17 X4 hx (hb hby d3_16) rfl rfl rfl ?_
  refine Own.getFld 20 X4 hx hZ hown (host := "") (Or.inl (w 11 rfl)) Via.refl e4 Ff_7 (hb hby d3_17) rfl ?_
  intro T10 X10 e10
  refine Own.aloadN 21 X10 hx (hb hby d3_20) rfl rfl rfl ?_
  refine Own.getFld 24 X10 hx hZ hown (host := "") (Or.inl (w 24 rfl)) Via.refl e10 Ff_8 (hb hby d3_21) rfl ?_
  intro T11 X11 e11
  refine Own.iconst 25 X11 hx ((1 : Int32)) (hb hby d3_24) rfl rfl ?_
  refine Own.iadd 26 X11 hx (hb hby d3_25) rfl (show ((2 : Int32) + (1 : Int32)) = (3 : Int32) by decide) ?_
  refine Own.iloadN 27 X11 hx (hb hby d3_26) rfl rfl ?_
  refine Own.i2b 28 X11 hx (hb hby d3_27) rfl rfl ?_
  refine Own.bastore 29 X11 hx hZ e11 V4 (by decide) (Nat.le_of_ble_eq_true rfl) (hb hby d3_28) rfl ?_
  intro T12 h12 X12 e12 W12 A12
  have N12 := Fr.snoc X12 N4 g_b
  have Ef_14 := Ef_6.wr W12
  have Ff_15 := Ff_7.other W12 (Or.inl ne_a_b)
  have Ff_16 := Ff_8.other W12 (Or.inl ne_a_b)
  have zl12 := Nat.le_trans zl4 (Nat.le_of_eq W12.size.symm)
  have K12 := K4.wr W12 (Or.inl (List.mem_of_getElem? (i := 1) rfl))
  have V12 : Arv Z h12 b k .byte (4 : Int32) [(.int v0), (.int v1), (.int x1.toInt8.toInt32), (.int x2.toInt8.toInt32)] (.int (0 : Int32)) := own_b8 x2 ▸ A12
  refine Own.aloadN 30 X12 hx (hb hby d3_29) rfl rfl rfl ?_
  refine Own.dup 31 X12 hx (hb hby d3_30) rfl rfl ?_
  refine Own.getFld 34 X12 hx hZ hown (host := "") (Or.inl (w 24 rfl)) Via.refl e12 Ff_16 (hb hby d3_31) rfl ?_
  intro T18 X18 e18
  refine Own.iconst 35 X18 hx ((2 : Int32)) (hb hby d3_34) rfl rfl ?_
  refine Own.iadd 36 X18 hx (hb hby d3_35) rfl (show ((2 : Int32) + (2 : Int32)) = (4 : Int32) by decide) ?_
  refine Own.putFld 39 X18 hx hZ hown (host := "") (Or.inl (w 24 rfl)) Via.refl e18 Ff_16 Ef_14 (Or.inl (w 25 rfl)) (w 2 rfl) (ty := .int) (by decide) rfl rfl (hb hby d3_36) rfl ?_
  intro T19 h19 X19 e19 W19
  have N19 := Fr.snoc X19 N12 g_a
  have Ef_21 := Ef_14.wr W19
  have Ff_22 := Ff_15.other W19 (Or.inr (slot_ne (Or.inl (w 12 rfl)) (Or.inl (w 25 rfl)) (by decide) (t := (.array .byte)) (t' := .int) (by decide) (by decide)))
  have Ff_23 := Ff_16.same W19
  have Vf_24 := V12.other W19 (Ne.symm ne_a_b)
  have zl19 := Nat.le_trans zl12 (Nat.le_of_eq W19.size.symm)
  have K19 := K12.wr W19 (Or.inl (List.mem_of_getElem? (i := 0) rfl))
  refine Own.aloadN 40 X19 hx (hb hby d3_39) rfl rfl rfl ?_
  refine Own.retRef X19 hx hlk rfl hret rfl (hb hby d3_40) (by decide) (by decide) ?_
  rw [e19]
  exact ⟨rfl, N19, K19, Ff_22, Ff_23, Vf_24⟩
theorem d5_0 : decode method_2_code 0 = .ok (.iload_n 1, 1) := by decide +kernel
theorem d5_1 : decode method_2_code 1 = .ok (.iload_n 0, 1) := by decide +kernel
theorem d5_2 : decode method_2_code 2 = .ok (.if_icmp .gt 18, 3) := by decide +kernel
theorem d5_5 : decode method_2_code 5 = .ok (.iload_n 0, 1) := by decide +kernel
theorem d5_6 : decode method_2_code 6 = .ok (.iload_n 2, 1) := by decide +kernel
theorem d5_7 : decode method_2_code 7 = .ok (.if_icmp .ge 13, 3) := by decide +kernel
theorem d5_10 : decode method_2_code 10 = .ok (.iload_n 3, 1) := by decide +kernel
theorem d5_11 : decode method_2_code 11 = .ok (.iload 4, 2) := by decide +kernel
theorem d5_13 : decode method_2_code 13 = .ok (.if_icmp .ne 7, 3) := by decide +kernel
theorem d5_16 : decode method_2_code 16 = .ok (.iconst 1, 1) := by decide +kernel
theorem d5_17 : decode method_2_code 17 = .ok (.goto 4, 3) := by decide +kernel
theorem d5_20 : decode method_2_code 20 = .ok (.iconst 0, 1) := by decide +kernel
theorem d5_21 : decode method_2_code 21 = .ok (.ireturn, 1) := by decide +kernel
set_option maxRecDepth 65536 in
set_option maxHeartbeats 40000000 in
theorem m5 (l : Launch) (Z : State) (a0 : Array Value) (w : ∀ (i : Nat) {d : Jvm.Cond}, tables_1[i]? = some d → d.before a0 Z = true) (x0 : Int32) (x1 : Int32) (x2 : Int32) (x3 : Int32) (x4 : Int32)  (h0 : Heap)  :
    Own.Met l Z (⟨"com/example/hold_steady/holdsteady/server/BytesIndexOfPinLaw", "hit", "(IIIBB)Z"⟩ : MethodName) method_2_code 5 (some .boolean) [] ({ frames := 0, cells := 0, slots := 0, locals := 0 } : Room) #[(.int x0), (.int x1), (.int x2), (.int x3), (.int x4)] h0 (fun v h L => ∃ r : Int32, v = some (.int r) ∧ (r.toInt = 1 ∧ own_hit x0.toInt x1 x2 x4 x3 ∨ r.toInt = 0 ∧ ¬ own_hit x0.toInt x1 x2 x4 x3) ∧ h = h0 ∧ L = []) := by
  refine Own.Met.of (plainFor_of_name (by first | (simp [plainName, overriddenIn]; done) | decide +kernel)) ?_
  intro p e s m below meth c T0 hx hby hml hown hnm hret hlk hZ X0 e0
  have hown : s.vm.findClass "com/example/hold_steady/holdsteady/server/BytesIndexOfPinLaw" = some m.cls := hown
  have hml : c.maxLocals = 5 := hml
  have hnm : meth.name = "hit" := hnm
  have ef : entryFrame m #[(.int x0), (.int x1), (.int x2), (.int x3), (.int x4)] 5 = mkF m 0 #[.val (.int x0), .val (.int x1), .val (.int x2), .val (.int x3), .val (.int x4)] [] := by first | (simp [entryFrame, mkF, argsToLocals, Value.category]; done) | rfl
  rw [ef]
  refine Own.iloadN 1 X0 hx (hb hby d5_0) rfl rfl ?_
  refine Own.iloadN 2 X0 hx (hb hby d5_1) rfl rfl ?_
  refine Own.icmp_gt 20 5 X0 hx (hb hby d5_2) (by decide) rfl (fun k1 => ?_) (fun k1 => ?_)
  ·
    refine Own.iconst 21 X0 hx ((0 : Int32)) (hb hby d5_20) rfl rfl ?_
    refine Own.retBool X0 hx hlk hret (hb hby d5_21) (by decide) (by decide) ?_
    exact ⟨0, rfl, Or.inr ⟨own_t0, fun q => by rw [Int32.lt_iff_toInt_lt] at k1; unfold own_hit at q; omega⟩, e0, rfl⟩
  ·
    refine Own.iloadN 6 X0 hx (hb hby d5_5) rfl rfl ?_
    refine Own.iloadN 7 X0 hx (hb hby d5_6) rfl rfl ?_
    refine Own.icmp_ge 20 10 X0 hx (hb hby d5_7) (by decide) rfl (fun k2 => ?_) (fun k2 => ?_)
    ·
      refine Own.iconst 21 X0 hx ((0 : Int32)) (hb hby d5_20) rfl rfl ?_
      refine Own.retBool X0 hx hlk hret (hb hby d5_21) (by decide) (by decide) ?_
      exact ⟨0, rfl, Or.inr ⟨own_t0, fun q => by rw [Int32.lt_iff_toInt_lt] at k2; unfold own_hit at q; omega⟩, e0, rfl⟩
    ·
      refine Own.iloadN 11 X0 hx (hb hby d5_10) rfl rfl ?_
      refine Own.iload 13 X0 hx (hb hby d5_11) rfl rfl ?_
      refine Own.icmp_ne 20 16 X0 hx (hb hby d5_13) (by decide) rfl (fun k3 => ?_) (fun k3 => ?_)
      ·
        refine Own.iconst 21 X0 hx ((0 : Int32)) (hb hby d5_20) rfl rfl ?_
        refine Own.retBool X0 hx hlk hret (hb hby d5_21) (by decide) (by decide) ?_
        exact ⟨0, rfl, Or.inr ⟨own_t0, fun q => k3 (Int32.toInt_inj.mp q.2.2)⟩, e0, rfl⟩
      ·
        refine Own.iconst 17 X0 hx ((1 : Int32)) (hb hby d5_16) rfl rfl ?_
        refine Own.goto 21 X0 hx (hb hby d5_17) (by decide) ?_
        refine Own.retBool X0 hx hlk hret (hb hby d5_21) (by decide) (by decide) ?_
        exact ⟨1, rfl, Or.inl ⟨own_t1, by rw [Int32.lt_iff_toInt_lt] at k1 k2; subst k3; exact ⟨by omega, k2, rfl⟩⟩, e0, rfl⟩
theorem d6_0 : decode prog_43_method_8_code 0 = .ok (.iload_n 1, 1) := by decide +kernel
theorem d6_1 : decode prog_43_method_8_code 1 = .ok (.istore 4, 2) := by decide +kernel
theorem d6_3 : decode prog_43_method_8_code 3 = .ok (.iload 4, 2) := by decide +kernel
theorem d6_5 : decode prog_43_method_8_code 5 = .ok (.iload_n 2, 1) := by decide +kernel
theorem d6_6 : decode prog_43_method_8_code 6 = .ok (.if_icmp .ge 23, 3) := by decide +kernel
theorem d6_9 : decode prog_43_method_8_code 9 = .ok (.aload_n 0, 1) := by decide +kernel
theorem d6_10 : decode prog_43_method_8_code 10 = .ok (.getfield 15, 3) := by decide +kernel
theorem d6_13 : decode prog_43_method_8_code 13 = .ok (.iload 4, 2) := by decide +kernel
theorem d6_15 : decode prog_43_method_8_code 15 = .ok (.baload, 1) := by decide +kernel
theorem d6_16 : decode prog_43_method_8_code 16 = .ok (.iload_n 3, 1) := by decide +kernel
theorem d6_17 : decode prog_43_method_8_code 17 = .ok (.if_icmp .ne 6, 3) := by decide +kernel
theorem d6_20 : decode prog_43_method_8_code 20 = .ok (.iload 4, 2) := by decide +kernel
theorem d6_22 : decode prog_43_method_8_code 22 = .ok (.ireturn, 1) := by decide +kernel
theorem d6_23 : decode prog_43_method_8_code 23 = .ok (.iinc 4 1, 3) := by decide +kernel
theorem d6_26 : decode prog_43_method_8_code 26 = .ok (.goto (-23), 3) := by decide +kernel
theorem d6_29 : decode prog_43_method_8_code 29 = .ok (.iconst (-1), 1) := by decide +kernel
theorem d6_30 : decode prog_43_method_8_code 30 = .ok (.ireturn, 1) := by decide +kernel
set_option maxRecDepth 65536 in
set_option maxHeartbeats 40000000 in
theorem m6 (l : Launch) (Z : State) (a0 : Array Value) (w : ∀ (i : Nat) {d : Jvm.Cond}, tables_1[i]? = some d → d.before a0 Z = true) (a : Addr) (x1 : Int32) (x2 : Int32) (x3 : Int32) (b : Addr) (k : ClassId) (v0 v1 v2 v3 : Int32) (h0 : Heap) (F1 : Fld Z h0 a "com/example/hold_steady/holdsteady/server/Bytes" "array" "[B" (.ref b)) (V1 : Arv Z h0 b k .byte (4 : Int32) [(.int v0), (.int v1), (.int v2), (.int v3)] (.int (0 : Int32))) (hf : 0 ≤ x1.toInt ∧ x1.toInt < 5) (ht : 0 ≤ x2.toInt ∧ x2.toInt < 5) :
    Own.Met l Z (⟨"com/example/hold_steady/holdsteady/server/Bytes", "indexOf", "(IIB)I"⟩ : MethodName) prog_43_method_8_code 5 (some .int) [] ({ frames := 0, cells := 0, slots := 0, locals := 0 } : Room) #[(.ref a), (.int x1), (.int x2), (.int x3)] h0 (fun v h L => ∃ r : Int32, v = some (.int r) ∧ own_is x1 x2 x3 v0 v1 v2 v3 r ∧ h = h0 ∧ L = []) := by
  refine Own.Met.of (plainFor_of_name (by first | (simp [plainName, overriddenIn]; done) | decide +kernel)) ?_
  intro p e s m below meth c T0 hx hby hml hown hnm hret hlk hZ X0 e0
  have hown : s.vm.findClass "com/example/hold_steady/holdsteady/server/Bytes" = some m.cls := hown
  have hml : c.maxLocals = 5 := hml
  have hnm : meth.name = "indexOf" := hnm
  have ef : entryFrame m #[(.ref a), (.int x1), (.int x2), (.int x3)] 5 = mkF m 0 #[.val (.ref a), .val (.int x1), .val (.int x2), .val (.int x3), .unset] [] := by first | (simp [entryFrame, mkF, argsToLocals, Value.category]; done) | rfl
  rw [ef]
  rcases own_lit5 hf with rfl | rfl | rfl | rfl | rfl
  ·
    refine Own.iloadN 1 X0 hx (hb hby d6_0) rfl rfl ?_
    refine Own.istoreV 3 #[.val (.ref a), .val (.int (0 : Int32)), .val (.int x2), .val (.int x3), .val (.int (0 : Int32))] X0 hx (hb hby d6_1) rfl rfl ?_
    refine Own.iload 5 X0 hx (hb hby d6_3) rfl rfl ?_
    refine Own.iloadN 6 X0 hx (hb hby d6_5) rfl rfl ?_
    refine Own.icmp_ge 29 9 X0 hx (hb hby d6_6) (by decide) rfl (fun k0 => ?_) (fun k0 => ?_)
    ·
      refine Own.iconst 30 X0 hx ((-1 : Int32)) (hb hby d6_29) rfl rfl ?_
      refine Own.retInt X0 hx hlk hret (hb hby d6_30) (by decide) (by decide) ?_
      exact ⟨-1, rfl, by simp only [Int32.lt_iff_toInt_lt, ← Int32.toInt_inj, own_t0, own_t1, own_t2, own_t3, own_t4, own_tm] at *; unfold own_is own_hit; rw [own_tm, own_t0]; omega, e0, rfl⟩
    ·
      refine Own.aloadN 10 X0 hx (hb hby d6_9) rfl rfl rfl ?_
      refine Own.getFld 13 X0 hx hZ hown (host := "") (Or.inl (w 11 rfl)) Via.refl e0 F1 (hb hby d6_10) rfl ?_
      intro T1 X1 e1
      refine Own.iload 15 X1 hx (hb hby d6_13) rfl rfl ?_
      refine Own.baload 16 X1 hx hZ e1 (v0) V1 (by decide) rfl (hb hby d6_15) rfl ?_
      refine Own.iloadN 17 X1 hx (hb hby d6_16) rfl rfl ?_
      refine Own.icmp_ne 23 20 X1 hx (hb hby d6_17) (by decide) rfl (fun e0 => ?_) (fun e0 => ?_)
      ·
        refine Own.iinc 26 (fun c_2 => #[.val (.ref a), .val (.int (0 : Int32)), .val (.int x2), .val (.int x3), .val (.int c_2)]) X1 hx ((1 : Int32)) (hb hby d6_23) rfl rfl rfl (fun _ => rfl) fun c_2 hc_2 => ?_
        obtain rfl : c_2 = (1 : Int32) := hc_2.trans (by decide)
        refine Own.goto 3 X1 hx (hb hby d6_26) (by decide) ?_
        refine Own.iload 5 X1 hx (hb hby d6_3) rfl rfl ?_
        refine Own.iloadN 6 X1 hx (hb hby d6_5) rfl rfl ?_
        refine Own.icmp_ge 29 9 X1 hx (hb hby d6_6) (by decide) rfl (fun k1 => ?_) (fun k1 => ?_)
        ·
          refine Own.iconst 30 X1 hx ((-1 : Int32)) (hb hby d6_29) rfl rfl ?_
          refine Own.retInt X1 hx hlk hret (hb hby d6_30) (by decide) (by decide) ?_
          exact ⟨-1, rfl, by simp only [Int32.lt_iff_toInt_lt, ← Int32.toInt_inj, own_t0, own_t1, own_t2, own_t3, own_t4, own_tm] at *; unfold own_is own_hit; rw [own_tm, own_t0]; omega, e1, rfl⟩
        ·
          refine Own.aloadN 10 X1 hx (hb hby d6_9) rfl rfl rfl ?_
          refine Own.getFld 13 X1 hx hZ hown (host := "") (Or.inl (w 11 rfl)) Via.refl e1 F1 (hb hby d6_10) rfl ?_
          intro T3 X3 e3
          refine Own.iload 15 X3 hx (hb hby d6_13) rfl rfl ?_
          refine Own.baload 16 X3 hx hZ e3 (v1) V1 (by decide) rfl (hb hby d6_15) rfl ?_
          refine Own.iloadN 17 X3 hx (hb hby d6_16) rfl rfl ?_
          refine Own.icmp_ne 23 20 X3 hx (hb hby d6_17) (by decide) rfl (fun e1 => ?_) (fun e1 => ?_)
          ·
            refine Own.iinc 26 (fun c_4 => #[.val (.ref a), .val (.int (0 : Int32)), .val (.int x2), .val (.int x3), .val (.int c_4)]) X3 hx ((1 : Int32)) (hb hby d6_23) rfl rfl rfl (fun _ => rfl) fun c_4 hc_4 => ?_
            obtain rfl : c_4 = (2 : Int32) := hc_4.trans (by decide)
            refine Own.goto 3 X3 hx (hb hby d6_26) (by decide) ?_
            refine Own.iload 5 X3 hx (hb hby d6_3) rfl rfl ?_
            refine Own.iloadN 6 X3 hx (hb hby d6_5) rfl rfl ?_
            refine Own.icmp_ge 29 9 X3 hx (hb hby d6_6) (by decide) rfl (fun k2 => ?_) (fun k2 => ?_)
            ·
              refine Own.iconst 30 X3 hx ((-1 : Int32)) (hb hby d6_29) rfl rfl ?_
              refine Own.retInt X3 hx hlk hret (hb hby d6_30) (by decide) (by decide) ?_
              exact ⟨-1, rfl, by simp only [Int32.lt_iff_toInt_lt, ← Int32.toInt_inj, own_t0, own_t1, own_t2, own_t3, own_t4, own_tm] at *; unfold own_is own_hit; rw [own_tm, own_t0]; omega, e3, rfl⟩
            ·
              refine Own.aloadN 10 X3 hx (hb hby d6_9) rfl rfl rfl ?_
              refine Own.getFld 13 X3 hx hZ hown (host := "") (Or.inl (w 11 rfl)) Via.refl e3 F1 (hb hby d6_10) rfl ?_
              intro T5 X5 e5
              refine Own.iload 15 X5 hx (hb hby d6_13) rfl rfl ?_
              refine Own.baload 16 X5 hx hZ e5 (v2) V1 (by decide) rfl (hb hby d6_15) rfl ?_
              refine Own.iloadN 17 X5 hx (hb hby d6_16) rfl rfl ?_
              refine Own.icmp_ne 23 20 X5 hx (hb hby d6_17) (by decide) rfl (fun e2 => ?_) (fun e2 => ?_)
              ·
                refine Own.iinc 26 (fun c_6 => #[.val (.ref a), .val (.int (0 : Int32)), .val (.int x2), .val (.int x3), .val (.int c_6)]) X5 hx ((1 : Int32)) (hb hby d6_23) rfl rfl rfl (fun _ => rfl) fun c_6 hc_6 => ?_
                obtain rfl : c_6 = (3 : Int32) := hc_6.trans (by decide)
                refine Own.goto 3 X5 hx (hb hby d6_26) (by decide) ?_
                refine Own.iload 5 X5 hx (hb hby d6_3) rfl rfl ?_
                refine Own.iloadN 6 X5 hx (hb hby d6_5) rfl rfl ?_
                refine Own.icmp_ge 29 9 X5 hx (hb hby d6_6) (by decide) rfl (fun k3 => ?_) (fun k3 => ?_)
                ·
                  refine Own.iconst 30 X5 hx ((-1 : Int32)) (hb hby d6_29) rfl rfl ?_
                  refine Own.retInt X5 hx hlk hret (hb hby d6_30) (by decide) (by decide) ?_
                  exact ⟨-1, rfl, by simp only [Int32.lt_iff_toInt_lt, ← Int32.toInt_inj, own_t0, own_t1, own_t2, own_t3, own_t4, own_tm] at *; unfold own_is own_hit; rw [own_tm, own_t0]; omega, e5, rfl⟩
                ·
                  refine Own.aloadN 10 X5 hx (hb hby d6_9) rfl rfl rfl ?_
                  refine Own.getFld 13 X5 hx hZ hown (host := "") (Or.inl (w 11 rfl)) Via.refl e5 F1 (hb hby d6_10) rfl ?_
                  intro T7 X7 e7
                  refine Own.iload 15 X7 hx (hb hby d6_13) rfl rfl ?_
                  refine Own.baload 16 X7 hx hZ e7 (v3) V1 (by decide) rfl (hb hby d6_15) rfl ?_
                  refine Own.iloadN 17 X7 hx (hb hby d6_16) rfl rfl ?_
                  refine Own.icmp_ne 23 20 X7 hx (hb hby d6_17) (by decide) rfl (fun e3 => ?_) (fun e3 => ?_)
                  ·
                    refine Own.iinc 26 (fun c_8 => #[.val (.ref a), .val (.int (0 : Int32)), .val (.int x2), .val (.int x3), .val (.int c_8)]) X7 hx ((1 : Int32)) (hb hby d6_23) rfl rfl rfl (fun _ => rfl) fun c_8 hc_8 => ?_
                    obtain rfl : c_8 = (4 : Int32) := hc_8.trans (by decide)
                    refine Own.goto 3 X7 hx (hb hby d6_26) (by decide) ?_
                    refine Own.iload 5 X7 hx (hb hby d6_3) rfl rfl ?_
                    refine Own.iloadN 6 X7 hx (hb hby d6_5) rfl rfl ?_
                    refine Own.icmp_ge 29 9 X7 hx (hb hby d6_6) (by decide) rfl (fun tk => ?_) (fun tk => False.elim (by simp only [Int32.lt_iff_toInt_lt, ← Int32.toInt_inj, own_t0, own_t1, own_t2, own_t3, own_t4, own_tm] at *; omega))
                    refine Own.iconst 30 X7 hx ((-1 : Int32)) (hb hby d6_29) rfl rfl ?_
                    refine Own.retInt X7 hx hlk hret (hb hby d6_30) (by decide) (by decide) ?_
                    exact ⟨-1, rfl, by simp only [Int32.lt_iff_toInt_lt, ← Int32.toInt_inj, own_t0, own_t1, own_t2, own_t3, own_t4, own_tm] at *; unfold own_is own_hit; rw [own_tm, own_t0]; omega, e7, rfl⟩
                  ·
                    refine Own.iload 22 X7 hx (hb hby d6_20) rfl rfl ?_
                    refine Own.retInt X7 hx hlk hret (hb hby d6_22) (by decide) (by decide) ?_
                    exact ⟨_, rfl, by simp only [Int32.lt_iff_toInt_lt, ← Int32.toInt_inj, own_t0, own_t1, own_t2, own_t3, own_t4, own_tm] at *; unfold own_is own_hit; rw [own_t3, own_t0]; omega, e7, rfl⟩
              ·
                refine Own.iload 22 X5 hx (hb hby d6_20) rfl rfl ?_
                refine Own.retInt X5 hx hlk hret (hb hby d6_22) (by decide) (by decide) ?_
                exact ⟨_, rfl, by simp only [Int32.lt_iff_toInt_lt, ← Int32.toInt_inj, own_t0, own_t1, own_t2, own_t3, own_t4, own_tm] at *; unfold own_is own_hit; rw [own_t2, own_t0]; omega, e5, rfl⟩
          ·
            refine Own.iload 22 X3 hx (hb hby d6_20) rfl rfl ?_
            refine Own.retInt X3 hx hlk hret (hb hby d6_22) (by decide) (by decide) ?_
            exact ⟨_, rfl, by simp only [Int32.lt_iff_toInt_lt, ← Int32.toInt_inj, own_t0, own_t1, own_t2, own_t3, own_t4, own_tm] at *; unfold own_is own_hit; rw [own_t1, own_t0]; omega, e3, rfl⟩
      ·
        refine Own.iload 22 X1 hx (hb hby d6_20) rfl rfl ?_
        refine Own.retInt X1 hx hlk hret (hb hby d6_22) (by decide) (by decide) ?_
        exact ⟨_, rfl, by simp only [Int32.lt_iff_toInt_lt, ← Int32.toInt_inj, own_t0, own_t1, own_t2, own_t3, own_t4, own_tm] at *; unfold own_is own_hit; rw [own_t0]; omega, e1, rfl⟩
  ·
    refine Own.iloadN 1 X0 hx (hb hby d6_0) rfl rfl ?_
    refine Own.istoreV 3 #[.val (.ref a), .val (.int (1 : Int32)), .val (.int x2), .val (.int x3), .val (.int (1 : Int32))] X0 hx (hb hby d6_1) rfl rfl ?_
    refine Own.iload 5 X0 hx (hb hby d6_3) rfl rfl ?_
    refine Own.iloadN 6 X0 hx (hb hby d6_5) rfl rfl ?_
    refine Own.icmp_ge 29 9 X0 hx (hb hby d6_6) (by decide) rfl (fun k1 => ?_) (fun k1 => ?_)
    ·
      refine Own.iconst 30 X0 hx ((-1 : Int32)) (hb hby d6_29) rfl rfl ?_
      refine Own.retInt X0 hx hlk hret (hb hby d6_30) (by decide) (by decide) ?_
      exact ⟨-1, rfl, by simp only [Int32.lt_iff_toInt_lt, ← Int32.toInt_inj, own_t0, own_t1, own_t2, own_t3, own_t4, own_tm] at *; unfold own_is own_hit; rw [own_tm, own_t1]; omega, e0, rfl⟩
    ·
      refine Own.aloadN 10 X0 hx (hb hby d6_9) rfl rfl rfl ?_
      refine Own.getFld 13 X0 hx hZ hown (host := "") (Or.inl (w 11 rfl)) Via.refl e0 F1 (hb hby d6_10) rfl ?_
      intro T9 X9 e9
      refine Own.iload 15 X9 hx (hb hby d6_13) rfl rfl ?_
      refine Own.baload 16 X9 hx hZ e9 (v1) V1 (by decide) rfl (hb hby d6_15) rfl ?_
      refine Own.iloadN 17 X9 hx (hb hby d6_16) rfl rfl ?_
      refine Own.icmp_ne 23 20 X9 hx (hb hby d6_17) (by decide) rfl (fun e1 => ?_) (fun e1 => ?_)
      ·
        refine Own.iinc 26 (fun c_10 => #[.val (.ref a), .val (.int (1 : Int32)), .val (.int x2), .val (.int x3), .val (.int c_10)]) X9 hx ((1 : Int32)) (hb hby d6_23) rfl rfl rfl (fun _ => rfl) fun c_10 hc_10 => ?_
        obtain rfl : c_10 = (2 : Int32) := hc_10.trans (by decide)
        refine Own.goto 3 X9 hx (hb hby d6_26) (by decide) ?_
        refine Own.iload 5 X9 hx (hb hby d6_3) rfl rfl ?_
        refine Own.iloadN 6 X9 hx (hb hby d6_5) rfl rfl ?_
        refine Own.icmp_ge 29 9 X9 hx (hb hby d6_6) (by decide) rfl (fun k2 => ?_) (fun k2 => ?_)
        ·
          refine Own.iconst 30 X9 hx ((-1 : Int32)) (hb hby d6_29) rfl rfl ?_
          refine Own.retInt X9 hx hlk hret (hb hby d6_30) (by decide) (by decide) ?_
          exact ⟨-1, rfl, by simp only [Int32.lt_iff_toInt_lt, ← Int32.toInt_inj, own_t0, own_t1, own_t2, own_t3, own_t4, own_tm] at *; unfold own_is own_hit; rw [own_tm, own_t1]; omega, e9, rfl⟩
        ·
          refine Own.aloadN 10 X9 hx (hb hby d6_9) rfl rfl rfl ?_
          refine Own.getFld 13 X9 hx hZ hown (host := "") (Or.inl (w 11 rfl)) Via.refl e9 F1 (hb hby d6_10) rfl ?_
          intro T11 X11 e11
          refine Own.iload 15 X11 hx (hb hby d6_13) rfl rfl ?_
          refine Own.baload 16 X11 hx hZ e11 (v2) V1 (by decide) rfl (hb hby d6_15) rfl ?_
          refine Own.iloadN 17 X11 hx (hb hby d6_16) rfl rfl ?_
          refine Own.icmp_ne 23 20 X11 hx (hb hby d6_17) (by decide) rfl (fun e2 => ?_) (fun e2 => ?_)
          ·
            refine Own.iinc 26 (fun c_12 => #[.val (.ref a), .val (.int (1 : Int32)), .val (.int x2), .val (.int x3), .val (.int c_12)]) X11 hx ((1 : Int32)) (hb hby d6_23) rfl rfl rfl (fun _ => rfl) fun c_12 hc_12 => ?_
            obtain rfl : c_12 = (3 : Int32) := hc_12.trans (by decide)
            refine Own.goto 3 X11 hx (hb hby d6_26) (by decide) ?_
            refine Own.iload 5 X11 hx (hb hby d6_3) rfl rfl ?_
            refine Own.iloadN 6 X11 hx (hb hby d6_5) rfl rfl ?_
            refine Own.icmp_ge 29 9 X11 hx (hb hby d6_6) (by decide) rfl (fun k3 => ?_) (fun k3 => ?_)
            ·
              refine Own.iconst 30 X11 hx ((-1 : Int32)) (hb hby d6_29) rfl rfl ?_
              refine Own.retInt X11 hx hlk hret (hb hby d6_30) (by decide) (by decide) ?_
              exact ⟨-1, rfl, by simp only [Int32.lt_iff_toInt_lt, ← Int32.toInt_inj, own_t0, own_t1, own_t2, own_t3, own_t4, own_tm] at *; unfold own_is own_hit; rw [own_tm, own_t1]; omega, e11, rfl⟩
            ·
              refine Own.aloadN 10 X11 hx (hb hby d6_9) rfl rfl rfl ?_
              refine Own.getFld 13 X11 hx hZ hown (host := "") (Or.inl (w 11 rfl)) Via.refl e11 F1 (hb hby d6_10) rfl ?_
              intro T13 X13 e13
              refine Own.iload 15 X13 hx (hb hby d6_13) rfl rfl ?_
              refine Own.baload 16 X13 hx hZ e13 (v3) V1 (by decide) rfl (hb hby d6_15) rfl ?_
              refine Own.iloadN 17 X13 hx (hb hby d6_16) rfl rfl ?_
              refine Own.icmp_ne 23 20 X13 hx (hb hby d6_17) (by decide) rfl (fun e3 => ?_) (fun e3 => ?_)
              ·
                refine Own.iinc 26 (fun c_14 => #[.val (.ref a), .val (.int (1 : Int32)), .val (.int x2), .val (.int x3), .val (.int c_14)]) X13 hx ((1 : Int32)) (hb hby d6_23) rfl rfl rfl (fun _ => rfl) fun c_14 hc_14 => ?_
                obtain rfl : c_14 = (4 : Int32) := hc_14.trans (by decide)
                refine Own.goto 3 X13 hx (hb hby d6_26) (by decide) ?_
                refine Own.iload 5 X13 hx (hb hby d6_3) rfl rfl ?_
                refine Own.iloadN 6 X13 hx (hb hby d6_5) rfl rfl ?_
                refine Own.icmp_ge 29 9 X13 hx (hb hby d6_6) (by decide) rfl (fun tk => ?_) (fun tk => False.elim (by simp only [Int32.lt_iff_toInt_lt, ← Int32.toInt_inj, own_t0, own_t1, own_t2, own_t3, own_t4, own_tm] at *; omega))
                refine Own.iconst 30 X13 hx ((-1 : Int32)) (hb hby d6_29) rfl rfl ?_
                refine Own.retInt X13 hx hlk hret (hb hby d6_30) (by decide) (by decide) ?_
                exact ⟨-1, rfl, by simp only [Int32.lt_iff_toInt_lt, ← Int32.toInt_inj, own_t0, own_t1, own_t2, own_t3, own_t4, own_tm] at *; unfold own_is own_hit; rw [own_tm, own_t1]; omega, e13, rfl⟩
              ·
                refine Own.iload 22 X13 hx (hb hby d6_20) rfl rfl ?_
                refine Own.retInt X13 hx hlk hret (hb hby d6_22) (by decide) (by decide) ?_
                exact ⟨_, rfl, by simp only [Int32.lt_iff_toInt_lt, ← Int32.toInt_inj, own_t0, own_t1, own_t2, own_t3, own_t4, own_tm] at *; unfold own_is own_hit; rw [own_t3, own_t1]; omega, e13, rfl⟩
          ·
            refine Own.iload 22 X11 hx (hb hby d6_20) rfl rfl ?_
            refine Own.retInt X11 hx hlk hret (hb hby d6_22) (by decide) (by decide) ?_
            exact ⟨_, rfl, by simp only [Int32.lt_iff_toInt_lt, ← Int32.toInt_inj, own_t0, own_t1, own_t2, own_t3, own_t4, own_tm] at *; unfold own_is own_hit; rw [own_t2, own_t1]; omega, e11, rfl⟩
      ·
        refine Own.iload 22 X9 hx (hb hby d6_20) rfl rfl ?_
        refine Own.retInt X9 hx hlk hret (hb hby d6_22) (by decide) (by decide) ?_
        exact ⟨_, rfl, by simp only [Int32.lt_iff_toInt_lt, ← Int32.toInt_inj, own_t0, own_t1, own_t2, own_t3, own_t4, own_tm] at *; unfold own_is own_hit; rw [own_t1]; omega, e9, rfl⟩
  ·
    refine Own.iloadN 1 X0 hx (hb hby d6_0) rfl rfl ?_
    refine Own.istoreV 3 #[.val (.ref a), .val (.int (2 : Int32)), .val (.int x2), .val (.int x3), .val (.int (2 : Int32))] X0 hx (hb hby d6_1) rfl rfl ?_
    refine Own.iload 5 X0 hx (hb hby d6_3) rfl rfl ?_
    refine Own.iloadN 6 X0 hx (hb hby d6_5) rfl rfl ?_
    refine Own.icmp_ge 29 9 X0 hx (hb hby d6_6) (by decide) rfl (fun k2 => ?_) (fun k2 => ?_)
    ·
      refine Own.iconst 30 X0 hx ((-1 : Int32)) (hb hby d6_29) rfl rfl ?_
      refine Own.retInt X0 hx hlk hret (hb hby d6_30) (by decide) (by decide) ?_
      exact ⟨-1, rfl, by simp only [Int32.lt_iff_toInt_lt, ← Int32.toInt_inj, own_t0, own_t1, own_t2, own_t3, own_t4, own_tm] at *; unfold own_is own_hit; rw [own_tm, own_t2]; omega, e0, rfl⟩
    ·
      refine Own.aloadN 10 X0 hx (hb hby d6_9) rfl rfl rfl ?_
      refine Own.getFld 13 X0 hx hZ hown (host := "") (Or.inl (w 11 rfl)) Via.refl e0 F1 (hb hby d6_10) rfl ?_
      intro T15 X15 e15
      refine Own.iload 15 X15 hx (hb hby d6_13) rfl rfl ?_
      refine Own.baload 16 X15 hx hZ e15 (v2) V1 (by decide) rfl (hb hby d6_15) rfl ?_
      refine Own.iloadN 17 X15 hx (hb hby d6_16) rfl rfl ?_
      refine Own.icmp_ne 23 20 X15 hx (hb hby d6_17) (by decide) rfl (fun e2 => ?_) (fun e2 => ?_)
      ·
        refine Own.iinc 26 (fun c_16 => #[.val (.ref a), .val (.int (2 : Int32)), .val (.int x2), .val (.int x3), .val (.int c_16)]) X15 hx ((1 : Int32)) (hb hby d6_23) rfl rfl rfl (fun _ => rfl) fun c_16 hc_16 => ?_
        obtain rfl : c_16 = (3 : Int32) := hc_16.trans (by decide)
        refine Own.goto 3 X15 hx (hb hby d6_26) (by decide) ?_
        refine Own.iload 5 X15 hx (hb hby d6_3) rfl rfl ?_
        refine Own.iloadN 6 X15 hx (hb hby d6_5) rfl rfl ?_
        refine Own.icmp_ge 29 9 X15 hx (hb hby d6_6) (by decide) rfl (fun k3 => ?_) (fun k3 => ?_)
        ·
          refine Own.iconst 30 X15 hx ((-1 : Int32)) (hb hby d6_29) rfl rfl ?_
          refine Own.retInt X15 hx hlk hret (hb hby d6_30) (by decide) (by decide) ?_
          exact ⟨-1, rfl, by simp only [Int32.lt_iff_toInt_lt, ← Int32.toInt_inj, own_t0, own_t1, own_t2, own_t3, own_t4, own_tm] at *; unfold own_is own_hit; rw [own_tm, own_t2]; omega, e15, rfl⟩
        ·
          refine Own.aloadN 10 X15 hx (hb hby d6_9) rfl rfl rfl ?_
          refine Own.getFld 13 X15 hx hZ hown (host := "") (Or.inl (w 11 rfl)) Via.refl e15 F1 (hb hby d6_10) rfl ?_
          intro T17 X17 e17
          refine Own.iload 15 X17 hx (hb hby d6_13) rfl rfl ?_
          refine Own.baload 16 X17 hx hZ e17 (v3) V1 (by decide) rfl (hb hby d6_15) rfl ?_
          refine Own.iloadN 17 X17 hx (hb hby d6_16) rfl rfl ?_
          refine Own.icmp_ne 23 20 X17 hx (hb hby d6_17) (by decide) rfl (fun e3 => ?_) (fun e3 => ?_)
          ·
            refine Own.iinc 26 (fun c_18 => #[.val (.ref a), .val (.int (2 : Int32)), .val (.int x2), .val (.int x3), .val (.int c_18)]) X17 hx ((1 : Int32)) (hb hby d6_23) rfl rfl rfl (fun _ => rfl) fun c_18 hc_18 => ?_
            obtain rfl : c_18 = (4 : Int32) := hc_18.trans (by decide)
            refine Own.goto 3 X17 hx (hb hby d6_26) (by decide) ?_
            refine Own.iload 5 X17 hx (hb hby d6_3) rfl rfl ?_
            refine Own.iloadN 6 X17 hx (hb hby d6_5) rfl rfl ?_
            refine Own.icmp_ge 29 9 X17 hx (hb hby d6_6) (by decide) rfl (fun tk => ?_) (fun tk => False.elim (by simp only [Int32.lt_iff_toInt_lt, ← Int32.toInt_inj, own_t0, own_t1, own_t2, own_t3, own_t4, own_tm] at *; omega))
            refine Own.iconst 30 X17 hx ((-1 : Int32)) (hb hby d6_29) rfl rfl ?_
            refine Own.retInt X17 hx hlk hret (hb hby d6_30) (by decide) (by decide) ?_
            exact ⟨-1, rfl, by simp only [Int32.lt_iff_toInt_lt, ← Int32.toInt_inj, own_t0, own_t1, own_t2, own_t3, own_t4, own_tm] at *; unfold own_is own_hit; rw [own_tm, own_t2]; omega, e17, rfl⟩
          ·
            refine Own.iload 22 X17 hx (hb hby d6_20) rfl rfl ?_
            refine Own.retInt X17 hx hlk hret (hb hby d6_22) (by decide) (by decide) ?_
            exact ⟨_, rfl, by simp only [Int32.lt_iff_toInt_lt, ← Int32.toInt_inj, own_t0, own_t1, own_t2, own_t3, own_t4, own_tm] at *; unfold own_is own_hit; rw [own_t3, own_t2]; omega, e17, rfl⟩
      ·
        refine Own.iload 22 X15 hx (hb hby d6_20) rfl rfl ?_
        refine Own.retInt X15 hx hlk hret (hb hby d6_22) (by decide) (by decide) ?_
        exact ⟨_, rfl, by simp only [Int32.lt_iff_toInt_lt, ← Int32.toInt_inj, own_t0, own_t1, own_t2, own_t3, own_t4, own_tm] at *; unfold own_is own_hit; rw [own_t2]; omega, e15, rfl⟩
  ·
    refine Own.iloadN 1 X0 hx (hb hby d6_0) rfl rfl ?_
    refine Own.istoreV 3 #[.val (.ref a), .val (.int (3 : Int32)), .val (.int x2), .val (.int x3), .val (.int (3 : Int32))] X0 hx (hb hby d6_1) rfl rfl ?_
    refine Own.iload 5 X0 hx (hb hby d6_3) rfl rfl ?_
    refine Own.iloadN 6 X0 hx (hb hby d6_5) rfl rfl ?_
    refine Own.icmp_ge 29 9 X0 hx (hb hby d6_6) (by decide) rfl (fun k3 => ?_) (fun k3 => ?_)
    ·
      refine Own.iconst 30 X0 hx ((-1 : Int32)) (hb hby d6_29) rfl rfl ?_
      refine Own.retInt X0 hx hlk hret (hb hby d6_30) (by decide) (by decide) ?_
      exact ⟨-1, rfl, by simp only [Int32.lt_iff_toInt_lt, ← Int32.toInt_inj, own_t0, own_t1, own_t2, own_t3, own_t4, own_tm] at *; unfold own_is own_hit; rw [own_tm, own_t3]; omega, e0, rfl⟩
    ·
      refine Own.aloadN 10 X0 hx (hb hby d6_9) rfl rfl rfl ?_
      refine Own.getFld 13 X0 hx hZ hown (host := "") (Or.inl (w 11 rfl)) Via.refl e0 F1 (hb hby d6_10) rfl ?_
      intro T19 X19 e19
      refine Own.iload 15 X19 hx (hb hby d6_13) rfl rfl ?_
      refine Own.baload 16 X19 hx hZ e19 (v3) V1 (by decide) rfl (hb hby d6_15) rfl ?_
      refine Own.iloadN 17 X19 hx (hb hby d6_16) rfl rfl ?_
      refine Own.icmp_ne 23 20 X19 hx (hb hby d6_17) (by decide) rfl (fun e3 => ?_) (fun e3 => ?_)
      ·
        refine Own.iinc 26 (fun c_20 => #[.val (.ref a), .val (.int (3 : Int32)), .val (.int x2), .val (.int x3), .val (.int c_20)]) X19 hx ((1 : Int32)) (hb hby d6_23) rfl rfl rfl (fun _ => rfl) fun c_20 hc_20 => ?_
        obtain rfl : c_20 = (4 : Int32) := hc_20.trans (by decide)
        refine Own.goto 3 X19 hx (hb hby d6_26) (by decide) ?_
        refine Own.iload 5 X19 hx (hb hby d6_3) rfl rfl ?_
        refine Own.iloadN 6 X19 hx (hb hby d6_5) rfl rfl ?_
        refine Own.icmp_ge 29 9 X19 hx (hb hby d6_6) (by decide) rfl (fun tk => ?_) (fun tk => False.elim (by simp only [Int32.lt_iff_toInt_lt, ← Int32.toInt_inj, own_t0, own_t1, own_t2, own_t3, own_t4, own_tm] at *; omega))
        refine Own.iconst 30 X19 hx ((-1 : Int32)) (hb hby d6_29) rfl rfl ?_
        refine Own.retInt X19 hx hlk hret (hb hby d6_30) (by decide) (by decide) ?_
        exact ⟨-1, rfl, by simp only [Int32.lt_iff_toInt_lt, ← Int32.toInt_inj, own_t0, own_t1, own_t2, own_t3, own_t4, own_tm] at *; unfold own_is own_hit; rw [own_tm, own_t3]; omega, e19, rfl⟩
      ·
        refine Own.iload 22 X19 hx (hb hby d6_20) rfl rfl ?_
        refine Own.retInt X19 hx hlk hret (hb hby d6_22) (by decide) (by decide) ?_
        exact ⟨_, rfl, by simp only [Int32.lt_iff_toInt_lt, ← Int32.toInt_inj, own_t0, own_t1, own_t2, own_t3, own_t4, own_tm] at *; unfold own_is own_hit; rw [own_t3]; omega, e19, rfl⟩
  ·
    refine Own.iloadN 1 X0 hx (hb hby d6_0) rfl rfl ?_
    refine Own.istoreV 3 #[.val (.ref a), .val (.int (4 : Int32)), .val (.int x2), .val (.int x3), .val (.int (4 : Int32))] X0 hx (hb hby d6_1) rfl rfl ?_
    refine Own.iload 5 X0 hx (hb hby d6_3) rfl rfl ?_
    refine Own.iloadN 6 X0 hx (hb hby d6_5) rfl rfl ?_
    refine Own.icmp_ge 29 9 X0 hx (hb hby d6_6) (by decide) rfl (fun tk => ?_) (fun tk => False.elim (by simp only [Int32.lt_iff_toInt_lt, ← Int32.toInt_inj, own_t0, own_t1, own_t2, own_t3, own_t4, own_tm] at *; omega))
    refine Own.iconst 30 X0 hx ((-1 : Int32)) (hb hby d6_29) rfl rfl ?_
    refine Own.retInt X0 hx hlk hret (hb hby d6_30) (by decide) (by decide) ?_
    exact ⟨-1, rfl, by simp only [Int32.lt_iff_toInt_lt, ← Int32.toInt_inj, own_t0, own_t1, own_t2, own_t3, own_t4, own_tm] at *; unfold own_is own_hit; rw [own_tm, own_t4]; omega, e0, rfl⟩
set_option maxRecDepth 65536 in
set_option maxHeartbeats 40000000 in
theorem m0 (l : Launch) (Z : State) (a0 : Array Value) (w : ∀ (i : Nat) {d : Jvm.Cond}, tables_1[i]? = some d → d.before a0 Z = true) (x0 : Int32) (x1 : Int32) (x2 : Int32) (x3 : Int32) (x4 : Int32)  (h0 : Heap) (n0 : Nat) (Z0 : n0 ≤ h0.size) :
    Own.Met l Z x code maxLocals ret tables_1 room_1 #[(.int x0), (.int x1), (.int x2), (.int x3), (.int x4)] h0 (fun v h L => v = some (.int 1) ∧ Fr n0 L) := by
  refine Own.Met.of (plainFor_of_name (by first | (simp [plainName, overriddenIn]; done) | decide +kernel)) ?_
  intro p e s m below meth c T0 hx hby hml hown hnm hret hlk hZ X0 e0
  have hown : s.vm.findClass "com/example/hold_steady/holdsteady/server/BytesIndexOfPinLaw" = some m.cls := hown
  have hml : c.maxLocals = 19 := hml
  have hnm : meth.name = "law" := hnm
  have hret : meth.sig.returnType = some .boolean := hret
  have ef : entryFrame m #[(.int x0), (.int x1), (.int x2), (.int x3), (.int x4)] maxLocals = mkF m 0 #[.val (.int x0), .val (.int x1), .val (.int x2), .val (.int x3), .val (.int x4), .unset, .unset, .unset, .unset, .unset, .unset, .unset, .unset, .unset, .unset, .unset, .unset, .unset, .unset] [] := by first | (simp [entryFrame, mkF, argsToLocals, Value.category, maxLocals]; done) | rfl
  rw [ef]
  have N0 := Fr.nil n0
  refine Own.iloadN 1 X0 hx (hb hby at_0) rfl rfl ?_
  refine Own.i2b 2 X0 hx (hb hby at_1) rfl rfl ?_
  refine Own.istore 4 (fun v5_2 => #[.val (.int x0), .val (.int x1), .val (.int x2), .val (.int x3), .val (.int x4), .val (.int v5_2), .unset, .unset, .unset, .unset, .unset, .unset, .unset, .unset, .unset, .unset, .unset, .unset, .unset]) X0 hx (hb hby at_2) rfl (fun _ => rfl) fun v5_2 hv5_2 => ?_
  refine Own.iloadN 5 X0 hx (hb hby at_4) rfl rfl ?_
  refine Own.bipush 7 X0 hx ((8 : Int32)) (hb hby at_5) rfl rfl ?_
  refine Own.iushr 8 X0 hx (hb hby at_7) rfl rfl ?_
  refine Own.i2b 9 X0 hx (hb hby at_8) rfl rfl ?_
  refine Own.istore 11 (fun v6_9 => #[.val (.int x0), .val (.int x1), .val (.int x2), .val (.int x3), .val (.int x4), .val (.int v5_2), .val (.int v6_9), .unset, .unset, .unset, .unset, .unset, .unset, .unset, .unset, .unset, .unset, .unset, .unset]) X0 hx (hb hby at_9) rfl (fun _ => rfl) fun v6_9 hv6_9 => ?_
  refine Own.iloadN 12 X0 hx (hb hby at_11) rfl rfl ?_
  refine Own.bipush 14 X0 hx ((16 : Int32)) (hb hby at_12) rfl rfl ?_
  refine Own.iushr 15 X0 hx (hb hby at_14) rfl rfl ?_
  refine Own.i2b 16 X0 hx (hb hby at_15) rfl rfl ?_
  refine Own.istore 18 (fun v7_16 => #[.val (.int x0), .val (.int x1), .val (.int x2), .val (.int x3), .val (.int x4), .val (.int v5_2), .val (.int v6_9), .val (.int v7_16), .unset, .unset, .unset, .unset, .unset, .unset, .unset, .unset, .unset, .unset, .unset]) X0 hx (hb hby at_16) rfl (fun _ => rfl) fun v7_16 hv7_16 => ?_
  refine Own.iloadN 19 X0 hx (hb hby at_18) rfl rfl ?_
  refine Own.bipush 21 X0 hx ((24 : Int32)) (hb hby at_19) rfl rfl ?_
  refine Own.iushr 22 X0 hx (hb hby at_21) rfl rfl ?_
  refine Own.i2b 23 X0 hx (hb hby at_22) rfl rfl ?_
  refine Own.istore 25 (fun v8_23 => #[.val (.int x0), .val (.int x1), .val (.int x2), .val (.int x3), .val (.int x4), .val (.int v5_2), .val (.int v6_9), .val (.int v7_16), .val (.int v8_23), .unset, .unset, .unset, .unset, .unset, .unset, .unset, .unset, .unset, .unset]) X0 hx (hb hby at_23) rfl (fun _ => rfl) fun v8_23 hv8_23 => ?_
  refine Own.iloadN 26 X0 hx (hb hby at_25) rfl rfl ?_
  refine Own.sipush 29 X0 hx ((255 : Int32)) (hb hby at_26) rfl rfl ?_
  refine Own.iand 30 X0 hx (hb hby at_29) rfl rfl ?_
  refine Own.i2c 31 X0 hx (hb hby at_30) rfl rfl ?_
  refine Own.istore 33 (fun v9_31 => #[.val (.int x0), .val (.int x1), .val (.int x2), .val (.int x3), .val (.int x4), .val (.int v5_2), .val (.int v6_9), .val (.int v7_16), .val (.int v8_23), .val (.int v9_31), .unset, .unset, .unset, .unset, .unset, .unset, .unset, .unset, .unset]) X0 hx (hb hby at_31) rfl (fun _ => rfl) fun v9_31 hv9_31 => ?_
  refine Own.iloadN 34 X0 hx (hb hby at_33) rfl rfl ?_
  refine Own.bipush 36 X0 hx ((8 : Int32)) (hb hby at_34) rfl rfl ?_
  refine Own.iushr 37 X0 hx (hb hby at_36) rfl rfl ?_
  refine Own.sipush 40 X0 hx ((255 : Int32)) (hb hby at_37) rfl rfl ?_
  refine Own.iand 41 X0 hx (hb hby at_40) rfl rfl ?_
  refine Own.i2c 42 X0 hx (hb hby at_41) rfl rfl ?_
  refine Own.istore 44 (fun v10_42 => #[.val (.int x0), .val (.int x1), .val (.int x2), .val (.int x3), .val (.int x4), .val (.int v5_2), .val (.int v6_9), .val (.int v7_16), .val (.int v8_23), .val (.int v9_31), .val (.int v10_42), .unset, .unset, .unset, .unset, .unset, .unset, .unset, .unset]) X0 hx (hb hby at_42) rfl (fun _ => rfl) fun v10_42 hv10_42 => ?_
  refine Own.iloadN 45 X0 hx (hb hby at_44) rfl rfl ?_
  refine Own.bipush 47 X0 hx ((16 : Int32)) (hb hby at_45) rfl rfl ?_
  refine Own.iushr 48 X0 hx (hb hby at_47) rfl rfl ?_
  refine Own.sipush 51 X0 hx ((255 : Int32)) (hb hby at_48) rfl rfl ?_
  refine Own.iand 52 X0 hx (hb hby at_51) rfl rfl ?_
  refine Own.i2c 53 X0 hx (hb hby at_52) rfl rfl ?_
  refine Own.istore 55 (fun v11_53 => #[.val (.int x0), .val (.int x1), .val (.int x2), .val (.int x3), .val (.int x4), .val (.int v5_2), .val (.int v6_9), .val (.int v7_16), .val (.int v8_23), .val (.int v9_31), .val (.int v10_42), .val (.int v11_53), .unset, .unset, .unset, .unset, .unset, .unset, .unset]) X0 hx (hb hby at_53) rfl (fun _ => rfl) fun v11_53 hv11_53 => ?_
  refine Own.iloadN 56 X0 hx (hb hby at_55) rfl rfl ?_
  refine Own.bipush 58 X0 hx ((24 : Int32)) (hb hby at_56) rfl rfl ?_
  refine Own.iushr 59 X0 hx (hb hby at_58) rfl rfl ?_
  refine Own.sipush 62 X0 hx ((255 : Int32)) (hb hby at_59) rfl rfl ?_
  refine Own.iand 63 X0 hx (hb hby at_62) rfl rfl ?_
  refine Own.i2c 64 X0 hx (hb hby at_63) rfl rfl ?_
  refine Own.istore 66 (fun v12_64 => #[.val (.int x0), .val (.int x1), .val (.int x2), .val (.int x3), .val (.int x4), .val (.int v5_2), .val (.int v6_9), .val (.int v7_16), .val (.int v8_23), .val (.int v9_31), .val (.int v10_42), .val (.int v11_53), .val (.int v12_64), .unset, .unset, .unset, .unset, .unset, .unset]) X0 hx (hb hby at_64) rfl (fun _ => rfl) fun v12_64 hv12_64 => ?_
  refine Own.iloadN 67 X0 hx (hb hby at_66) rfl rfl ?_
  refine Own.ldcInt 69 X0 hx hZ ((2147483647 : Int32)) hown (w 0 rfl) (hb hby at_67) rfl ?_
  refine Own.iand 70 X0 hx (hb hby at_69) rfl rfl ?_
  refine Own.iconst 71 X0 hx ((5 : Int32)) (hb hby at_70) rfl rfl ?_
  refine Own.irem 72 X0 hx (hb hby at_71) rfl (by decide) rfl ?_
  refine Own.istore 74 (fun v13_72 => #[.val (.int x0), .val (.int x1), .val (.int x2), .val (.int x3), .val (.int x4), .val (.int v5_2), .val (.int v6_9), .val (.int v7_16), .val (.int v8_23), .val (.int v9_31), .val (.int v10_42), .val (.int v11_53), .val (.int v12_64), .val (.int v13_72), .unset, .unset, .unset, .unset, .unset]) X0 hx (hb hby at_72) rfl (fun _ => rfl) fun v13_72 hv13_72 => ?_
  refine Own.iloadN 75 X0 hx (hb hby at_74) rfl rfl ?_
  refine Own.ldcInt 77 X0 hx hZ ((2147483647 : Int32)) hown (w 0 rfl) (hb hby at_75) rfl ?_
  refine Own.iand 78 X0 hx (hb hby at_77) rfl rfl ?_
  refine Own.iconst 79 X0 hx ((5 : Int32)) (hb hby at_78) rfl rfl ?_
  refine Own.irem 80 X0 hx (hb hby at_79) rfl (by decide) rfl ?_
  refine Own.istore 82 (fun v14_80 => #[.val (.int x0), .val (.int x1), .val (.int x2), .val (.int x3), .val (.int x4), .val (.int v5_2), .val (.int v6_9), .val (.int v7_16), .val (.int v8_23), .val (.int v9_31), .val (.int v10_42), .val (.int v11_53), .val (.int v12_64), .val (.int v13_72), .val (.int v14_80), .unset, .unset, .unset, .unset]) X0 hx (hb hby at_80) rfl (fun _ => rfl) fun v14_80 hv14_80 => ?_
  refine Own.iloadN 83 X0 hx (hb hby at_82) rfl rfl ?_
  refine Own.bipush 85 X0 hx ((7 : Int32)) (hb hby at_83) rfl rfl ?_
  refine Own.iand 86 X0 hx (hb hby at_85) rfl rfl ?_
  refine Own.istore 88 (fun v15_86 => #[.val (.int x0), .val (.int x1), .val (.int x2), .val (.int x3), .val (.int x4), .val (.int v5_2), .val (.int v6_9), .val (.int v7_16), .val (.int v8_23), .val (.int v9_31), .val (.int v10_42), .val (.int v11_53), .val (.int v12_64), .val (.int v13_72), .val (.int v14_80), .val (.int v15_86), .unset, .unset, .unset]) X0 hx (hb hby at_86) rfl (fun _ => rfl) fun v15_86 hv15_86 => ?_
  refine Own.iload 90 X0 hx (hb hby at_88) rfl rfl ?_
  have J144 : ∀ (bb : Int32), Own.Ends p.tables e below s (fun v h L => v = some (.int 1) ∧ Fr n0 L) room_1.cells room_1.slots (T0.setTop (mkF m 144 #[.val (.int x0), .val (.int x1), .val (.int x2), .val (.int x3), .val (.int x4), .val (.int v5_2), .val (.int v6_9), .val (.int v7_16), .val (.int v8_23), .val (.int v9_31), .val (.int v10_42), .val (.int v11_53), .val (.int v12_64), .val (.int v13_72), .val (.int v14_80), .val (.int v15_86), .val (.int bb), .unset, .unset] [])) := by
    intro bb
    refine Own.newObj 147 X0 hx hZ hown (w 1 rfl) (w 2 rfl) (w 3 rfl) e0 (hb hby at_144) rfl (by decide) (by decide) ?_
    intro T1 h1 a z1 X1 e1 E1 A1 D1
    have g_a : n0 ≤ a := Nat.le_trans Z0 (Nat.le_of_eq z1.symm)
    have zl1 := Nat.le_trans Z0 E1.1
    have F1_array : Fld Z h1 a "com/example/hold_steady/holdsteady/server/Bytes" "array" "[B" .null := D1 (Or.inl (w 12 rfl)) (ty := (.array .byte)) (by decide)
    have F1_ceiling : Fld Z h1 a "com/example/hold_steady/holdsteady/server/Bytes" "ceiling" "I" (.int (0 : Int32)) := D1 (Or.inr (w 14 rfl)) (ty := .int) (by decide)
    have F1_end : Fld Z h1 a "com/example/hold_steady/holdsteady/server/Bytes" "end" "I" (.int (0 : Int32)) := D1 (Or.inl (w 25 rfl)) (ty := .int) (by decide)
    have F1_start : Fld Z h1 a "com/example/hold_steady/holdsteady/server/Bytes" "start" "I" (.int (0 : Int32)) := D1 (Or.inl (w 36 rfl)) (ty := .int) (by decide)
    refine Own.dup 148 X1 hx (hb hby at_147) rfl rfl ?_
    refine Own.iconst 149 X1 hx ((4 : Int32)) (hb hby at_148) rfl rfl ?_
    refine Own.iconst 150 X1 hx ((4 : Int32)) (hb hby at_149) rfl rfl ?_
    refine Own.callInit 153 1 a [(.int (4 : Int32)), (.int (4 : Int32))] [(.ref a)] X1 hx hZ hown (m1 l Z a0 w a _ _ _ n0 h1 zl1 A1 F1_array F1_ceiling F1_end g_a) rfl (w 4 rfl) (w 5 rfl) (w 3 rfl) (w 6 rfl) (by decide) e1 (by decide) (by decide) (by decide) (by decide) (by rw [hml]; rfl) (lenOf pd_1 rfl) rfl (Nat.le_of_eq rfl) (hb hby at_150) rfl ?_
    rintro vv T3 L3 X3 ⟨rfl, N3q, K3, b, k, g_b, sz_b, F13, F33, V3⟩
    have ne_a_b : a ≠ b := Nat.ne_of_lt (Nat.lt_of_lt_of_le A1.lt sz_b)
    have N3 := Fr.app N0 N3q
    have E3 := A1.keep K3
    have zl3 := Nat.le_trans zl1 K3.1
    refine Own.astore 155 #[.val (.int x0), .val (.int x1), .val (.int x2), .val (.int x3), .val (.int x4), .val (.int v5_2), .val (.int v6_9), .val (.int v7_16), .val (.int v8_23), .val (.int v9_31), .val (.int v10_42), .val (.int v11_53), .val (.int v12_64), .val (.int v13_72), .val (.int v14_80), .val (.int v15_86), .val (.int bb), .val (.ref a), .unset] X3 hx (hb hby at_153) rfl rfl rfl ?_
    refine Own.aload 157 X3 hx (hb hby at_155) rfl rfl rfl ?_
    refine Own.iload 159 X3 hx (hb hby at_157) rfl rfl ?_
    refine Own.iload 161 X3 hx (hb hby at_159) rfl rfl ?_
    refine Own.callVt 164 0 a [(.int v9_31), (.int v10_42)] [] X3 hx hZ hown (m3_0 l Z a0 w a v9_31 v10_42 b k (0 : Int32) (0 : Int32) (0 : Int32) (0 : Int32) n0 _ zl3 E3 F13 F33 V3 g_a g_b ne_a_b) E3 (notFace_of_selects (args := #[]) (mvT hZ (w 18 rfl))) (w 15 rfl) (w 16 rfl) (w 18 rfl) (w 17 rfl) (w 3 rfl) (w 19 rfl) (by decide) rfl (by decide) (by decide) (by decide) (by decide) (by rw [hml]; rfl) (lenOf pd_2 rfl) rfl (Nat.le_of_eq rfl) (hb hby at_161) rfl ?_
    rintro vv T4 L4 X4 ⟨rfl, N4q, K4, F14, F34, V4⟩
    have N4 := Fr.app N3 N4q
    have E4 := E3.keep K4
    have zl4 := Nat.le_trans zl3 K4.1
    refine Own.pop 165 X4 hx (hb hby at_164) rfl rfl ?_
    refine Own.aload 167 X4 hx (hb hby at_165) rfl rfl rfl ?_
    refine Own.iload 169 X4 hx (hb hby at_167) rfl rfl ?_
    refine Own.iload 171 X4 hx (hb hby at_169) rfl rfl ?_
    refine Own.callVt 174 0 a [(.int v11_53), (.int v12_64)] [] X4 hx hZ hown (m3_2 l Z a0 w a v11_53 v12_64 b k v9_31.toInt8.toInt32 v10_42.toInt8.toInt32 (0 : Int32) (0 : Int32) n0 _ zl4 E4 F14 F34 V4 g_a g_b ne_a_b) E4 (notFace_of_selects (args := #[]) (mvT hZ (w 18 rfl))) (w 15 rfl) (w 16 rfl) (w 18 rfl) (w 17 rfl) (w 3 rfl) (w 19 rfl) (by decide) rfl (by decide) (by decide) (by decide) (by decide) (by rw [hml]; rfl) (lenOf pd_2 rfl) rfl (Nat.le_of_eq rfl) (hb hby at_171) rfl ?_
    rintro vv T5 L5 X5 ⟨rfl, N5q, K5, F15, F35, V5⟩
    have N5 := Fr.app N4 N5q
    have E5 := E4.keep K5
    have zl5 := Nat.le_trans zl4 K5.1
    refine Own.pop 175 X5 hx (hb hby at_174) rfl rfl ?_
    refine Own.iconst 176 X5 hx ((0 : Int32)) (hb hby at_175) rfl rfl ?_
    refine Own.iload 178 X5 hx (hb hby at_176) rfl rfl ?_
    refine Own.iload 180 X5 hx (hb hby at_178) rfl rfl ?_
    refine Own.iload 182 X5 hx (hb hby at_180) rfl rfl ?_
    refine Own.iload 184 X5 hx (hb hby at_182) rfl rfl ?_
    rw [hv9_31, hv10_42, hv11_53, hv12_64, own_c8, own_c8, own_c8, own_c8, ← hv5_2, ← hv6_9, ← hv7_16, ← hv8_23] at V5
    have B1 := own_five x1
    have B2 := own_five x2
    rw [← hv13_72] at B1
    rw [← hv14_80] at B2
    have J262 : ∀ (r : Int32) (T1 : State) (Lc : List Loc) (X1 : Stand p l e room_1 s m #[(.int x0), (.int x1), (.int x2), (.int x3), (.int x4)] below meth c T1 Lc 2 8) (N1 : Fr n0 Lc) (e1 : T1.heap = T5.heap) (hr : own_is v13_72 v14_80 bb v5_2 v6_9 v7_16 v8_23 r), Own.Ends p.tables e below s (fun v h L => v = some (.int 1) ∧ Fr n0 L) room_1.cells room_1.slots (T1.setTop (mkF m 262 #[.val (.int x0), .val (.int x1), .val (.int x2), .val (.int x3), .val (.int x4), .val (.int v5_2), .val (.int v6_9), .val (.int v7_16), .val (.int v8_23), .val (.int v9_31), .val (.int v10_42), .val (.int v11_53), .val (.int v12_64), .val (.int v13_72), .val (.int v14_80), .val (.int v15_86), .val (.int bb), .val (.ref a), .val (.int r)] [])) := by
      intro r T1 Lc X1 N1 e1 hr
      refine Own.aload 264 X1 hx (hb hby at_262) rfl rfl rfl ?_
      refine Own.iload 266 X1 hx (hb hby at_264) rfl rfl ?_
      refine Own.iload 268 X1 hx (hb hby at_266) rfl rfl ?_
      refine Own.iload 270 X1 hx (hb hby at_268) rfl rfl ?_
      refine Own.callVt 273 0 a [(.int v13_72), (.int v14_80), (.int bb)] [] X1 hx hZ hown (m6 l Z a0 w a v13_72 v14_80 bb b k v5_2 v6_9 v7_16 v8_23 _ F15 V5 B1 B2) E5 (notFace_of_selects (args := #[]) (mvT hZ (w 33 rfl))) (w 30 rfl) (w 31 rfl) (w 33 rfl) (w 32 rfl) (w 3 rfl) (w 34 rfl) (by decide) e1 (by decide) (by decide) (by decide) (by decide) (by rw [hml]; rfl) (lenOf pd_3 rfl) rfl (Nat.le_of_eq rfl) (hb hby at_270) rfl ?_
      rintro vv T6 L6 X6 ⟨r2, rfl, hr2, hh2, rfl⟩
      have N2 := Fr.app N1 (Fr.nil _)
      refine Own.iload 275 X6 hx (hb hby at_273) rfl rfl ?_
      refine Own.icmp_ne 282 278 X6 hx (hb hby at_275) (by decide) rfl (fun tk => absurd (own_is_eq hr2 hr) tk) (fun tk => ?_)
      refine Own.iconst 279 X6 hx ((1 : Int32)) (hb hby at_278) rfl rfl ?_
      refine Own.goto 283 X6 hx (hb hby at_279) (by decide) ?_
      refine Own.retBool X6 hx hlk hret (hb hby at_283) (by decide) (by decide) ?_
      exact ⟨rfl, N2⟩
    refine Own.callSt 187 0 [(.int (0 : Int32)), (.int v13_72), (.int v14_80), (.int v5_2), (.int bb)] [] X5 hx hZ hown (m5 l Z a0 w (0 : Int32) v13_72 v14_80 v5_2 bb _) (w 26 rfl) (w 27 rfl) (w 28 rfl) (w 29 rfl) (by decide) rfl (by decide) (by decide) (by decide) (by decide) (by rw [hml]; rfl) (lenOf pd_4 rfl) rfl (Nat.le_of_eq rfl) (hb hby at_184) rfl ?_
    rintro vv T7 L7 X7 ⟨r0, rfl, hr0, hh7, rfl⟩
    rw [own_t0] at hr0
    have N7 := Fr.app N5 (Fr.nil _)
    refine Own.if_eq 196 190 X7 hx (hb hby at_187) (by decide) rfl (fun k0 => ?_) (fun k0 => ?_)
    ·
      have g0 : ¬ own_hit 0 v13_72 v14_80 bb v5_2 := by
        rcases hr0 with ⟨q, _⟩ | ⟨_, q⟩
        · rw [k0] at q; exact absurd q (by decide)
        · exact q
      refine Own.iconst 197 X7 hx ((1 : Int32)) (hb hby at_196) rfl rfl ?_
      refine Own.iload 199 X7 hx (hb hby at_197) rfl rfl ?_
      refine Own.iload 201 X7 hx (hb hby at_199) rfl rfl ?_
      refine Own.iload 203 X7 hx (hb hby at_201) rfl rfl ?_
      refine Own.iload 205 X7 hx (hb hby at_203) rfl rfl ?_
      refine Own.callSt 208 0 [(.int (1 : Int32)), (.int v13_72), (.int v14_80), (.int v6_9), (.int bb)] [] X7 hx hZ hown (m5 l Z a0 w (1 : Int32) v13_72 v14_80 v6_9 bb _) (w 26 rfl) (w 27 rfl) (w 28 rfl) (w 29 rfl) (by decide) hh7 (by decide) (by decide) (by decide) (by decide) (by rw [hml]; rfl) (lenOf pd_4 rfl) rfl (Nat.le_of_eq rfl) (hb hby at_205) rfl ?_
      rintro vv T8 L8 X8 ⟨r1, rfl, hr1, hh8, rfl⟩
      rw [own_t1] at hr1
      have N8 := Fr.app N7 (Fr.nil _)
      refine Own.if_eq 217 211 X8 hx (hb hby at_208) (by decide) rfl (fun k1 => ?_) (fun k1 => ?_)
      ·
        have g1 : ¬ own_hit 1 v13_72 v14_80 bb v6_9 := by
          rcases hr1 with ⟨q, _⟩ | ⟨_, q⟩
          · rw [k1] at q; exact absurd q (by decide)
          · exact q
        refine Own.iconst 218 X8 hx ((2 : Int32)) (hb hby at_217) rfl rfl ?_
        refine Own.iload 220 X8 hx (hb hby at_218) rfl rfl ?_
        refine Own.iload 222 X8 hx (hb hby at_220) rfl rfl ?_
        refine Own.iload 224 X8 hx (hb hby at_222) rfl rfl ?_
        refine Own.iload 226 X8 hx (hb hby at_224) rfl rfl ?_
        refine Own.callSt 229 0 [(.int (2 : Int32)), (.int v13_72), (.int v14_80), (.int v7_16), (.int bb)] [] X8 hx hZ hown (m5 l Z a0 w (2 : Int32) v13_72 v14_80 v7_16 bb _) (w 26 rfl) (w 27 rfl) (w 28 rfl) (w 29 rfl) (by decide) hh8 (by decide) (by decide) (by decide) (by decide) (by rw [hml]; rfl) (lenOf pd_4 rfl) rfl (Nat.le_of_eq rfl) (hb hby at_226) rfl ?_
        rintro vv T9 L9 X9 ⟨r2, rfl, hr2, hh9, rfl⟩
        rw [own_t2] at hr2
        have N9 := Fr.app N8 (Fr.nil _)
        refine Own.if_eq 238 232 X9 hx (hb hby at_229) (by decide) rfl (fun k2 => ?_) (fun k2 => ?_)
        ·
          have g2 : ¬ own_hit 2 v13_72 v14_80 bb v7_16 := by
            rcases hr2 with ⟨q, _⟩ | ⟨_, q⟩
            · rw [k2] at q; exact absurd q (by decide)
            · exact q
          refine Own.iconst 239 X9 hx ((3 : Int32)) (hb hby at_238) rfl rfl ?_
          refine Own.iload 241 X9 hx (hb hby at_239) rfl rfl ?_
          refine Own.iload 243 X9 hx (hb hby at_241) rfl rfl ?_
          refine Own.iload 245 X9 hx (hb hby at_243) rfl rfl ?_
          refine Own.iload 247 X9 hx (hb hby at_245) rfl rfl ?_
          refine Own.callSt 250 0 [(.int (3 : Int32)), (.int v13_72), (.int v14_80), (.int v8_23), (.int bb)] [] X9 hx hZ hown (m5 l Z a0 w (3 : Int32) v13_72 v14_80 v8_23 bb _) (w 26 rfl) (w 27 rfl) (w 28 rfl) (w 29 rfl) (by decide) hh9 (by decide) (by decide) (by decide) (by decide) (by rw [hml]; rfl) (lenOf pd_4 rfl) rfl (Nat.le_of_eq rfl) (hb hby at_247) rfl ?_
          rintro vv T10 L10 X10 ⟨r3, rfl, hr3, hh10, rfl⟩
          rw [own_t3] at hr3
          have N10 := Fr.app N9 (Fr.nil _)
          refine Own.if_eq 259 253 X10 hx (hb hby at_250) (by decide) rfl (fun k3 => ?_) (fun k3 => ?_)
          ·
            have g3 : ¬ own_hit 3 v13_72 v14_80 bb v8_23 := by
              rcases hr3 with ⟨q, _⟩ | ⟨_, q⟩
              · rw [k3] at q; exact absurd q (by decide)
              · exact q
            refine Own.iconst 260 X10 hx ((-1 : Int32)) (hb hby at_259) rfl rfl ?_
            refine Own.istoreV 262 #[.val (.int x0), .val (.int x1), .val (.int x2), .val (.int x3), .val (.int x4), .val (.int v5_2), .val (.int v6_9), .val (.int v7_16), .val (.int v8_23), .val (.int v9_31), .val (.int v10_42), .val (.int v11_53), .val (.int v12_64), .val (.int v13_72), .val (.int v14_80), .val (.int v15_86), .val (.int bb), .val (.ref a), .val (.int (-1 : Int32))] X10 hx (hb hby at_260) rfl rfl ?_
            exact J262 (-1) _ _ X10 N10 hh10 (Or.inr (Or.inr (Or.inr (Or.inr ⟨own_tm, g0, g1, g2, g3⟩))))
          ·
            have g3 : own_hit 3 v13_72 v14_80 bb v8_23 := by
              rcases hr3 with ⟨_, q⟩ | ⟨q, _⟩
              · exact q
              · exact absurd (Int32.toInt_inj.mp (q.trans own_t0.symm)) k3
            refine Own.iconst 254 X10 hx ((3 : Int32)) (hb hby at_253) rfl rfl ?_
            refine Own.istoreV 256 #[.val (.int x0), .val (.int x1), .val (.int x2), .val (.int x3), .val (.int x4), .val (.int v5_2), .val (.int v6_9), .val (.int v7_16), .val (.int v8_23), .val (.int v9_31), .val (.int v10_42), .val (.int v11_53), .val (.int v12_64), .val (.int v13_72), .val (.int v14_80), .val (.int v15_86), .val (.int bb), .val (.ref a), .val (.int (3 : Int32))] X10 hx (hb hby at_254) rfl rfl ?_
            refine Own.goto 262 X10 hx (hb hby at_256) (by decide) ?_
            exact J262 (3 : Int32) _ _ X10 N10 hh10 (Or.inr (Or.inr (Or.inr (Or.inl ⟨own_t3, g0, g1, g2, g3⟩))))
        ·
          have g2 : own_hit 2 v13_72 v14_80 bb v7_16 := by
            rcases hr2 with ⟨_, q⟩ | ⟨q, _⟩
            · exact q
            · exact absurd (Int32.toInt_inj.mp (q.trans own_t0.symm)) k2
          refine Own.iconst 233 X9 hx ((2 : Int32)) (hb hby at_232) rfl rfl ?_
          refine Own.istoreV 235 #[.val (.int x0), .val (.int x1), .val (.int x2), .val (.int x3), .val (.int x4), .val (.int v5_2), .val (.int v6_9), .val (.int v7_16), .val (.int v8_23), .val (.int v9_31), .val (.int v10_42), .val (.int v11_53), .val (.int v12_64), .val (.int v13_72), .val (.int v14_80), .val (.int v15_86), .val (.int bb), .val (.ref a), .val (.int (2 : Int32))] X9 hx (hb hby at_233) rfl rfl ?_
          refine Own.goto 262 X9 hx (hb hby at_235) (by decide) ?_
          exact J262 (2 : Int32) _ _ X9 N9 hh9 (Or.inr (Or.inr (Or.inl ⟨own_t2, g0, g1, g2⟩)))
      ·
        have g1 : own_hit 1 v13_72 v14_80 bb v6_9 := by
          rcases hr1 with ⟨_, q⟩ | ⟨q, _⟩
          · exact q
          · exact absurd (Int32.toInt_inj.mp (q.trans own_t0.symm)) k1
        refine Own.iconst 212 X8 hx ((1 : Int32)) (hb hby at_211) rfl rfl ?_
        refine Own.istoreV 214 #[.val (.int x0), .val (.int x1), .val (.int x2), .val (.int x3), .val (.int x4), .val (.int v5_2), .val (.int v6_9), .val (.int v7_16), .val (.int v8_23), .val (.int v9_31), .val (.int v10_42), .val (.int v11_53), .val (.int v12_64), .val (.int v13_72), .val (.int v14_80), .val (.int v15_86), .val (.int bb), .val (.ref a), .val (.int (1 : Int32))] X8 hx (hb hby at_212) rfl rfl ?_
        refine Own.goto 262 X8 hx (hb hby at_214) (by decide) ?_
        exact J262 (1 : Int32) _ _ X8 N8 hh8 (Or.inr (Or.inl ⟨own_t1, g0, g1⟩))
    ·
      have g0 : own_hit 0 v13_72 v14_80 bb v5_2 := by
        rcases hr0 with ⟨_, q⟩ | ⟨q, _⟩
        · exact q
        · exact absurd (Int32.toInt_inj.mp (q.trans own_t0.symm)) k0
      refine Own.iconst 191 X7 hx ((0 : Int32)) (hb hby at_190) rfl rfl ?_
      refine Own.istoreV 193 #[.val (.int x0), .val (.int x1), .val (.int x2), .val (.int x3), .val (.int x4), .val (.int v5_2), .val (.int v6_9), .val (.int v7_16), .val (.int v8_23), .val (.int v9_31), .val (.int v10_42), .val (.int v11_53), .val (.int v12_64), .val (.int v13_72), .val (.int v14_80), .val (.int v15_86), .val (.int bb), .val (.ref a), .val (.int (0 : Int32))] X7 hx (hb hby at_191) rfl rfl ?_
      refine Own.goto 262 X7 hx (hb hby at_193) (by decide) ?_
      exact J262 (0 : Int32) _ _ X7 N7 hh7 (Or.inl ⟨own_t0, g0⟩)
  refine Own.if_ne 100 93 X0 hx (hb hby at_90) (by decide) rfl (fun s0 => ?_) (fun s0 => ?_)
  ·
    refine Own.iload 102 X0 hx (hb hby at_100) rfl rfl ?_
    refine Own.iconst 103 X0 hx ((1 : Int32)) (hb hby at_102) rfl rfl ?_
    refine Own.icmp_ne 113 106 X0 hx (hb hby at_103) (by decide) rfl (fun s1 => ?_) (fun s1 => ?_)
    ·
      refine Own.iload 115 X0 hx (hb hby at_113) rfl rfl ?_
      refine Own.iconst 116 X0 hx ((2 : Int32)) (hb hby at_115) rfl rfl ?_
      refine Own.icmp_ne 126 119 X0 hx (hb hby at_116) (by decide) rfl (fun s2 => ?_) (fun s2 => ?_)
      ·
        refine Own.iload 128 X0 hx (hb hby at_126) rfl rfl ?_
        refine Own.iconst 129 X0 hx ((3 : Int32)) (hb hby at_128) rfl rfl ?_
        refine Own.icmp_ne 139 132 X0 hx (hb hby at_129) (by decide) rfl (fun s3 => ?_) (fun s3 => ?_)
        ·
          refine Own.iload 141 X0 hx (hb hby at_139) rfl rfl ?_
          refine Own.i2b 142 X0 hx (hb hby at_141) rfl rfl ?_
          refine Own.istore 144 (fun v16_142 => #[.val (.int x0), .val (.int x1), .val (.int x2), .val (.int x3), .val (.int x4), .val (.int v5_2), .val (.int v6_9), .val (.int v7_16), .val (.int v8_23), .val (.int v9_31), .val (.int v10_42), .val (.int v11_53), .val (.int v12_64), .val (.int v13_72), .val (.int v14_80), .val (.int v15_86), .val (.int v16_142), .unset, .unset]) X0 hx (hb hby at_142) rfl (fun _ => rfl) fun v16_142 hv16_142 => ?_
          exact J144 _
        ·
          refine Own.iload 134 X0 hx (hb hby at_132) rfl rfl ?_
          refine Own.istoreV 136 #[.val (.int x0), .val (.int x1), .val (.int x2), .val (.int x3), .val (.int x4), .val (.int v5_2), .val (.int v6_9), .val (.int v7_16), .val (.int v8_23), .val (.int v9_31), .val (.int v10_42), .val (.int v11_53), .val (.int v12_64), .val (.int v13_72), .val (.int v14_80), .val (.int v15_86), .val (.int v8_23), .unset, .unset] X0 hx (hb hby at_134) rfl rfl ?_
          refine Own.goto 144 X0 hx (hb hby at_136) (by decide) ?_
          exact J144 _
      ·
        refine Own.iload 121 X0 hx (hb hby at_119) rfl rfl ?_
        refine Own.istoreV 123 #[.val (.int x0), .val (.int x1), .val (.int x2), .val (.int x3), .val (.int x4), .val (.int v5_2), .val (.int v6_9), .val (.int v7_16), .val (.int v8_23), .val (.int v9_31), .val (.int v10_42), .val (.int v11_53), .val (.int v12_64), .val (.int v13_72), .val (.int v14_80), .val (.int v15_86), .val (.int v7_16), .unset, .unset] X0 hx (hb hby at_121) rfl rfl ?_
        refine Own.goto 144 X0 hx (hb hby at_123) (by decide) ?_
        exact J144 _
    ·
      refine Own.iload 108 X0 hx (hb hby at_106) rfl rfl ?_
      refine Own.istoreV 110 #[.val (.int x0), .val (.int x1), .val (.int x2), .val (.int x3), .val (.int x4), .val (.int v5_2), .val (.int v6_9), .val (.int v7_16), .val (.int v8_23), .val (.int v9_31), .val (.int v10_42), .val (.int v11_53), .val (.int v12_64), .val (.int v13_72), .val (.int v14_80), .val (.int v15_86), .val (.int v6_9), .unset, .unset] X0 hx (hb hby at_108) rfl rfl ?_
      refine Own.goto 144 X0 hx (hb hby at_110) (by decide) ?_
      exact J144 _
  ·
    refine Own.iload 95 X0 hx (hb hby at_93) rfl rfl ?_
    refine Own.istoreV 97 #[.val (.int x0), .val (.int x1), .val (.int x2), .val (.int x3), .val (.int x4), .val (.int v5_2), .val (.int v6_9), .val (.int v7_16), .val (.int v8_23), .val (.int v9_31), .val (.int v10_42), .val (.int v11_53), .val (.int v12_64), .val (.int v13_72), .val (.int v14_80), .val (.int v15_86), .val (.int v5_2), .unset, .unset] X0 hx (hb hby at_95) rfl rfl ?_
    refine Own.goto 144 X0 hx (hb hby at_97) (by decide) ?_
    exact J144 _
set_option maxRecDepth 65536 in
set_option maxHeartbeats 40000000 in
theorem comes_1 {Post : Tables → Env → Array Value → State → Outcome → State → Prop} (hpost : ∀ tb e args s v u, (limb_1_1.after args s (.returned v) u = true ∧ limb_1_2.after args s (.returned v) u = true ∧ True) → FrameEnd s (.returned v) u (Jvm.fieldLocs frame_1_writes args s ++ Jvm.arrayLocs frame_1_arrays args s ++ Jvm.staticLocs frame_1_statics s) 16 128 → Post tb e args s (.returned v) u) :
    ArmFor flags0 classFile x code maxLocals ret World_1 tables_1 room_1 Calls_1 rest_1 Pre_1 Post := by
  intro l hfl _ _ p e ha hc hk s m args below hf hA hF happ hP
  obtain ⟨hcalls, hrest, hpre⟩ := hP
  obtain ⟨-, -, -, hnamed, -, -, -, hat⟩ := (Spec.applies_iff hf).mp happ
  obtain ⟨hg, hn⟩ := and_e (Cond.before_iff.mp (show (Jvm.Cond.and given_1 narrow_1).before args s = true from hpre))
  obtain ⟨g1, g2⟩ := and_e hg
  obtain ⟨g3, g4⟩ := and_e g2
  obtain ⟨g5, g6⟩ := and_e g4
  obtain ⟨g7, g8⟩ := and_e g6
  obtain ⟨g9, g10⟩ := and_e g8
  obtain ⟨w0, w1, w2, w3, w4, rfl⟩ : ∃ w0 w1 w2 w3 w4 : Value, args = #[w0, w1, w2, w3, w4] := by
    have hs : args.size = 5 := by simpa [Cond.value, given_1] using g1
    obtain ⟨L⟩ := args
    match L, hs with
    | [w0, w1, w2, w3, w4], _ => exact ⟨w0, w1, w2, w3, w4, rfl⟩
  have hw := fun d (hd : d ∈ tables_1) => atoms_spec (ws := Jvm.Cond.code x code maxLocals ret :: tables_1) hat d (List.mem_cons_of_mem _ hd)
  obtain ⟨i0, ei0⟩ := is_v g3
  obtain rfl : w0 = (.int i0) := Option.some.inj ei0
  obtain ⟨i1, ei1⟩ := is_v g5
  obtain rfl : w1 = (.int i1) := Option.some.inj ei1
  obtain ⟨i2, ei2⟩ := is_v g7
  obtain rfl : w2 = (.int i2) := Option.some.inj ei2
  obtain ⟨i3, ei3⟩ := is_v g9
  obtain rfl : w3 = (.int i3) := Option.some.inj ei3
  obtain ⟨i4, ei4⟩ := is_v g10
  obtain rfl : w4 = (.int i4) := Option.some.inj ei4
  obtain ⟨n, o, h1, h2, h3, _, L, rfl, ⟨rfl, N⟩, hq⟩ := m0 l s _ (fun i {d} h => hw d (List.mem_of_getElem? h)) i0 i1 i2 i3 i4 s.heap s.heap.size (Nat.le_refl _) p e ha hc hk s m _ below hf ((Spec.applies_iff_loose hf).mp happ).1 ⟨rfl, State.Warmed39.refl s, rfl⟩ trivial
  refine ⟨n, _, h1, h2, h3, hpost _ _ _ _ _ _ ⟨Cond.after_iff.mpr rfl, Cond.after_iff.mpr (eq_i res_at (Term.int_eval (1)) rfl), trivial⟩ ⟨hq.1, hq.2.1, (hq.2.2.sift fun y hy => Or.inr (N y hy)).mono (by decide) (by decide)⟩⟩
theorem main_1_1 : Claimed_1_1 := comes_1 fun _ _ _ _ _ _ h hF => ⟨h.1, hF⟩
theorem main_1_2 : Claimed_1_2 := comes_1 fun _ _ _ _ _ _ h hF => ⟨h.2.1, hF⟩
end Jvm.Pilot.@@N@@
namespace Jvm.Pilot.@@N@@
open Jvm Jvm.ClassFile Sem Op Lib Jvm.Free Jvm.Stand Jvm.Pilot.@@N@@.Jvm.D
/-! MADE BY PROGRAM (witnessworld.py) out of the Statement's table words and the real class files: 9 classes; the members and pool entries that the words name. The judged class is class 1, her method 2. -/
namespace start1
open Jvm.ClassFile
def u (s : String) : CpInfo := .utf8 (stringToUtf16 s)
/-- a pool by its gaps: so many unusable entries, then the entry; so many at the end -/
def gap : Nat → List CpInfo → List CpInfo
  | 0, r => r
  | n + 1, r => .unusable :: gap n r
def poolList (es : List (Nat × CpInfo)) (last : Nat) : List CpInfo := es.foldr (fun e r => gap e.1 (e.2 :: r)) (gap last [])
def pool (es : List (Nat × CpInfo)) (last : Nat) : Array CpInfo := ⟨poolList es last⟩
def fileOf (pool : Array CpInfo) (this : Nat) (attrs : Array Attribute := #[]) (ms : Array MethodInfo := #[]) (fl : Nat := 33) (sup : Nat := 0) (ifs : Array Nat := #[]) (fds : Array FieldInfo := #[]) : ClassFile where
  minorVersion := 0
  majorVersion := 65
  constantPool := pool
  accessFlags := fl
  thisClass := this
  superClass := sup
  interfaces := ifs
  fields := fds
  methods := ms
  attributes := attrs
def plain (name : String) (sup : Option ClassId) : Class where
  name := name
  kind := .ordinary
  loader := none
  accessFlags := 33
  super := sup
  interfaces := #[]
  cf := none
  fields := #[]
  methods := #[]
  instanceTypes := #[]
  staticTypes := #[]
  resolved := #[]
  callSites := []
  init := .initialized
  statics := none
  mirror := none

def pool0 : Array CpInfo := pool [(5, u "<init>"), (0, u "()V"), (1, .class_ 10), (1, u "java/lang/Object")] 113

def k0c0 : Code := { maxStack := 0, maxLocals := 1, code := object_method_1_code, exceptionTable := #[], attributes := #[] }
def k0m0 : Method := { name := "<init>", desc := "()V", sig := { parameters := [], returnType := none }, accessFlags := 1, code := some k0c0 }
/-- java/lang/Object -/
def k0 : Class := { plain "java/lang/Object" none with
  accessFlags := 33
  interfaces := #[]
  cf := some (fileOf pool0 8 #[] #[{ accessFlags := 1, nameIndex := 5, descriptorIndex := 6, attributes := #[] }] 33 0 #[] #[])
  fields := #[]
  methods := #[k0m0]
  instanceTypes := #[]
  staticTypes := #[]
  resolved := Array.replicate 124 none
  statics := none }

def pool1 : Array CpInfo := pool [(2, .class_ 4), (1, u "java/lang/Object"), (0, u "<init>"), (0, u "()V"), (0, .integer 2147483647), (0, .class_ 9), (0, u "com/example/hold_steady/holdsteady/server/Bytes"), (0, .methodref 8 11), (0, .nameAndType 5 12), (0, u "(II)V"), (0, .methodref 8 14), (0, .nameAndType 15 16), (0, u "addPair"), (0, u "(CC)Lcom/example/hold_steady/holdsteady/server/Bytes;"), (0, .methodref 18 19), (0, .class_ 20), (0, .nameAndType 21 22), (0, u "com/example/hold_steady/holdsteady/server/BytesIndexOfPinLaw"), (0, u "hit"), (0, u "(IIIBB)Z"), (0, .methodref 8 24), (0, .nameAndType 25 26), (0, u "indexOf"), (0, u "(IIB)I"), (3, u "law"), (0, u "(IIIII)Z")] 2

def k1m0 : Method := { name := "<init>", desc := "()V", sig := { parameters := [], returnType := none }, accessFlags := 1, code := none }
def k1c1 : Code := { maxStack := 2, maxLocals := 5, code := method_2_code, exceptionTable := #[], attributes := #[] }
def k1m1 : Method := { name := "hit", desc := "(IIIBB)Z", sig := { parameters := [.int, .int, .int, .byte, .byte], returnType := some .boolean }, accessFlags := 10, code := some k1c1 }
def k1c2 : Code := { maxStack := 5, maxLocals := 19, code := code, exceptionTable := #[], attributes := #[] }
def k1m2 : Method := { name := "law", desc := "(IIIII)Z", sig := { parameters := [.int, .int, .int, .int, .int], returnType := some .boolean }, accessFlags := 9, code := some k1c2 }
/-- com/example/hold_steady/holdsteady/server/BytesIndexOfPinLaw -/
def k1 : Class := { plain "com/example/hold_steady/holdsteady/server/BytesIndexOfPinLaw" (some 0) with
  accessFlags := 49
  interfaces := #[]
  cf := some (fileOf pool1 18 #[] #[{ accessFlags := 1, nameIndex := 5, descriptorIndex := 6, attributes := #[] }, { accessFlags := 10, nameIndex := 21, descriptorIndex := 22, attributes := #[] }, { accessFlags := 9, nameIndex := 30, descriptorIndex := 31, attributes := #[] }] 49 2 #[] #[])
  fields := #[]
  methods := #[k1m0, k1m1, k1m2]
  instanceTypes := #[]
  staticTypes := #[]
  resolved := Array.replicate 34 none
  statics := none }

def pool2 : Array CpInfo := pool [(3, .class_ 4), (0, u "com/example/hold_steady/holdsteady/server/Bytes"), (3, u "<init>"), (0, u "(II)V"), (0, .methodref 11 12), (0, .class_ 13), (0, .nameAndType 8 14), (0, u "java/lang/Object"), (0, u "()V"), (0, .fieldref 3 16), (0, .nameAndType 17 18), (0, u "array"), (0, u "[B"), (0, .fieldref 3 20), (0, .nameAndType 21 22), (0, u "ceiling"), (0, u "I"), (0, .fieldref 3 24), (0, .nameAndType 25 22), (0, u "start"), (0, .fieldref 3 27), (0, .nameAndType 28 22), (0, u "end"), (20, u "(I)V"), (6, .methodref 3 57), (0, .nameAndType 58 49), (0, u "room"), (24, .long 2147483639), (8, .long 2), (10, u "MAX_SIZE"), (8, u "indexOf"), (0, u "(IIB)I"), (14, u "addPair"), (0, u "(CC)Lcom/example/hold_steady/holdsteady/server/Bytes;")] 5

def k2c0 : Code := { maxStack := 2, maxLocals := 3, code := prog_43_method_2_code, exceptionTable := #[], attributes := #[] }
def k2m0 : Method := { name := "<init>", desc := "(II)V", sig := { parameters := [.int, .int], returnType := none }, accessFlags := 0, code := some k2c0 }
def k2c1 : Code := { maxStack := 2, maxLocals := 5, code := prog_43_method_8_code, exceptionTable := #[], attributes := #[] }
def k2m1 : Method := { name := "indexOf", desc := "(IIB)I", sig := { parameters := [.int, .int, .byte], returnType := some .int }, accessFlags := 0, code := some k2c1 }
def k2c2 : Code := { maxStack := 3, maxLocals := 3, code := prog_43_method_19_code, exceptionTable := #[], attributes := #[] }
def k2m2 : Method := { name := "addPair", desc := "(CC)Lcom/example/hold_steady/holdsteady/server/Bytes;", sig := { parameters := [.char, .char], returnType := some (.object "com/example/hold_steady/holdsteady/server/Bytes") }, accessFlags := 0, code := some k2c2 }
def k2c3 : Code := { maxStack := 6, maxLocals := 8, code := prog_43_method_22_code, exceptionTable := #[], attributes := #[] }
def k2m3 : Method := { name := "room", desc := "(I)V", sig := { parameters := [.int], returnType := none }, accessFlags := 2, code := some k2c3 }
/-- com/example/hold_steady/holdsteady/server/Bytes -/
def k2 : Class := { plain "com/example/hold_steady/holdsteady/server/Bytes" (some 0) with
  accessFlags := 48
  interfaces := #[]
  cf := some (fileOf pool2 3 #[] #[{ accessFlags := 0, nameIndex := 8, descriptorIndex := 9, attributes := #[] }, { accessFlags := 0, nameIndex := 112, descriptorIndex := 113, attributes := #[] }, { accessFlags := 0, nameIndex := 128, descriptorIndex := 129, attributes := #[] }, { accessFlags := 2, nameIndex := 58, descriptorIndex := 49, attributes := #[] }] 48 11 #[] #[{ accessFlags := 24, nameIndex := 103, descriptorIndex := 22, attributes := #[] }, { accessFlags := 18, nameIndex := 21, descriptorIndex := 22, attributes := #[] }, { accessFlags := 2, nameIndex := 17, descriptorIndex := 18, attributes := #[] }, { accessFlags := 2, nameIndex := 25, descriptorIndex := 22, attributes := #[] }, { accessFlags := 2, nameIndex := 28, descriptorIndex := 22, attributes := #[] }])
  fields := #[{ name := "MAX_SIZE", type := .int, accessFlags := 24, slot := 0, constantValue := 0 }, { name := "ceiling", type := .int, accessFlags := 18, slot := 0, constantValue := 0 }, { name := "array", type := (.array .byte), accessFlags := 2, slot := 1, constantValue := 0 }, { name := "start", type := .int, accessFlags := 2, slot := 2, constantValue := 0 }, { name := "end", type := .int, accessFlags := 2, slot := 3, constantValue := 0 }]
  methods := #[k2m0, k2m1, k2m2, k2m3]
  instanceTypes := #[.int, (.array .byte), .int, .int]
  staticTypes := #[.int]
  resolved := Array.replicate 135 none
  statics := none }

def pool3 : Array CpInfo := pool [(1, u "java/lang/Cloneable"), (0, .class_ 1), (0, u "java/lang/Object"), (0, .class_ 3)] 3

/-- java/lang/Cloneable -/
def k3 : Class := { plain "java/lang/Cloneable" (some 0) with
  accessFlags := 1537
  interfaces := #[]
  cf := some (fileOf pool3 2 #[] #[] 1537 4 #[] #[])
  fields := #[]
  methods := #[]
  instanceTypes := #[]
  staticTypes := #[]
  resolved := Array.replicate 8 none
  statics := none }

def pool4 : Array CpInfo := pool [(1, u "java/io/Serializable"), (0, .class_ 1), (0, u "java/lang/Object"), (0, .class_ 3)] 3

/-- java/io/Serializable -/
def k4 : Class := { plain "java/io/Serializable" (some 0) with
  accessFlags := 1537
  interfaces := #[]
  cf := some (fileOf pool4 2 #[] #[] 1537 4 #[] #[])
  fields := #[]
  methods := #[]
  instanceTypes := #[]
  staticTypes := #[]
  resolved := Array.replicate 8 none
  statics := none }

/-- the primitive byte -/
def k5 : Class := { plain "byte" none with kind := .primitive 'B', accessFlags := 0x411 }
/-- [B -/
def k6 : Class := { plain "[B" (some 0) with kind := .array 5 .byte, interfaces := #[3, 4], accessFlags := 1041 }

/-- the primitive int -/
def k7 : Class := { plain "int" none with kind := .primitive 'I', accessFlags := 0x411 }
/-- [I -/
def k8 : Class := { plain "[I" (some 0) with kind := .array 7 .int, interfaces := #[3, 4], accessFlags := 1041 }

def heap : Heap := #[]
def classes : Array Class := #[k0, k1, k2, k3, k4, k5, k6, k7, k8]
def interned : List (Array UInt16 × Addr) := []
def slotsUsed : Nat := 0
def theMethod : MethodId := ⟨1, 2⟩
def args0 : Array Value := #[.int 1, .int 2, .int 3, .int 4, .int 5]
def aboutOver (below : List Frame) : State where
  vm := { classes := classes, interned := interned.toArray }
  heap := heap
  slotsUsed := slotsUsed
  threads := #[{ frames := .invoking theMethod args0 :: below }]
def below0 : List Frame := [.native { method := ⟨0, 0⟩, args := #[] }]
def about1 : State := aboutOver below0
def p0 : Program := .bare "" "" ""
def e0 : Env := launch0.env 0 0 0
theorem w_frames : about1.frames = Frame.invoking theMethod args0 :: below0 := rfl
set_option maxRecDepth 65536 in
theorem w_args : argsFit about1.vm theMethod args0 = true := by decide +kernel
set_option maxRecDepth 65536 in
theorem w_heap : heapFits about1 = true := by decide +kernel
set_option maxRecDepth 65536 in
theorem w_runnable : about1.curStatus? = some .runnable := by decide +kernel
set_option maxRecDepth 65536 in
theorem w_alone : about1.alone = true := by decide +kernel
set_option maxRecDepth 65536 in
theorem w_named : about1.methodNamed? x = some theMethod := by decide +kernel
set_option maxRecDepth 65536 in
theorem w_hears : about1.hears theMethod below0 = true := by decide +kernel
set_option maxRecDepth 65536 in
theorem w_ripe : about1.ripe theMethod args0 below0 = true := by decide +kernel
theorem w_running : about1.status = .running := rfl
set_option maxRecDepth 65536 in
theorem w_room : about1.hasRoom e0.platform room_1 = true :=
  launch0.hasRoom_least _ room_1 (by decide +kernel) (by decide +kernel) (by decide +kernel) (by decide +kernel) (by decide +kernel) (by decide +kernel)
theorem allAtoms_all (ts : List Jvm.Cond) (a : Array Jvm.Value) (st : Jvm.State) : (allAtoms ts).before a st = ts.all (fun c => c.before a st) := by
  induction ts with
  | nil => rfl
  | cons c t ih =>
    show (Jvm.Cond.and c (allAtoms t)).before a st = _
    rw [Jvm.Cond.before_and, ih, List.all_cons]
def words1 : List Jvm.Cond := Jvm.Cond.code x code maxLocals ret :: tables_1
/-- a 'code' word, met by the world's own term for the bytes: nothing is compared byte by byte -/
theorem code_word {y : MethodName} {bytes : ByteArray} {mx : Nat} {rt : Option FieldType} {a : Array Value} {s : State} {m : MethodId} {meth : Method} {c : Code} (h1 : s.methodNamed? y = some m) (h2 : s.vm.method? m = some meth) (h3 : meth.code = some c) (h4 : c.code = bytes)
    (h5 : (c.maxLocals == mx && c.exceptionTable.isEmpty && decide (c.maxStack ≤ mostOperands) && decide (meth.sig.returnType = rt) && !meth.locks && decide (parseMethodDescriptor y.desc = some meth.sig)) = true) : (Jvm.Cond.code y bytes mx rt).before a s = true := by
  simp only [Bool.and_eq_true, beq_iff_eq, Bool.not_eq_true', decide_eq_true_eq] at h5
  obtain ⟨⟨⟨⟨⟨g1, g2⟩, g3⟩, g4⟩, g5⟩, g6⟩ := h5
  simp [Cond.before, Cond.holds, Cond.value, h1, h2, h3, h4, g1, g2, g3, g4, g5, g6]
def isCode : Jvm.Cond → Bool
  | .code _ _ _ _ => true
  | _ => false
theorem all_split {L : List Jvm.Cond} {P : Jvm.Cond → Bool} (h1 : L.all (fun c => isCode c || P c) = true) (h2 : ∀ c ∈ L.filter isCode, P c = true) : L.all P = true := by
  refine List.all_eq_true.mpr fun c hc => ?_
  have h := List.all_eq_true.mp h1 c hc
  rcases Bool.eq_false_or_eq_true (isCode c) with hi | hi
  · exact h2 c (List.mem_filter.mpr ⟨hc, hi⟩)
  · simpa [hi] using h
set_option maxRecDepth 65536 in
theorem w_c0 : (Jvm.Cond.code x code maxLocals ret).before args0 about1 = true := code_word (m := ⟨1, 2⟩) (meth := k1m2) (c := k1c2) (by decide +kernel) rfl rfl rfl (by decide +kernel)
set_option maxRecDepth 65536 in
theorem w_c1 : (Jvm.Cond.code ({ cls := "com/example/hold_steady/holdsteady/server/Bytes", name := "<init>", desc := "(II)V" } : Jvm.MethodName) prog_43_method_2_code (3 : Nat) (Option.none : Option Jvm.ClassFile.FieldType)).before args0 about1 = true := code_word (m := ⟨2, 0⟩) (meth := k2m0) (c := k2c0) (by decide +kernel) rfl rfl rfl (by decide +kernel)
set_option maxRecDepth 65536 in
theorem w_c2 : (Jvm.Cond.code ({ cls := "java/lang/Object", name := "<init>", desc := "()V" } : Jvm.MethodName) object_method_1_code (1 : Nat) (Option.none : Option Jvm.ClassFile.FieldType)).before args0 about1 = true := code_word (m := ⟨0, 0⟩) (meth := k0m0) (c := k0c0) (by decide +kernel) rfl rfl rfl (by decide +kernel)
set_option maxRecDepth 65536 in
theorem w_c3 : (Jvm.Cond.code ({ cls := "com/example/hold_steady/holdsteady/server/Bytes", name := "addPair", desc := "(CC)Lcom/example/hold_steady/holdsteady/server/Bytes;" } : Jvm.MethodName) prog_43_method_19_code (3 : Nat) (Option.some (Jvm.ClassFile.FieldType.object "com/example/hold_steady/holdsteady/server/Bytes"))).before args0 about1 = true := code_word (m := ⟨2, 2⟩) (meth := k2m2) (c := k2c2) (by decide +kernel) rfl rfl rfl (by decide +kernel)
set_option maxRecDepth 65536 in
theorem w_c4 : (Jvm.Cond.code ({ cls := "com/example/hold_steady/holdsteady/server/Bytes", name := "room", desc := "(I)V" } : Jvm.MethodName) prog_43_method_22_code (8 : Nat) (Option.none : Option Jvm.ClassFile.FieldType)).before args0 about1 = true := code_word (m := ⟨2, 3⟩) (meth := k2m3) (c := k2c3) (by decide +kernel) rfl rfl rfl (by decide +kernel)
set_option maxRecDepth 65536 in
theorem w_c5 : (Jvm.Cond.code ({ cls := "com/example/hold_steady/holdsteady/server/BytesIndexOfPinLaw", name := "hit", desc := "(IIIBB)Z" } : Jvm.MethodName) method_2_code (5 : Nat) (Option.some Jvm.ClassFile.FieldType.boolean)).before args0 about1 = true := code_word (m := ⟨1, 1⟩) (meth := k1m1) (c := k1c1) (by decide +kernel) rfl rfl rfl (by decide +kernel)
set_option maxRecDepth 65536 in
theorem w_c6 : (Jvm.Cond.code ({ cls := "com/example/hold_steady/holdsteady/server/Bytes", name := "indexOf", desc := "(IIB)I" } : Jvm.MethodName) prog_43_method_8_code (5 : Nat) (Option.some Jvm.ClassFile.FieldType.int)).before args0 about1 = true := code_word (m := ⟨2, 1⟩) (meth := k2m1) (c := k2c1) (by decide +kernel) rfl rfl rfl (by decide +kernel)
def codes1 : List Jvm.Cond := [Jvm.Cond.code x code maxLocals ret, Jvm.Cond.code ({ cls := "com/example/hold_steady/holdsteady/server/Bytes", name := "<init>", desc := "(II)V" } : Jvm.MethodName) prog_43_method_2_code (3 : Nat) (Option.none : Option Jvm.ClassFile.FieldType), Jvm.Cond.code ({ cls := "java/lang/Object", name := "<init>", desc := "()V" } : Jvm.MethodName) object_method_1_code (1 : Nat) (Option.none : Option Jvm.ClassFile.FieldType), Jvm.Cond.code ({ cls := "com/example/hold_steady/holdsteady/server/Bytes", name := "addPair", desc := "(CC)Lcom/example/hold_steady/holdsteady/server/Bytes;" } : Jvm.MethodName) prog_43_method_19_code (3 : Nat) (Option.some (Jvm.ClassFile.FieldType.object "com/example/hold_steady/holdsteady/server/Bytes")), Jvm.Cond.code ({ cls := "com/example/hold_steady/holdsteady/server/Bytes", name := "room", desc := "(I)V" } : Jvm.MethodName) prog_43_method_22_code (8 : Nat) (Option.none : Option Jvm.ClassFile.FieldType), Jvm.Cond.code ({ cls := "com/example/hold_steady/holdsteady/server/BytesIndexOfPinLaw", name := "hit", desc := "(IIIBB)Z" } : Jvm.MethodName) method_2_code (5 : Nat) (Option.some Jvm.ClassFile.FieldType.boolean), Jvm.Cond.code ({ cls := "com/example/hold_steady/holdsteady/server/Bytes", name := "indexOf", desc := "(IIB)I" } : Jvm.MethodName) prog_43_method_8_code (5 : Nat) (Option.some Jvm.ClassFile.FieldType.int)]
set_option maxRecDepth 65536 in
theorem codes_eq : words1.filter isCode = codes1 := rfl
theorem w_codes : ∀ c ∈ words1.filter isCode, c.before args0 about1 = true := by
  rw [codes_eq]
  intro c hc
  simp only [codes1, List.mem_cons, List.not_mem_nil, or_false] at hc
  rcases hc with rfl | rfl | rfl | rfl | rfl | rfl | rfl
  · exact w_c0
  · exact w_c1
  · exact w_c2
  · exact w_c3
  · exact w_c4
  · exact w_c5
  · exact w_c6
set_option maxRecDepth 65536 in
theorem w_t1 : (words1.take 24).all (fun c => isCode c || c.before args0 about1) = true := by decide +kernel
set_option maxRecDepth 65536 in
theorem w_t2 : (words1.drop 24).all (fun c => isCode c || c.before args0 about1) = true := by decide +kernel
theorem w_tables : (allAtoms (Jvm.Cond.code x code maxLocals ret :: tables_1)).before args0 about1 = true := by
  rw [allAtoms_all]
  show words1.all (fun c => c.before args0 about1) = true
  refine all_split ?_ w_codes
  rw [← List.take_append_drop 24 words1, List.all_append, w_t1, w_t2]
  rfl
set_option maxRecDepth 65536 in
theorem w_case : (Jvm.Cond.and given_1 narrow_1).before args0 about1 = true := by decide +kernel
theorem w_applies : (headSpec (Jvm.Cond.code x code maxLocals ret :: tables_1) room_1).applies x e0.platform about1 = true :=
  (Spec.applies_iff w_frames).mpr ⟨w_running, w_runnable, w_alone, w_named, w_hears, w_ripe, w_room, w_tables⟩
theorem atStart : AtStart classFile x code maxLocals ret World_1 tables_1 room_1 Calls_1 rest_1 Pre_1 launch0 p0 e0 about1 theMethod args0 below0 :=
  ⟨lists_1, trivial, launch0.admits_env _ _ _, launch0.least_env, fairChoices_fair.cas, fairChoices_fair.clock, w_frames, w_args, w_heap, w_applies, trivial, trivial, w_case⟩
end start1
theorem witness_1 : WitnessClaimed_1 := ⟨start1.p0, start1.e0, start1.about1, start1.theMethod, start1.args0, start1.below0, start1.atStart⟩
end Jvm.Pilot.@@N@@
