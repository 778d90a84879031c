import JvmDerived
import JvmDerived.Pilot.@@N@@Statement
import JvmDerived.Pilot.@@N@@Code
set_option linter.unusedVariables false
set_option linter.unusedSimpArgs false
namespace Jvm.Own
open Jvm Sem ClassFile Op Lib Jvm.Stand Jvm.Free Jvm.LawKit Jvm.RoadKit Bundle
/-- from the state U on the body comes to its end, and what it leaves answers to Q -/
def Ends (tb : Tables) (e : Env) (below : List Frame) (Q : Option Value → Heap → List Loc → Prop) (F : Outcome → State → List Loc → Prop) (U : State) : Prop :=
  ∃ s₂ o, Steps tb e below U s₂ ∧ s₂.status = .running ∧ Ended s₂ below o ∧ ∃ v L, o = .returned v ∧ Q v s₂.heap L ∧ F o s₂ L
/-- the frame that a body keeps; the wide one of a body that may load a String constant -/
abbrev FE (s : State) (C S : Nat) : Outcome → State → List Loc → Prop := fun o t L => FrameEnd s o t L C S
abbrev FW (s : State) (C S : Nat) : Outcome → State → List Loc → Prop := fun o t L => ReturnedEndW s o t L C S
section Walk
variable {p : Program} {l : Launch} {e : Env} {R : Room} {s : State} {m : MethodId} {args : Array Value} {below : List Frame} {meth : Method} {c : Code} {T : State} {locs : List Loc} {cells slots : Nat} {Q : Option Value → Heap → List Loc → Prop} {F : Outcome → State → List Loc → Prop} {C S : Nat} {pc : Nat} {Ls : Array Slot} {st : List Value} {Z : State} {a0 : Array Value} {h : Heap}
theorem Ends.step {tb : Tables} {U V : State} (k : Ends tb e below Q F V) (hs : ∀ t, Steps tb e below V t → Steps tb e below U t) : Ends tb e below Q F U := by
  obtain ⟨s₂, o, h1, r⟩ := k
  exact ⟨s₂, o, hs _ h1, r⟩
theorem Ends.mono {tb : Tables} {U : State} {Q' : Option Value → Heap → List Loc → Prop} (k : Ends tb e below Q' F U) (hq : ∀ v h L, Q' v h L → Q v h L) : Ends tb e below Q F U := by
  obtain ⟨s₂, o, h1, h2, h3, v, L, h4, h5, h6⟩ := k
  exact ⟨s₂, o, h1, h2, h3, v, L, h4, hq _ _ _ h5, h6⟩
theorem iload (n : Nat) (X : Stand p l e R s m args below meth c T locs cells slots) (hx : p.tables.exec = Jvm.exec) {k : Nat} {v : Int32} (hd : decode c.code pc = .ok (.iload k, 2)) (hn : pc + 2 = n) (hl : Ls[k]? = some (.val (.int v))) (K : Ends p.tables e below Q F (T.setTop (mkF m n Ls (.int v :: st)))) : Ends p.tables e below Q F (T.setTop (mkF m pc Ls (st))) := by
  subst hn; exact K.step fun t k => XS.iload (g := mkF m pc Ls (st)) X.here hx rfl hd hl k
theorem iloadN (n : Nat) (X : Stand p l e R s m args below meth c T locs cells slots) (hx : p.tables.exec = Jvm.exec) {k : Fin 4} {v : Int32} (hd : decode c.code pc = .ok (.iload_n k, 1)) (hn : pc + 1 = n) (hl : Ls[k.val]? = some (.val (.int v))) (K : Ends p.tables e below Q F (T.setTop (mkF m n Ls (.int v :: st)))) : Ends p.tables e below Q F (T.setTop (mkF m pc Ls (st))) := by
  subst hn; exact K.step fun t k => XS.iloadN (g := mkF m pc Ls (st)) X.here hx rfl hd hl k
theorem lload (n : Nat) (X : Stand p l e R s m args below meth c T locs cells slots) (hx : p.tables.exec = Jvm.exec) {k : Nat} {v : Int64} (hd : decode c.code pc = .ok (.lload k, 2)) (hn : pc + 2 = n) (hl : Ls[k]? = some (.val (.long v))) (K : Ends p.tables e below Q F (T.setTop (mkF m n Ls (.long v :: st)))) : Ends p.tables e below Q F (T.setTop (mkF m pc Ls (st))) := by
  subst hn; exact K.step fun t k => XS.lload (g := mkF m pc Ls (st)) X.here hx rfl hd hl k
theorem lloadN (n : Nat) (X : Stand p l e R s m args below meth c T locs cells slots) (hx : p.tables.exec = Jvm.exec) {k : Fin 4} {v : Int64} (hd : decode c.code pc = .ok (.lload_n k, 1)) (hn : pc + 1 = n) (hl : Ls[k.val]? = some (.val (.long v))) (K : Ends p.tables e below Q F (T.setTop (mkF m n Ls (.long v :: st)))) : Ends p.tables e below Q F (T.setTop (mkF m pc Ls (st))) := by
  subst hn; exact K.step fun t k => XS.lloadN (g := mkF m pc Ls (st)) X.here hx rfl hd hl k
theorem aload (n : Nat) (X : Stand p l e R s m args below meth c T locs cells slots) (hx : p.tables.exec = Jvm.exec) {k : Nat} {v : Value} (hd : decode c.code pc = .ok (.aload k, 2)) (hn : pc + 2 = n) (hl : Ls[k]? = some (.val v)) (hv : v.isRef = true) (K : Ends p.tables e below Q F (T.setTop (mkF m n Ls (v :: st)))) : Ends p.tables e below Q F (T.setTop (mkF m pc Ls (st))) := by
  subst hn; exact K.step fun t k => XS.aload (g := mkF m pc Ls (st)) X.here hx rfl hd hl hv k
theorem aloadN (n : Nat) (X : Stand p l e R s m args below meth c T locs cells slots) (hx : p.tables.exec = Jvm.exec) {k : Fin 4} {v : Value} (hd : decode c.code pc = .ok (.aload_n k, 1)) (hn : pc + 1 = n) (hl : Ls[k.val]? = some (.val v)) (hv : v.isRef = true) (K : Ends p.tables e below Q F (T.setTop (mkF m n Ls (v :: st)))) : Ends p.tables e below Q F (T.setTop (mkF m pc Ls (st))) := by
  subst hn; exact K.step fun t k => XS.aloadN (g := mkF m pc Ls (st)) X.here hx rfl hd hl hv k
theorem iconst (n : Nat) (X : Stand p l e R s m args below meth c T locs cells slots) (hx : p.tables.exec = Jvm.exec) {i : Int} (v : Int32) (hd : decode c.code pc = .ok (.iconst i, 1)) (hn : pc + 1 = n) (hv : Int32.ofInt i = v) (K : Ends p.tables e below Q F (T.setTop (mkF m n Ls (.int v :: st)))) : Ends p.tables e below Q F (T.setTop (mkF m pc Ls (st))) := by
  subst hn; exact K.step fun t k => XS.iconst (g := mkF m pc Ls (st)) X.here hx rfl hd (hv ▸ k)
theorem bipush (n : Nat) (X : Stand p l e R s m args below meth c T locs cells slots) (hx : p.tables.exec = Jvm.exec) {i : Int} (v : Int32) (hd : decode c.code pc = .ok (.bipush i, 2)) (hn : pc + 2 = n) (hv : (Int8.ofInt i).toInt32 = v) (K : Ends p.tables e below Q F (T.setTop (mkF m n Ls (.int v :: st)))) : Ends p.tables e below Q F (T.setTop (mkF m pc Ls (st))) := by
  subst hn; exact K.step fun t k => XS.bipush (g := mkF m pc Ls (st)) X.here hx rfl hd (hv ▸ k)
theorem sipush (n : Nat) (X : Stand p l e R s m args below meth c T locs cells slots) (hx : p.tables.exec = Jvm.exec) {i : Int} (v : Int32) (hd : decode c.code pc = .ok (.sipush i, 3)) (hn : pc + 3 = n) (hv : (Int16.ofInt i).toInt32 = v) (K : Ends p.tables e below Q F (T.setTop (mkF m n Ls (.int v :: st)))) : Ends p.tables e below Q F (T.setTop (mkF m pc Ls (st))) := by
  subst hn; exact K.step fun t k => XS.sipush (g := mkF m pc Ls (st)) X.here hx rfl hd (hv ▸ k)
theorem lconst (n : Nat) (X : Stand p l e R s m args below meth c T locs cells slots) (hx : p.tables.exec = Jvm.exec) {i : Fin 2} (v : Int64) (hd : decode c.code pc = .ok (.lconst i, 1)) (hn : pc + 1 = n) (hv : Int64.ofNat i = v) (K : Ends p.tables e below Q F (T.setTop (mkF m n Ls (.long v :: st)))) : Ends p.tables e below Q F (T.setTop (mkF m pc Ls (st))) := by
  subst hn; exact K.step fun t k => XS.lconst (g := mkF m pc Ls (st)) X.here hx rfl hd (hv ▸ k)
theorem aconstNull (n : Nat) (X : Stand p l e R s m args below meth c T locs cells slots) (hx : p.tables.exec = Jvm.exec)  (hd : decode c.code pc = .ok (.aconst_null, 1)) (hn : pc + 1 = n)  (K : Ends p.tables e below Q F (T.setTop (mkF m n Ls (.null :: st)))) : Ends p.tables e below Q F (T.setTop (mkF m pc Ls (st))) := by
  subst hn; exact K.step fun t k => XS.aconstNull (g := mkF m pc Ls (st)) X.here hx rfl hd k
theorem iadd (n : Nat) (X : Stand p l e R s m args below meth c T locs cells slots) (hx : p.tables.exec = Jvm.exec) {x y r : Int32} {rest : List Value} (hd : decode c.code pc = .ok (.iadd, 1)) (hn : pc + 1 = n) (hr : x + y = r) (K : Ends p.tables e below Q F (T.setTop (mkF m n Ls (.int r :: rest)))) : Ends p.tables e below Q F (T.setTop (mkF m pc Ls (.int y :: .int x :: rest))) := by
  subst hn; exact K.step fun t k => XS.iadd (g := mkF m pc Ls (.int y :: .int x :: rest)) X.here hx rfl hd rfl (hr ▸ k)
theorem isub (n : Nat) (X : Stand p l e R s m args below meth c T locs cells slots) (hx : p.tables.exec = Jvm.exec) {x y r : Int32} {rest : List Value} (hd : decode c.code pc = .ok (.isub, 1)) (hn : pc + 1 = n) (hr : x - y = r) (K : Ends p.tables e below Q F (T.setTop (mkF m n Ls (.int r :: rest)))) : Ends p.tables e below Q F (T.setTop (mkF m pc Ls (.int y :: .int x :: rest))) := by
  subst hn; exact K.step fun t k => XS.isub (g := mkF m pc Ls (.int y :: .int x :: rest)) X.here hx rfl hd rfl (hr ▸ k)
theorem iand (n : Nat) (X : Stand p l e R s m args below meth c T locs cells slots) (hx : p.tables.exec = Jvm.exec) {x y r : Int32} {rest : List Value} (hd : decode c.code pc = .ok (.iand, 1)) (hn : pc + 1 = n) (hr : x &&& y = r) (K : Ends p.tables e below Q F (T.setTop (mkF m n Ls (.int r :: rest)))) : Ends p.tables e below Q F (T.setTop (mkF m pc Ls (.int y :: .int x :: rest))) := by
  subst hn; exact K.step fun t k => XS.iand (g := mkF m pc Ls (.int y :: .int x :: rest)) X.here hx rfl hd rfl (hr ▸ k)
theorem imul (n : Nat) (X : Stand p l e R s m args below meth c T locs cells slots) (hx : p.tables.exec = Jvm.exec) {x y r : Int32} {rest : List Value} (hd : decode c.code pc = .ok (.imul, 1)) (hn : pc + 1 = n) (hr : x * y = r) (K : Ends p.tables e below Q F (T.setTop (mkF m n Ls (.int r :: rest)))) : Ends p.tables e below Q F (T.setTop (mkF m pc Ls (.int y :: .int x :: rest))) := by
  subst hn; exact K.step fun t k => XS.imul (g := mkF m pc Ls (.int y :: .int x :: rest)) X.here hx rfl hd rfl (hr ▸ k)
theorem ior (n : Nat) (X : Stand p l e R s m args below meth c T locs cells slots) (hx : p.tables.exec = Jvm.exec) {x y r : Int32} {rest : List Value} (hd : decode c.code pc = .ok (.ior, 1)) (hn : pc + 1 = n) (hr : x ||| y = r) (K : Ends p.tables e below Q F (T.setTop (mkF m n Ls (.int r :: rest)))) : Ends p.tables e below Q F (T.setTop (mkF m pc Ls (.int y :: .int x :: rest))) := by
  subst hn; exact K.step fun t k => XS.ior (g := mkF m pc Ls (.int y :: .int x :: rest)) X.here hx rfl hd rfl (hr ▸ k)
theorem ixor (n : Nat) (X : Stand p l e R s m args below meth c T locs cells slots) (hx : p.tables.exec = Jvm.exec) {x y r : Int32} {rest : List Value} (hd : decode c.code pc = .ok (.ixor, 1)) (hn : pc + 1 = n) (hr : x ^^^ y = r) (K : Ends p.tables e below Q F (T.setTop (mkF m n Ls (.int r :: rest)))) : Ends p.tables e below Q F (T.setTop (mkF m pc Ls (.int y :: .int x :: rest))) := by
  subst hn; exact K.step fun t k => XS.ixor (g := mkF m pc Ls (.int y :: .int x :: rest)) X.here hx rfl hd rfl (hr ▸ k)
theorem ishl (n : Nat) (X : Stand p l e R s m args below meth c T locs cells slots) (hx : p.tables.exec = Jvm.exec) {x y r : Int32} {rest : List Value} (hd : decode c.code pc = .ok (.ishl, 1)) (hn : pc + 1 = n) (hr : x <<< (y &&& 31) = r) (K : Ends p.tables e below Q F (T.setTop (mkF m n Ls (.int r :: rest)))) : Ends p.tables e below Q F (T.setTop (mkF m pc Ls (.int y :: .int x :: rest))) := by
  subst hn; exact K.step fun t k => XS.ishl (g := mkF m pc Ls (.int y :: .int x :: rest)) X.here hx rfl hd rfl (hr ▸ k)
theorem ishr (n : Nat) (X : Stand p l e R s m args below meth c T locs cells slots) (hx : p.tables.exec = Jvm.exec) {x y r : Int32} {rest : List Value} (hd : decode c.code pc = .ok (.ishr, 1)) (hn : pc + 1 = n) (hr : x >>> (y &&& 31) = r) (K : Ends p.tables e below Q F (T.setTop (mkF m n Ls (.int r :: rest)))) : Ends p.tables e below Q F (T.setTop (mkF m pc Ls (.int y :: .int x :: rest))) := by
  subst hn; exact K.step fun t k => XS.ishr (g := mkF m pc Ls (.int y :: .int x :: rest)) X.here hx rfl hd rfl (hr ▸ k)
theorem iushr (n : Nat) (X : Stand p l e R s m args below meth c T locs cells slots) (hx : p.tables.exec = Jvm.exec) {x y r : Int32} {rest : List Value} (hd : decode c.code pc = .ok (.iushr, 1)) (hn : pc + 1 = n) (hr : (x.toUInt32 >>> (y &&& 31).toUInt32).toInt32 = r) (K : Ends p.tables e below Q F (T.setTop (mkF m n Ls (.int r :: rest)))) : Ends p.tables e below Q F (T.setTop (mkF m pc Ls (.int y :: .int x :: rest))) := by
  subst hn; exact K.step fun t k => XS.iushr (g := mkF m pc Ls (.int y :: .int x :: rest)) X.here hx rfl hd rfl (hr ▸ k)
theorem ladd (n : Nat) (X : Stand p l e R s m args below meth c T locs cells slots) (hx : p.tables.exec = Jvm.exec) {x y r : Int64} {rest : List Value} (hd : decode c.code pc = .ok (.ladd, 1)) (hn : pc + 1 = n) (hr : x + y = r) (K : Ends p.tables e below Q F (T.setTop (mkF m n Ls (.long r :: rest)))) : Ends p.tables e below Q F (T.setTop (mkF m pc Ls (.long y :: .long x :: rest))) := by
  subst hn; exact K.step fun t k => XS.ladd (g := mkF m pc Ls (.long y :: .long x :: rest)) X.here hx rfl hd rfl (hr ▸ k)
theorem lsub (n : Nat) (X : Stand p l e R s m args below meth c T locs cells slots) (hx : p.tables.exec = Jvm.exec) {x y r : Int64} {rest : List Value} (hd : decode c.code pc = .ok (.lsub, 1)) (hn : pc + 1 = n) (hr : x - y = r) (K : Ends p.tables e below Q F (T.setTop (mkF m n Ls (.long r :: rest)))) : Ends p.tables e below Q F (T.setTop (mkF m pc Ls (.long y :: .long x :: rest))) := by
  subst hn; exact K.step fun t k => XS.lsub (g := mkF m pc Ls (.long y :: .long x :: rest)) X.here hx rfl hd rfl (hr ▸ k)
theorem land (n : Nat) (X : Stand p l e R s m args below meth c T locs cells slots) (hx : p.tables.exec = Jvm.exec) {x y r : Int64} {rest : List Value} (hd : decode c.code pc = .ok (.land, 1)) (hn : pc + 1 = n) (hr : x &&& y = r) (K : Ends p.tables e below Q F (T.setTop (mkF m n Ls (.long r :: rest)))) : Ends p.tables e below Q F (T.setTop (mkF m pc Ls (.long y :: .long x :: rest))) := by
  subst hn; exact K.step fun t k => XS.land (g := mkF m pc Ls (.long y :: .long x :: rest)) X.here hx rfl hd rfl (hr ▸ k)
theorem lmul (n : Nat) (X : Stand p l e R s m args below meth c T locs cells slots) (hx : p.tables.exec = Jvm.exec) {x y r : Int64} {rest : List Value} (hd : decode c.code pc = .ok (.lmul, 1)) (hn : pc + 1 = n) (hr : x * y = r) (K : Ends p.tables e below Q F (T.setTop (mkF m n Ls (.long r :: rest)))) : Ends p.tables e below Q F (T.setTop (mkF m pc Ls (.long y :: .long x :: rest))) := by
  subst hn; exact K.step fun t k => XS.lmul (g := mkF m pc Ls (.long y :: .long x :: rest)) X.here hx rfl hd rfl (hr ▸ k)
theorem lor (n : Nat) (X : Stand p l e R s m args below meth c T locs cells slots) (hx : p.tables.exec = Jvm.exec) {x y r : Int64} {rest : List Value} (hd : decode c.code pc = .ok (.lor, 1)) (hn : pc + 1 = n) (hr : x ||| y = r) (K : Ends p.tables e below Q F (T.setTop (mkF m n Ls (.long r :: rest)))) : Ends p.tables e below Q F (T.setTop (mkF m pc Ls (.long y :: .long x :: rest))) := by
  subst hn; exact K.step fun t k => XS.lor (g := mkF m pc Ls (.long y :: .long x :: rest)) X.here hx rfl hd rfl (hr ▸ k)
theorem lxor (n : Nat) (X : Stand p l e R s m args below meth c T locs cells slots) (hx : p.tables.exec = Jvm.exec) {x y r : Int64} {rest : List Value} (hd : decode c.code pc = .ok (.lxor, 1)) (hn : pc + 1 = n) (hr : x ^^^ y = r) (K : Ends p.tables e below Q F (T.setTop (mkF m n Ls (.long r :: rest)))) : Ends p.tables e below Q F (T.setTop (mkF m pc Ls (.long y :: .long x :: rest))) := by
  subst hn; exact K.step fun t k => XS.lxor (g := mkF m pc Ls (.long y :: .long x :: rest)) X.here hx rfl hd rfl (hr ▸ k)
theorem lshl (n : Nat) (X : Stand p l e R s m args below meth c T locs cells slots) (hx : p.tables.exec = Jvm.exec) {x r : Int64} {y : Int32} {rest : List Value} (hd : decode c.code pc = .ok (.lshl, 1)) (hn : pc + 1 = n) (hr : x <<< (y &&& 0x3f).toInt64 = r) (K : Ends p.tables e below Q F (T.setTop (mkF m n Ls (.long r :: rest)))) : Ends p.tables e below Q F (T.setTop (mkF m pc Ls (.int y :: .long x :: rest))) := by
  subst hn; exact K.step fun t k => XS.lshl (g := mkF m pc Ls (.int y :: .long x :: rest)) X.here hx rfl hd rfl (hr ▸ k)
theorem lshr (n : Nat) (X : Stand p l e R s m args below meth c T locs cells slots) (hx : p.tables.exec = Jvm.exec) {x r : Int64} {y : Int32} {rest : List Value} (hd : decode c.code pc = .ok (.lshr, 1)) (hn : pc + 1 = n) (hr : x >>> (y &&& 0x3f).toInt64 = r) (K : Ends p.tables e below Q F (T.setTop (mkF m n Ls (.long r :: rest)))) : Ends p.tables e below Q F (T.setTop (mkF m pc Ls (.int y :: .long x :: rest))) := by
  subst hn; exact K.step fun t k => XS.lshr (g := mkF m pc Ls (.int y :: .long x :: rest)) X.here hx rfl hd rfl (hr ▸ k)
theorem lushr (n : Nat) (X : Stand p l e R s m args below meth c T locs cells slots) (hx : p.tables.exec = Jvm.exec) {x r : Int64} {y : Int32} {rest : List Value} (hd : decode c.code pc = .ok (.lushr, 1)) (hn : pc + 1 = n) (hr : (x.toUInt64 >>> (y &&& 0x3f).toInt64.toUInt64).toInt64 = r) (K : Ends p.tables e below Q F (T.setTop (mkF m n Ls (.long r :: rest)))) : Ends p.tables e below Q F (T.setTop (mkF m pc Ls (.int y :: .long x :: rest))) := by
  subst hn; exact K.step fun t k => XS.lushr (g := mkF m pc Ls (.int y :: .long x :: rest)) X.here hx rfl hd rfl (hr ▸ k)
theorem idiv (n : Nat) (X : Stand p l e R s m args below meth c T locs cells slots) (hx : p.tables.exec = Jvm.exec) {x y r : Int32} {rest : List Value} (hd : decode c.code pc = .ok (.idiv, 1)) (hn : pc + 1 = n) (hy : y ≠ 0) (hr : x / y = r) (K : Ends p.tables e below Q F (T.setTop (mkF m n Ls (.int r :: rest)))) : Ends p.tables e below Q F (T.setTop (mkF m pc Ls (.int y :: .int x :: rest))) := by
  subst hn; exact K.step fun t k => XS.idiv (g := mkF m pc Ls (.int y :: .int x :: rest)) X.here hx rfl hd rfl hy (hr ▸ k)
theorem irem (n : Nat) (X : Stand p l e R s m args below meth c T locs cells slots) (hx : p.tables.exec = Jvm.exec) {x y r : Int32} {rest : List Value} (hd : decode c.code pc = .ok (.irem, 1)) (hn : pc + 1 = n) (hy : y ≠ 0) (hr : x % y = r) (K : Ends p.tables e below Q F (T.setTop (mkF m n Ls (.int r :: rest)))) : Ends p.tables e below Q F (T.setTop (mkF m pc Ls (.int y :: .int x :: rest))) := by
  subst hn; exact K.step fun t k => iremM (g := mkF m pc Ls (.int y :: .int x :: rest)) X hx rfl hd rfl hy (hr ▸ k)
theorem ldiv (n : Nat) (X : Stand p l e R s m args below meth c T locs cells slots) (hx : p.tables.exec = Jvm.exec) {x y r : Int64} {rest : List Value} (hd : decode c.code pc = .ok (.ldiv, 1)) (hn : pc + 1 = n) (hy : y ≠ 0) (hr : x / y = r) (K : Ends p.tables e below Q F (T.setTop (mkF m n Ls (.long r :: rest)))) : Ends p.tables e below Q F (T.setTop (mkF m pc Ls (.long y :: .long x :: rest))) := by
  subst hn; exact K.step fun t k => XS.ldiv (g := mkF m pc Ls (.long y :: .long x :: rest)) X.here hx rfl hd rfl hy (hr ▸ k)
theorem lrem (n : Nat) (X : Stand p l e R s m args below meth c T locs cells slots) (hx : p.tables.exec = Jvm.exec) {x y r : Int64} {rest : List Value} (hd : decode c.code pc = .ok (.lrem, 1)) (hn : pc + 1 = n) (hy : y ≠ 0) (hr : x % y = r) (K : Ends p.tables e below Q F (T.setTop (mkF m n Ls (.long r :: rest)))) : Ends p.tables e below Q F (T.setTop (mkF m pc Ls (.long y :: .long x :: rest))) := by
  subst hn; exact K.step fun t k => XS.lrem (g := mkF m pc Ls (.long y :: .long x :: rest)) X.here hx rfl hd rfl hy (by rw [lrem_mod, hr]; exact k)
theorem ineg (n : Nat) (X : Stand p l e R s m args below meth c T locs cells slots) (hx : p.tables.exec = Jvm.exec) {x : Int32} {r : Int32} {rest : List Value} (hd : decode c.code pc = .ok (.ineg, 1)) (hn : pc + 1 = n) (hr : -x = r) (K : Ends p.tables e below Q F (T.setTop (mkF m n Ls (.int r :: rest)))) : Ends p.tables e below Q F (T.setTop (mkF m pc Ls (.int x :: rest))) := by
  subst hn; exact K.step fun t k => XS.ineg (g := mkF m pc Ls (.int x :: rest)) X.here hx rfl hd rfl (hr ▸ k)
theorem lneg (n : Nat) (X : Stand p l e R s m args below meth c T locs cells slots) (hx : p.tables.exec = Jvm.exec) {x : Int64} {r : Int64} {rest : List Value} (hd : decode c.code pc = .ok (.lneg, 1)) (hn : pc + 1 = n) (hr : -x = r) (K : Ends p.tables e below Q F (T.setTop (mkF m n Ls (.long r :: rest)))) : Ends p.tables e below Q F (T.setTop (mkF m pc Ls (.long x :: rest))) := by
  subst hn; exact K.step fun t k => XS.lneg (g := mkF m pc Ls (.long x :: rest)) X.here hx rfl hd rfl (hr ▸ k)
theorem i2l (n : Nat) (X : Stand p l e R s m args below meth c T locs cells slots) (hx : p.tables.exec = Jvm.exec) {x : Int32} {r : Int64} {rest : List Value} (hd : decode c.code pc = .ok (.i2l, 1)) (hn : pc + 1 = n) (hr : x.toInt64 = r) (K : Ends p.tables e below Q F (T.setTop (mkF m n Ls (.long r :: rest)))) : Ends p.tables e below Q F (T.setTop (mkF m pc Ls (.int x :: rest))) := by
  subst hn; exact K.step fun t k => XS.i2l (g := mkF m pc Ls (.int x :: rest)) X.here hx rfl hd rfl (hr ▸ k)
theorem l2i (n : Nat) (X : Stand p l e R s m args below meth c T locs cells slots) (hx : p.tables.exec = Jvm.exec) {x : Int64} {r : Int32} {rest : List Value} (hd : decode c.code pc = .ok (.l2i, 1)) (hn : pc + 1 = n) (hr : x.toInt32 = r) (K : Ends p.tables e below Q F (T.setTop (mkF m n Ls (.int r :: rest)))) : Ends p.tables e below Q F (T.setTop (mkF m pc Ls (.long x :: rest))) := by
  subst hn; exact K.step fun t k => XS.l2i (g := mkF m pc Ls (.long x :: rest)) X.here hx rfl hd rfl (hr ▸ k)
theorem i2b (n : Nat) (X : Stand p l e R s m args below meth c T locs cells slots) (hx : p.tables.exec = Jvm.exec) {x : Int32} {r : Int32} {rest : List Value} (hd : decode c.code pc = .ok (.i2b, 1)) (hn : pc + 1 = n) (hr : x.toInt8.toInt32 = r) (K : Ends p.tables e below Q F (T.setTop (mkF m n Ls (.int r :: rest)))) : Ends p.tables e below Q F (T.setTop (mkF m pc Ls (.int x :: rest))) := by
  subst hn; exact K.step fun t k => XS.i2b (g := mkF m pc Ls (.int x :: rest)) X.here hx rfl hd rfl (hr ▸ k)
theorem i2c (n : Nat) (X : Stand p l e R s m args below meth c T locs cells slots) (hx : p.tables.exec = Jvm.exec) {x : Int32} {r : Int32} {rest : List Value} (hd : decode c.code pc = .ok (.i2c, 1)) (hn : pc + 1 = n) (hr : x.toUInt32.toUInt16.toUInt32.toInt32 = r) (K : Ends p.tables e below Q F (T.setTop (mkF m n Ls (.int r :: rest)))) : Ends p.tables e below Q F (T.setTop (mkF m pc Ls (.int x :: rest))) := by
  subst hn; exact K.step fun t k => XS.i2c (g := mkF m pc Ls (.int x :: rest)) X.here hx rfl hd rfl (hr ▸ k)
theorem i2s (n : Nat) (X : Stand p l e R s m args below meth c T locs cells slots) (hx : p.tables.exec = Jvm.exec) {x : Int32} {r : Int32} {rest : List Value} (hd : decode c.code pc = .ok (.i2s, 1)) (hn : pc + 1 = n) (hr : x.toInt16.toInt32 = r) (K : Ends p.tables e below Q F (T.setTop (mkF m n Ls (.int r :: rest)))) : Ends p.tables e below Q F (T.setTop (mkF m pc Ls (.int x :: rest))) := by
  subst hn; exact K.step fun t k => XS.i2s (g := mkF m pc Ls (.int x :: rest)) X.here hx rfl hd rfl (hr ▸ k)
theorem dup (n : Nat) (X : Stand p l e R s m args below meth c T locs cells slots) (hx : p.tables.exec = Jvm.exec) {x : Value} {rest : List Value} (hd : decode c.code pc = .ok (.dup, 1)) (hn : pc + 1 = n) (hc : x.category = 1) (K : Ends p.tables e below Q F (T.setTop (mkF m n Ls (x :: x :: rest)))) : Ends p.tables e below Q F (T.setTop (mkF m pc Ls (x :: rest))) := by
  subst hn; exact K.step fun t k => XS.dup (g := mkF m pc Ls (x :: rest)) X.here hx rfl hd rfl hc k
theorem pop (n : Nat) (X : Stand p l e R s m args below meth c T locs cells slots) (hx : p.tables.exec = Jvm.exec) {x : Value} {rest : List Value} (hd : decode c.code pc = .ok (.pop, 1)) (hn : pc + 1 = n) (hc : x.category = 1) (K : Ends p.tables e below Q F (T.setTop (mkF m n Ls (rest)))) : Ends p.tables e below Q F (T.setTop (mkF m pc Ls (x :: rest))) := by
  subst hn; exact K.step fun t k => XS.pop (g := mkF m pc Ls (x :: rest)) X.here hx rfl hd rfl hc k
theorem dupX1 (n : Nat) (X : Stand p l e R s m args below meth c T locs cells slots) (hx : p.tables.exec = Jvm.exec) {x y : Value} {rest : List Value} (hd : decode c.code pc = .ok (.dup_x1, 1)) (hn : pc + 1 = n) (hc : x.category = 1) (hc2 : y.category = 1) (K : Ends p.tables e below Q F (T.setTop (mkF m n Ls (x :: y :: x :: rest)))) : Ends p.tables e below Q F (T.setTop (mkF m pc Ls (x :: y :: rest))) := by
  subst hn; exact K.step fun t k => XS.dupX1 (g := mkF m pc Ls (x :: y :: rest)) X.here hx rfl hd rfl hc hc2 k
theorem istore (n : Nat) (Fs : Int32 → Array Slot) (X : Stand p l e R s m args below meth c T locs cells slots) (hx : p.tables.exec = Jvm.exec) {k : Nat} {x : Int32} {rest : List Value} (hd : decode c.code pc = .ok (.istore k, 2)) (hn : pc + 2 = n) (hl : ∀ z, storeLocals Ls k (.int z) = some (Fs z)) (K : ∀ z, z = x → Ends p.tables e below Q F (T.setTop (mkF m n (Fs z) (rest)))) : Ends p.tables e below Q F (T.setTop (mkF m pc Ls (.int x :: rest))) := by
  subst hn; exact (K x rfl).step fun t k => XS.istore (g := mkF m pc Ls (.int x :: rest)) X.here hx rfl hd rfl (hl x) k
theorem istoreV (n : Nat) (L1 : Array Slot) (X : Stand p l e R s m args below meth c T locs cells slots) (hx : p.tables.exec = Jvm.exec) {k : Nat} {x : Int32} {rest : List Value} (hd : decode c.code pc = .ok (.istore k, 2)) (hn : pc + 2 = n) (hl : storeLocals Ls k (.int x) = some L1) (K : Ends p.tables e below Q F (T.setTop (mkF m n L1 (rest)))) : Ends p.tables e below Q F (T.setTop (mkF m pc Ls (.int x :: rest))) := by
  subst hn; exact K.step fun t k => XS.istore (g := mkF m pc Ls (.int x :: rest)) X.here hx rfl hd rfl hl k
theorem istoreN (n : Nat) (Fs : Int32 → Array Slot) (X : Stand p l e R s m args below meth c T locs cells slots) (hx : p.tables.exec = Jvm.exec) {k : Fin 4} {x : Int32} {rest : List Value} (hd : decode c.code pc = .ok (.istore_n k, 1)) (hn : pc + 1 = n) (hl : ∀ z, storeLocals Ls k.val (.int z) = some (Fs z)) (K : ∀ z, z = x → Ends p.tables e below Q F (T.setTop (mkF m n (Fs z) (rest)))) : Ends p.tables e below Q F (T.setTop (mkF m pc Ls (.int x :: rest))) := by
  subst hn; exact (K x rfl).step fun t k => XS.istoreN (g := mkF m pc Ls (.int x :: rest)) X.here hx rfl hd rfl (hl x) k
theorem istoreNV (n : Nat) (L1 : Array Slot) (X : Stand p l e R s m args below meth c T locs cells slots) (hx : p.tables.exec = Jvm.exec) {k : Fin 4} {x : Int32} {rest : List Value} (hd : decode c.code pc = .ok (.istore_n k, 1)) (hn : pc + 1 = n) (hl : storeLocals Ls k.val (.int x) = some L1) (K : Ends p.tables e below Q F (T.setTop (mkF m n L1 (rest)))) : Ends p.tables e below Q F (T.setTop (mkF m pc Ls (.int x :: rest))) := by
  subst hn; exact K.step fun t k => XS.istoreN (g := mkF m pc Ls (.int x :: rest)) X.here hx rfl hd rfl hl k
theorem lstore (n : Nat) (Fs : Int64 → Array Slot) (X : Stand p l e R s m args below meth c T locs cells slots) (hx : p.tables.exec = Jvm.exec) {k : Nat} {x : Int64} {rest : List Value} (hd : decode c.code pc = .ok (.lstore k, 2)) (hn : pc + 2 = n) (hl : ∀ z, storeLocals Ls k (.long z) = some (Fs z)) (K : ∀ z, z = x → Ends p.tables e below Q F (T.setTop (mkF m n (Fs z) (rest)))) : Ends p.tables e below Q F (T.setTop (mkF m pc Ls (.long x :: rest))) := by
  subst hn; exact (K x rfl).step fun t k => XS.lstore (g := mkF m pc Ls (.long x :: rest)) X.here hx rfl hd rfl (hl x) k
theorem lstoreV (n : Nat) (L1 : Array Slot) (X : Stand p l e R s m args below meth c T locs cells slots) (hx : p.tables.exec = Jvm.exec) {k : Nat} {x : Int64} {rest : List Value} (hd : decode c.code pc = .ok (.lstore k, 2)) (hn : pc + 2 = n) (hl : storeLocals Ls k (.long x) = some L1) (K : Ends p.tables e below Q F (T.setTop (mkF m n L1 (rest)))) : Ends p.tables e below Q F (T.setTop (mkF m pc Ls (.long x :: rest))) := by
  subst hn; exact K.step fun t k => XS.lstore (g := mkF m pc Ls (.long x :: rest)) X.here hx rfl hd rfl hl k
theorem lstoreN (n : Nat) (Fs : Int64 → Array Slot) (X : Stand p l e R s m args below meth c T locs cells slots) (hx : p.tables.exec = Jvm.exec) {k : Fin 4} {x : Int64} {rest : List Value} (hd : decode c.code pc = .ok (.lstore_n k, 1)) (hn : pc + 1 = n) (hl : ∀ z, storeLocals Ls k.val (.long z) = some (Fs z)) (K : ∀ z, z = x → Ends p.tables e below Q F (T.setTop (mkF m n (Fs z) (rest)))) : Ends p.tables e below Q F (T.setTop (mkF m pc Ls (.long x :: rest))) := by
  subst hn; exact (K x rfl).step fun t k => XS.lstoreN (g := mkF m pc Ls (.long x :: rest)) X.here hx rfl hd rfl (hl x) k
theorem lstoreNV (n : Nat) (L1 : Array Slot) (X : Stand p l e R s m args below meth c T locs cells slots) (hx : p.tables.exec = Jvm.exec) {k : Fin 4} {x : Int64} {rest : List Value} (hd : decode c.code pc = .ok (.lstore_n k, 1)) (hn : pc + 1 = n) (hl : storeLocals Ls k.val (.long x) = some L1) (K : Ends p.tables e below Q F (T.setTop (mkF m n L1 (rest)))) : Ends p.tables e below Q F (T.setTop (mkF m pc Ls (.long x :: rest))) := by
  subst hn; exact K.step fun t k => XS.lstoreN (g := mkF m pc Ls (.long x :: rest)) X.here hx rfl hd rfl hl k
theorem astore (n : Nat) (L1 : Array Slot) (X : Stand p l e R s m args below meth c T locs cells slots) (hx : p.tables.exec = Jvm.exec) {k : Nat} {x : Value} {rest : List Value} (hd : decode c.code pc = .ok (.astore k, 2)) (hn : pc + 2 = n) (hv : x.isRef = true) (hl : storeLocals Ls k x = some L1) (K : Ends p.tables e below Q F (T.setTop (mkF m n L1 (rest)))) : Ends p.tables e below Q F (T.setTop (mkF m pc Ls (x :: rest))) := by
  subst hn; exact K.step fun t k => XS.astore (g := mkF m pc Ls (x :: rest)) X.here hx rfl hd rfl hv hl k
theorem astoreN (n : Nat) (L1 : Array Slot) (X : Stand p l e R s m args below meth c T locs cells slots) (hx : p.tables.exec = Jvm.exec) {k : Fin 4} {x : Value} {rest : List Value} (hd : decode c.code pc = .ok (.astore_n k, 1)) (hn : pc + 1 = n) (hv : x.isRef = true) (hl : storeLocals Ls k.val x = some L1) (K : Ends p.tables e below Q F (T.setTop (mkF m n L1 (rest)))) : Ends p.tables e below Q F (T.setTop (mkF m pc Ls (x :: rest))) := by
  subst hn; exact K.step fun t k => XS.astoreN (g := mkF m pc Ls (x :: rest)) X.here hx rfl hd rfl hv hl k
theorem iinc (n : Nat) (Fs : Int32 → Array Slot) (X : Stand p l e R s m args below meth c T locs cells slots) (hx : p.tables.exec = Jvm.exec) {k : Nat} {cst : Int} {x : Int32} (d : Int32) (hd : decode c.code pc = .ok (.iinc k cst, 3)) (hn : pc + 3 = n) (hc : Int32.ofInt cst = d) (hl : Ls[k]? = some (.val (.int x))) (hl2 : ∀ z, storeLocals Ls k (.int z) = some (Fs z)) (K : ∀ z, z = x + d → Ends p.tables e below Q F (T.setTop (mkF m n (Fs z) (st)))) : Ends p.tables e below Q F (T.setTop (mkF m pc Ls (st))) := by
  subst hn hc; exact (K _ rfl).step fun t k => XS.iinc (g := mkF m pc Ls st) X.here hx rfl hd hl (hl2 _) k
theorem goto (n : Nat) (X : Stand p l e R s m args below meth c T locs cells slots) (hx : p.tables.exec = Jvm.exec) {o : Int} (hd : decode c.code pc = .ok (.goto o, 3)) (hn : 0 ≤ (pc : Int) + o ∧ ((pc : Int) + o).toNat = n) (K : Ends p.tables e below Q F (T.setTop (mkF m n Ls (st)))) : Ends p.tables e below Q F (T.setTop (mkF m pc Ls (st))) :=
  K.step fun t k => XS.goto (g := mkF m pc Ls st) X.here hx rfl (pc0 := pc) (pc' := n) rfl hd hn.1 hn.2 k
theorem icmpB (nY nN : Nat) (X : Stand p l e R s m args below meth c T locs cells slots) (hx : p.tables.exec = Jvm.exec) {cd : ClassFile.Cond} {o : Int} {x y : Int32} {rest : List Value} (hd : decode c.code pc = .ok (.if_icmp cd o, 3)) (hY : 0 ≤ (pc : Int) + o ∧ ((pc : Int) + o).toNat = nY) (hN : pc + 3 = nN) (KY : if_icmp.holds cd x y = true → Ends p.tables e below Q F (T.setTop (mkF m nY Ls (rest)))) (KN : if_icmp.holds cd x y = false → Ends p.tables e below Q F (T.setTop (mkF m nN Ls (rest)))) : Ends p.tables e below Q F (T.setTop (mkF m pc Ls (.int y :: .int x :: rest))) := by
  subst hN
  cases hb : if_icmp.holds cd x y with
  | true => exact (KY hb).step fun t k => XS.icmpYes (g := mkF m pc Ls (.int y :: .int x :: rest)) X.here hx rfl (pc0 := pc) (pc' := nY) rfl hd rfl hb hY.1 hY.2 k
  | false => exact (KN hb).step fun t k => XS.icmpNo (g := mkF m pc Ls (.int y :: .int x :: rest)) X.here hx rfl hd rfl hb k
theorem ifB (nY nN : Nat) (X : Stand p l e R s m args below meth c T locs cells slots) (hx : p.tables.exec = Jvm.exec) {cd : ClassFile.Cond} {o : Int} {x : Int32} {rest : List Value} (hd : decode c.code pc = .ok (.ifCond cd o, 3)) (hY : 0 ≤ (pc : Int) + o ∧ ((pc : Int) + o).toNat = nY) (hN : pc + 3 = nN) (KY : if_icmp.holds cd x 0 = true → Ends p.tables e below Q F (T.setTop (mkF m nY Ls (rest)))) (KN : if_icmp.holds cd x 0 = false → Ends p.tables e below Q F (T.setTop (mkF m nN Ls (rest)))) : Ends p.tables e below Q F (T.setTop (mkF m pc Ls (.int x :: rest))) := by
  subst hN
  cases hb : if_icmp.holds cd x 0 with
  | true => exact (KY hb).step fun t k => XS.ifYes (g := mkF m pc Ls (.int x :: rest)) X.here hx rfl (pc0 := pc) (pc' := nY) rfl hd rfl ((if0 _ _).trans hb) hY.1 hY.2 k
  | false => exact (KN hb).step fun t k => XS.ifNo (g := mkF m pc Ls (.int x :: rest)) X.here hx rfl hd rfl ((if0 _ _).trans hb) k
theorem h_lt {x y : Int32} : (if_icmp.holds .lt x y = true → x < y) ∧ (if_icmp.holds .lt x y = false → ¬ x < y) := by simp [if_icmp.holds]
theorem h_ge {x y : Int32} : (if_icmp.holds .ge x y = true → ¬ x < y) ∧ (if_icmp.holds .ge x y = false → x < y) := by simp [if_icmp.holds, Int32.not_lt, Int32.not_le]
theorem h_gt {x y : Int32} : (if_icmp.holds .gt x y = true → y < x) ∧ (if_icmp.holds .gt x y = false → ¬ y < x) := by simp [if_icmp.holds, Int32.not_lt, Int32.not_le]
theorem h_le {x y : Int32} : (if_icmp.holds .le x y = true → ¬ y < x) ∧ (if_icmp.holds .le x y = false → y < x) := by simp [if_icmp.holds, Int32.not_lt, Int32.not_le]
theorem h_eq {x y : Int32} : (if_icmp.holds .eq x y = true → x = y) ∧ (if_icmp.holds .eq x y = false → ¬ x = y) := by simp [if_icmp.holds]
theorem h_ne {x y : Int32} : (if_icmp.holds .ne x y = true → ¬ x = y) ∧ (if_icmp.holds .ne x y = false → x = y) := by simp [if_icmp.holds]
theorem icmp_lt (nY nN : Nat) (X : Stand p l e R s m args below meth c T locs cells slots) (hx : p.tables.exec = Jvm.exec) {o : Int} {x y : Int32} {rest : List Value} (hd : decode c.code pc = .ok (.if_icmp .lt o, 3)) (hY : 0 ≤ (pc : Int) + o ∧ ((pc : Int) + o).toNat = nY) (hN : pc + 3 = nN) (KY : x < y → Ends p.tables e below Q F (T.setTop (mkF m nY Ls (rest)))) (KN : ¬ x < y → Ends p.tables e below Q F (T.setTop (mkF m nN Ls (rest)))) : Ends p.tables e below Q F (T.setTop (mkF m pc Ls (.int y :: .int x :: rest))) :=
  icmpB nY nN X hx hd hY hN (fun hb => KY (h_lt.1 hb)) (fun hb => KN (h_lt.2 hb))
theorem if_lt (nY nN : Nat) (X : Stand p l e R s m args below meth c T locs cells slots) (hx : p.tables.exec = Jvm.exec) {o : Int} {x : Int32} {rest : List Value} (hd : decode c.code pc = .ok (.ifCond .lt o, 3)) (hY : 0 ≤ (pc : Int) + o ∧ ((pc : Int) + o).toNat = nY) (hN : pc + 3 = nN) (KY : x < 0 → Ends p.tables e below Q F (T.setTop (mkF m nY Ls (rest)))) (KN : ¬ x < 0 → Ends p.tables e below Q F (T.setTop (mkF m nN Ls (rest)))) : Ends p.tables e below Q F (T.setTop (mkF m pc Ls (.int x :: rest))) :=
  ifB nY nN X hx hd hY hN (fun hb => KY (h_lt.1 hb)) (fun hb => KN (h_lt.2 hb))
theorem icmp_ge (nY nN : Nat) (X : Stand p l e R s m args below meth c T locs cells slots) (hx : p.tables.exec = Jvm.exec) {o : Int} {x y : Int32} {rest : List Value} (hd : decode c.code pc = .ok (.if_icmp .ge o, 3)) (hY : 0 ≤ (pc : Int) + o ∧ ((pc : Int) + o).toNat = nY) (hN : pc + 3 = nN) (KY : ¬ x < y → Ends p.tables e below Q F (T.setTop (mkF m nY Ls (rest)))) (KN : x < y → Ends p.tables e below Q F (T.setTop (mkF m nN Ls (rest)))) : Ends p.tables e below Q F (T.setTop (mkF m pc Ls (.int y :: .int x :: rest))) :=
  icmpB nY nN X hx hd hY hN (fun hb => KY (h_ge.1 hb)) (fun hb => KN (h_ge.2 hb))
theorem if_ge (nY nN : Nat) (X : Stand p l e R s m args below meth c T locs cells slots) (hx : p.tables.exec = Jvm.exec) {o : Int} {x : Int32} {rest : List Value} (hd : decode c.code pc = .ok (.ifCond .ge o, 3)) (hY : 0 ≤ (pc : Int) + o ∧ ((pc : Int) + o).toNat = nY) (hN : pc + 3 = nN) (KY : ¬ x < 0 → Ends p.tables e below Q F (T.setTop (mkF m nY Ls (rest)))) (KN : x < 0 → Ends p.tables e below Q F (T.setTop (mkF m nN Ls (rest)))) : Ends p.tables e below Q F (T.setTop (mkF m pc Ls (.int x :: rest))) :=
  ifB nY nN X hx hd hY hN (fun hb => KY (h_ge.1 hb)) (fun hb => KN (h_ge.2 hb))
theorem icmp_gt (nY nN : Nat) (X : Stand p l e R s m args below meth c T locs cells slots) (hx : p.tables.exec = Jvm.exec) {o : Int} {x y : Int32} {rest : List Value} (hd : decode c.code pc = .ok (.if_icmp .gt o, 3)) (hY : 0 ≤ (pc : Int) + o ∧ ((pc : Int) + o).toNat = nY) (hN : pc + 3 = nN) (KY : y < x → Ends p.tables e below Q F (T.setTop (mkF m nY Ls (rest)))) (KN : ¬ y < x → Ends p.tables e below Q F (T.setTop (mkF m nN Ls (rest)))) : Ends p.tables e below Q F (T.setTop (mkF m pc Ls (.int y :: .int x :: rest))) :=
  icmpB nY nN X hx hd hY hN (fun hb => KY (h_gt.1 hb)) (fun hb => KN (h_gt.2 hb))
theorem if_gt (nY nN : Nat) (X : Stand p l e R s m args below meth c T locs cells slots) (hx : p.tables.exec = Jvm.exec) {o : Int} {x : Int32} {rest : List Value} (hd : decode c.code pc = .ok (.ifCond .gt o, 3)) (hY : 0 ≤ (pc : Int) + o ∧ ((pc : Int) + o).toNat = nY) (hN : pc + 3 = nN) (KY : 0 < x → Ends p.tables e below Q F (T.setTop (mkF m nY Ls (rest)))) (KN : ¬ 0 < x → Ends p.tables e below Q F (T.setTop (mkF m nN Ls (rest)))) : Ends p.tables e below Q F (T.setTop (mkF m pc Ls (.int x :: rest))) :=
  ifB nY nN X hx hd hY hN (fun hb => KY (h_gt.1 hb)) (fun hb => KN (h_gt.2 hb))
theorem icmp_le (nY nN : Nat) (X : Stand p l e R s m args below meth c T locs cells slots) (hx : p.tables.exec = Jvm.exec) {o : Int} {x y : Int32} {rest : List Value} (hd : decode c.code pc = .ok (.if_icmp .le o, 3)) (hY : 0 ≤ (pc : Int) + o ∧ ((pc : Int) + o).toNat = nY) (hN : pc + 3 = nN) (KY : ¬ y < x → Ends p.tables e below Q F (T.setTop (mkF m nY Ls (rest)))) (KN : y < x → Ends p.tables e below Q F (T.setTop (mkF m nN Ls (rest)))) : Ends p.tables e below Q F (T.setTop (mkF m pc Ls (.int y :: .int x :: rest))) :=
  icmpB nY nN X hx hd hY hN (fun hb => KY (h_le.1 hb)) (fun hb => KN (h_le.2 hb))
theorem if_le (nY nN : Nat) (X : Stand p l e R s m args below meth c T locs cells slots) (hx : p.tables.exec = Jvm.exec) {o : Int} {x : Int32} {rest : List Value} (hd : decode c.code pc = .ok (.ifCond .le o, 3)) (hY : 0 ≤ (pc : Int) + o ∧ ((pc : Int) + o).toNat = nY) (hN : pc + 3 = nN) (KY : ¬ 0 < x → Ends p.tables e below Q F (T.setTop (mkF m nY Ls (rest)))) (KN : 0 < x → Ends p.tables e below Q F (T.setTop (mkF m nN Ls (rest)))) : Ends p.tables e below Q F (T.setTop (mkF m pc Ls (.int x :: rest))) :=
  ifB nY nN X hx hd hY hN (fun hb => KY (h_le.1 hb)) (fun hb => KN (h_le.2 hb))
theorem icmp_eq (nY nN : Nat) (X : Stand p l e R s m args below meth c T locs cells slots) (hx : p.tables.exec = Jvm.exec) {o : Int} {x y : Int32} {rest : List Value} (hd : decode c.code pc = .ok (.if_icmp .eq o, 3)) (hY : 0 ≤ (pc : Int) + o ∧ ((pc : Int) + o).toNat = nY) (hN : pc + 3 = nN) (KY : x = y → Ends p.tables e below Q F (T.setTop (mkF m nY Ls (rest)))) (KN : ¬ x = y → Ends p.tables e below Q F (T.setTop (mkF m nN Ls (rest)))) : Ends p.tables e below Q F (T.setTop (mkF m pc Ls (.int y :: .int x :: rest))) :=
  icmpB nY nN X hx hd hY hN (fun hb => KY (h_eq.1 hb)) (fun hb => KN (h_eq.2 hb))
theorem if_eq (nY nN : Nat) (X : Stand p l e R s m args below meth c T locs cells slots) (hx : p.tables.exec = Jvm.exec) {o : Int} {x : Int32} {rest : List Value} (hd : decode c.code pc = .ok (.ifCond .eq o, 3)) (hY : 0 ≤ (pc : Int) + o ∧ ((pc : Int) + o).toNat = nY) (hN : pc + 3 = nN) (KY : x = 0 → Ends p.tables e below Q F (T.setTop (mkF m nY Ls (rest)))) (KN : ¬ x = 0 → Ends p.tables e below Q F (T.setTop (mkF m nN Ls (rest)))) : Ends p.tables e below Q F (T.setTop (mkF m pc Ls (.int x :: rest))) :=
  ifB nY nN X hx hd hY hN (fun hb => KY (h_eq.1 hb)) (fun hb => KN (h_eq.2 hb))
theorem icmp_ne (nY nN : Nat) (X : Stand p l e R s m args below meth c T locs cells slots) (hx : p.tables.exec = Jvm.exec) {o : Int} {x y : Int32} {rest : List Value} (hd : decode c.code pc = .ok (.if_icmp .ne o, 3)) (hY : 0 ≤ (pc : Int) + o ∧ ((pc : Int) + o).toNat = nY) (hN : pc + 3 = nN) (KY : ¬ x = y → Ends p.tables e below Q F (T.setTop (mkF m nY Ls (rest)))) (KN : x = y → Ends p.tables e below Q F (T.setTop (mkF m nN Ls (rest)))) : Ends p.tables e below Q F (T.setTop (mkF m pc Ls (.int y :: .int x :: rest))) :=
  icmpB nY nN X hx hd hY hN (fun hb => KY (h_ne.1 hb)) (fun hb => KN (h_ne.2 hb))
theorem if_ne (nY nN : Nat) (X : Stand p l e R s m args below meth c T locs cells slots) (hx : p.tables.exec = Jvm.exec) {o : Int} {x : Int32} {rest : List Value} (hd : decode c.code pc = .ok (.ifCond .ne o, 3)) (hY : 0 ≤ (pc : Int) + o ∧ ((pc : Int) + o).toNat = nY) (hN : pc + 3 = nN) (KY : ¬ x = 0 → Ends p.tables e below Q F (T.setTop (mkF m nY Ls (rest)))) (KN : x = 0 → Ends p.tables e below Q F (T.setTop (mkF m nN Ls (rest)))) : Ends p.tables e below Q F (T.setTop (mkF m pc Ls (.int x :: rest))) :=
  ifB nY nN X hx hd hY hN (fun hb => KY (h_ne.1 hb)) (fun hb => KN (h_ne.2 hb))
theorem w_lt {x y : Int64} : lcmpW x y < 0 → x < y := (lw_lt x y).mp
theorem w_nlt {x y : Int64} : ¬ lcmpW x y < 0 → ¬ x < y := fun q r => q ((lw_lt x y).mpr r)
theorem w_gt {x y : Int64} : 0 < lcmpW x y → y < x := (lw_gt x y).mp
theorem w_ngt {x y : Int64} : ¬ 0 < lcmpW x y → ¬ y < x := fun q r => q ((lw_gt x y).mpr r)
theorem w_eq {x y : Int64} : lcmpW x y = 0 → x = y := (lw_eq x y).mp
theorem w_neq {x y : Int64} : ¬ lcmpW x y = 0 → ¬ x = y := fun q r => q ((lw_eq x y).mpr r)
theorem lif_lt (nY nN : Nat) (X : Stand p l e R s m args below meth c T locs cells slots) (hx : p.tables.exec = Jvm.exec) {o : Int} {x y : Int64} {rest : List Value} (hd0 : decode c.code pc = .ok (.lcmp, 1)) {pc1 : Nat} (hp : pc + 1 = pc1) (hd : decode c.code pc1 = .ok (.ifCond .lt o, 3)) (hY : 0 ≤ (pc1 : Int) + o ∧ ((pc1 : Int) + o).toNat = nY) (hN : pc1 + 3 = nN) (KY : x < y → Ends p.tables e below Q F (T.setTop (mkF m nY Ls (rest)))) (KN : ¬ x < y → Ends p.tables e below Q F (T.setTop (mkF m nN Ls (rest)))) : Ends p.tables e below Q F (T.setTop (mkF m pc Ls (.long y :: .long x :: rest))) := by
  subst hp
  refine Ends.step ?_ fun t k => XS.lcmp (g := mkF m pc Ls (.long y :: .long x :: rest)) X.here hx rfl hd0 rfl k
  exact if_lt nY nN X hx hd hY hN (fun hb => KY (w_lt hb)) (fun hb => KN (w_nlt hb))
theorem lif_ge (nY nN : Nat) (X : Stand p l e R s m args below meth c T locs cells slots) (hx : p.tables.exec = Jvm.exec) {o : Int} {x y : Int64} {rest : List Value} (hd0 : decode c.code pc = .ok (.lcmp, 1)) {pc1 : Nat} (hp : pc + 1 = pc1) (hd : decode c.code pc1 = .ok (.ifCond .ge o, 3)) (hY : 0 ≤ (pc1 : Int) + o ∧ ((pc1 : Int) + o).toNat = nY) (hN : pc1 + 3 = nN) (KY : ¬ x < y → Ends p.tables e below Q F (T.setTop (mkF m nY Ls (rest)))) (KN : x < y → Ends p.tables e below Q F (T.setTop (mkF m nN Ls (rest)))) : Ends p.tables e below Q F (T.setTop (mkF m pc Ls (.long y :: .long x :: rest))) := by
  subst hp
  refine Ends.step ?_ fun t k => XS.lcmp (g := mkF m pc Ls (.long y :: .long x :: rest)) X.here hx rfl hd0 rfl k
  exact if_ge nY nN X hx hd hY hN (fun hb => KY (w_nlt hb)) (fun hb => KN (w_lt hb))
theorem lif_gt (nY nN : Nat) (X : Stand p l e R s m args below meth c T locs cells slots) (hx : p.tables.exec = Jvm.exec) {o : Int} {x y : Int64} {rest : List Value} (hd0 : decode c.code pc = .ok (.lcmp, 1)) {pc1 : Nat} (hp : pc + 1 = pc1) (hd : decode c.code pc1 = .ok (.ifCond .gt o, 3)) (hY : 0 ≤ (pc1 : Int) + o ∧ ((pc1 : Int) + o).toNat = nY) (hN : pc1 + 3 = nN) (KY : y < x → Ends p.tables e below Q F (T.setTop (mkF m nY Ls (rest)))) (KN : ¬ y < x → Ends p.tables e below Q F (T.setTop (mkF m nN Ls (rest)))) : Ends p.tables e below Q F (T.setTop (mkF m pc Ls (.long y :: .long x :: rest))) := by
  subst hp
  refine Ends.step ?_ fun t k => XS.lcmp (g := mkF m pc Ls (.long y :: .long x :: rest)) X.here hx rfl hd0 rfl k
  exact if_gt nY nN X hx hd hY hN (fun hb => KY (w_gt hb)) (fun hb => KN (w_ngt hb))
theorem lif_le (nY nN : Nat) (X : Stand p l e R s m args below meth c T locs cells slots) (hx : p.tables.exec = Jvm.exec) {o : Int} {x y : Int64} {rest : List Value} (hd0 : decode c.code pc = .ok (.lcmp, 1)) {pc1 : Nat} (hp : pc + 1 = pc1) (hd : decode c.code pc1 = .ok (.ifCond .le o, 3)) (hY : 0 ≤ (pc1 : Int) + o ∧ ((pc1 : Int) + o).toNat = nY) (hN : pc1 + 3 = nN) (KY : ¬ y < x → Ends p.tables e below Q F (T.setTop (mkF m nY Ls (rest)))) (KN : y < x → Ends p.tables e below Q F (T.setTop (mkF m nN Ls (rest)))) : Ends p.tables e below Q F (T.setTop (mkF m pc Ls (.long y :: .long x :: rest))) := by
  subst hp
  refine Ends.step ?_ fun t k => XS.lcmp (g := mkF m pc Ls (.long y :: .long x :: rest)) X.here hx rfl hd0 rfl k
  exact if_le nY nN X hx hd hY hN (fun hb => KY (w_ngt hb)) (fun hb => KN (w_gt hb))
theorem lif_eq (nY nN : Nat) (X : Stand p l e R s m args below meth c T locs cells slots) (hx : p.tables.exec = Jvm.exec) {o : Int} {x y : Int64} {rest : List Value} (hd0 : decode c.code pc = .ok (.lcmp, 1)) {pc1 : Nat} (hp : pc + 1 = pc1) (hd : decode c.code pc1 = .ok (.ifCond .eq o, 3)) (hY : 0 ≤ (pc1 : Int) + o ∧ ((pc1 : Int) + o).toNat = nY) (hN : pc1 + 3 = nN) (KY : x = y → Ends p.tables e below Q F (T.setTop (mkF m nY Ls (rest)))) (KN : ¬ x = y → Ends p.tables e below Q F (T.setTop (mkF m nN Ls (rest)))) : Ends p.tables e below Q F (T.setTop (mkF m pc Ls (.long y :: .long x :: rest))) := by
  subst hp
  refine Ends.step ?_ fun t k => XS.lcmp (g := mkF m pc Ls (.long y :: .long x :: rest)) X.here hx rfl hd0 rfl k
  exact if_eq nY nN X hx hd hY hN (fun hb => KY (w_eq hb)) (fun hb => KN (w_neq hb))
theorem lif_ne (nY nN : Nat) (X : Stand p l e R s m args below meth c T locs cells slots) (hx : p.tables.exec = Jvm.exec) {o : Int} {x y : Int64} {rest : List Value} (hd0 : decode c.code pc = .ok (.lcmp, 1)) {pc1 : Nat} (hp : pc + 1 = pc1) (hd : decode c.code pc1 = .ok (.ifCond .ne o, 3)) (hY : 0 ≤ (pc1 : Int) + o ∧ ((pc1 : Int) + o).toNat = nY) (hN : pc1 + 3 = nN) (KY : ¬ x = y → Ends p.tables e below Q F (T.setTop (mkF m nY Ls (rest)))) (KN : x = y → Ends p.tables e below Q F (T.setTop (mkF m nN Ls (rest)))) : Ends p.tables e below Q F (T.setTop (mkF m pc Ls (.long y :: .long x :: rest))) := by
  subst hp
  refine Ends.step ?_ fun t k => XS.lcmp (g := mkF m pc Ls (.long y :: .long x :: rest)) X.here hx rfl hd0 rfl k
  exact if_ne nY nN X hx hd hY hN (fun hb => KY (w_neq hb)) (fun hb => KN (w_eq hb))
theorem ifnull (nY nN : Nat) (X : Stand p l e R s m args below meth c T locs cells slots) (hx : p.tables.exec = Jvm.exec) {o : Int} {v : Value} {rest : List Value} (hd : decode c.code pc = .ok (.ifnull o, 3)) (hv : v.isRef = true) (hY : 0 ≤ (pc : Int) + o ∧ ((pc : Int) + o).toNat = nY) (hN : pc + 3 = nN) (KY : v = .null → Ends p.tables e below Q F (T.setTop (mkF m nY Ls (rest)))) (KN : ∀ a, v = .ref a → Ends p.tables e below Q F (T.setTop (mkF m nN Ls (rest)))) : Ends p.tables e below Q F (T.setTop (mkF m pc Ls (v :: rest))) := by
  subst hN
  rcases ref_cases hv with rfl | ⟨a, rfl⟩
  · exact (KY rfl).step fun t k => XS.ifnullYes (g := mkF m pc Ls (.null :: rest)) X.here hx rfl (pc0 := pc) (pc' := nY) rfl hd rfl hY.1 hY.2 k
  · exact (KN a rfl).step fun t k => XS.ifnullNo (g := mkF m pc Ls (.ref a :: rest)) X.here hx rfl hd rfl k
theorem ifnonnull (nY nN : Nat) (X : Stand p l e R s m args below meth c T locs cells slots) (hx : p.tables.exec = Jvm.exec) {o : Int} {v : Value} {rest : List Value} (hd : decode c.code pc = .ok (.ifnonnull o, 3)) (hv : v.isRef = true) (hY : 0 ≤ (pc : Int) + o ∧ ((pc : Int) + o).toNat = nY) (hN : pc + 3 = nN) (KY : ∀ a, v = .ref a → Ends p.tables e below Q F (T.setTop (mkF m nY Ls (rest)))) (KN : v = .null → Ends p.tables e below Q F (T.setTop (mkF m nN Ls (rest)))) : Ends p.tables e below Q F (T.setTop (mkF m pc Ls (v :: rest))) := by
  subst hN
  rcases ref_cases hv with rfl | ⟨a, rfl⟩
  · exact (KN rfl).step fun t k => XS.ifnonnullNo (g := mkF m pc Ls (.null :: rest)) X.here hx rfl hd rfl k
  · exact (KY a rfl).step fun t k => XS.ifnonnullYes (g := mkF m pc Ls (.ref a :: rest)) X.here hx rfl (pc0 := pc) (pc' := nY) rfl hd rfl hY.1 hY.2 k
theorem retI (X : Stand p l e R s m args below meth c T locs cells slots) (hx : p.tables.exec = Jvm.exec) {pc : Nat} {Ls : Array Slot} {z : Int32} {rest : List Value} (hret : meth.sig.returnType = some .int) (hd : decode c.code pc = .ok (.ireturn, 1)) {fs : List Frame}
    (hl : ∀ (f : JFrame) (acts : List Action), f.method = m → f.locked = none → f.entered = [] → (doReturn e (T.setTop f) acts (some (.int z))).1 = T.setFrames fs) : Steps p.tables e below (T.setTop (mkF m pc Ls (.int z :: rest))) (T.setFrames fs) := by
  have hm' : T.vm.method? m = some meth := X.method'
  have hn : narrow .int (.int z) = .int z := rfl
  show Steps p.tables e below (T.setTop { method := m, pc := pc, locals := Ls, stack := _ :: rest, locked := none }) _
  jvm_step X.here [X.here.top, hx, hd, hm', hret, hn]
  first | (intro acts; rw [hl _ acts rfl rfl rfl]) | rw [hl _ _ rfl rfl rfl]
  exact Steps.refl _
theorem fin {fs : List Frame} {v : Option Value} {U : State} (X : Stand p l e R s m args below meth c T locs cells slots) (hst : Steps p.tables e below U (T.setFrames fs)) (hrun : (T.setFrames fs).status = .running) (hend : Ended (T.setFrames fs) below (.returned v)) (hW : s.WarmedH (T.setFrames fs).vm) (hsame : s.sameButNew ({ T.setFrames fs with vm := s.vm } : State) locs cells slots) (q : Q v T.heap locs) (hC : cells ≤ C) (hS : slots ≤ S) : Ends p.tables e below Q (FE s C S) U :=
  ⟨_, _, hst, hrun, hend, _, _, rfl, q, ⟨_, rfl⟩, hW, hsame.mono hC hS⟩
theorem retInt (X : Stand p l e R s m args below meth c T locs cells slots) (hx : p.tables.exec = Jvm.exec) {z : Int32} {rest : List Value} (hlk : meth.locks = false) (hret : meth.sig.returnType = some .int) (hd : decode c.code pc = .ok (.ireturn, 1)) (hC : cells ≤ C) (hS : slots ≤ S) (q : Q (some (.int z)) T.heap locs) : Ends p.tables e below Q (FE s C S) (T.setTop (mkF m pc Ls (.int z :: rest))) := by
  obtain ⟨fs, hr, hrun, hended, hW, hsame⟩ := X.leave (v := some (.int z)) (fun h => by rw [hret] at h; cases h) hlk
  exact fin X (retI X hx hret hd hr) hrun hended hW hsame q hC hS
theorem retBool (X : Stand p l e R s m args below meth c T locs cells slots) (hx : p.tables.exec = Jvm.exec) {z : Int32} {rest : List Value} (hlk : meth.locks = false) (hret : meth.sig.returnType = some .boolean) (hd : decode c.code pc = .ok (.ireturn, 1)) (hC : cells ≤ C) (hS : slots ≤ S) (q : Q (some (.int (nar .boolean z))) T.heap locs) : Ends p.tables e below Q (FE s C S) (T.setTop (mkF m pc Ls (.int z :: rest))) := by
  obtain ⟨fs, hr, hrun, hended, hW, hsame⟩ := X.leave (v := some (.int (nar .boolean z))) (fun h => by rw [hret] at h; cases h) hlk
  exact fin X (retN X hx hret (Or.inl rfl) hd hr) hrun hended hW hsame q hC hS
theorem retLong (X : Stand p l e R s m args below meth c T locs cells slots) (hx : p.tables.exec = Jvm.exec) {z : Int64} (hlk : meth.locks = false) (hret : meth.sig.returnType = some .long) (hd : decode c.code pc = .ok (.lreturn, 1)) (hC : cells ≤ C) (hS : slots ≤ S) (q : Q (some (.long z)) T.heap locs) : Ends p.tables e below Q (FE s C S) (T.setTop (mkF m pc Ls ([.long z]))) := by
  obtain ⟨fs, hr, hrun, hended, hW, hsame⟩ := X.leave (v := some (.long z)) (fun h => by rw [hret] at h; cases h) hlk
  exact fin X (X.lreturnOut hx hret hd hr) hrun hended hW hsame q hC hS
theorem retRef (X : Stand p l e R s m args below meth c T locs cells slots) (hx : p.tables.exec = Jvm.exec) {v : Value} {t : FieldType} (hlk : meth.locks = false) (hv : v.isRef = true) (hret : meth.sig.returnType = some t) (ht : t.isReference = true) (hd : decode c.code pc = .ok (.areturn, 1)) (hC : cells ≤ C) (hS : slots ≤ S) (q : Q (some v) T.heap locs) : Ends p.tables e below Q (FE s C S) (T.setTop (mkF m pc Ls ([v]))) := by
  obtain ⟨fs, hr, hrun, hended, hW, hsame⟩ := X.leave (v := some v) (fun h => by rw [hret] at h; cases h) hlk
  exact fin X (X.areturnOut hx hv hret ht hd hr) hrun hended hW hsame q hC hS
theorem retVoid (X : Stand p l e R s m args below meth c T locs cells slots) (hx : p.tables.exec = Jvm.exec) (hlk : meth.locks = false) (hret : meth.sig.returnType = none) (hd : decode c.code pc = .ok (.return_, 1)) (hC : cells ≤ C) (hS : slots ≤ S) (q : Q none T.heap locs) : Ends p.tables e below Q (FE s C S) (T.setTop (mkF m pc Ls ([]))) := by
  obtain ⟨fs, hr, hrun, hended, hW, hsame⟩ := X.leave (v := none) (fun _ => rfl) hlk
  exact fin X (X.returnOut hx hret hd hr) hrun hended hW hsame q hC hS
theorem ldcInt (n : Nat) (X : Stand p l e R s m args below meth c T locs cells slots) (hx : p.tables.exec = Jvm.exec) (hZ : Z.Warmed39 s.vm) {own : String} {index : Nat} (v : Int32) (hown : s.vm.findClass own = some m.cls) (w : (Cond.constant own index v).before a0 Z = true) (hd : decode c.code pc = .ok (.ldc index, 2)) (hn : pc + 2 = n) (K : Ends p.tables e below Q F (T.setTop (mkF m n Ls (.int v :: st)))) : Ends p.tables e below Q F (T.setTop (mkF m pc Ls (st))) := by
  subst hn; exact K.step fun t k => X.ldcInt hx hown (mvT hZ w) (g := mkF m pc Ls st) rfl hd _ k
theorem ldcwInt (n : Nat) (X : Stand p l e R s m args below meth c T locs cells slots) (hx : p.tables.exec = Jvm.exec) (hZ : Z.Warmed39 s.vm) {own : String} {index : Nat} (v : Int32) (hown : s.vm.findClass own = some m.cls) (w : (Cond.constant own index v).before a0 Z = true) (hd : decode c.code pc = .ok (.ldc_w index, 3)) (hn : pc + 3 = n) (K : Ends p.tables e below Q F (T.setTop (mkF m n Ls (.int v :: st)))) : Ends p.tables e below Q F (T.setTop (mkF m pc Ls (st))) := by
  subst hn; exact K.step fun t k => X.ldcwInt hx hown (mvT hZ w) (g := mkF m pc Ls st) rfl hd _ k
theorem ldc2Long (n : Nat) (X : Stand p l e R s m args below meth c T locs cells slots) (hx : p.tables.exec = Jvm.exec) (hZ : Z.Warmed39 s.vm) {own : String} {index : Nat} (v : Int64) (hown : s.vm.findClass own = some m.cls) (w : (Cond.constantLong own index v).before a0 Z = true) (hd : decode c.code pc = .ok (.ldc2_w index, 3)) (hn : pc + 3 = n) (K : Ends p.tables e below Q F (T.setTop (mkF m n Ls (.long v :: st)))) : Ends p.tables e below Q F (T.setTop (mkF m pc Ls (st))) := by
  subst hn; exact K.step fun t k => X.ldc2Long hx hown (mvT hZ w) (g := mkF m pc Ls st) rfl hd _ k
theorem getFld (n : Nat) (X : Stand p l e R s m args below meth c T locs cells slots) (hx : p.tables.exec = Jvm.exec) (hZ : Z.Warmed39 s.vm) {own R0 O nm d host : String} {index : Nat} (hown : s.vm.findClass own = some m.cls) (w : (Cond.fieldLink own index R0 nm d).before a0 Z = true ∨ (Cond.fieldLinkNest own index R0 nm d host).before a0 Z = true) (via : Via Z R0 O nm d) (eT : T.heap = h) {a : Addr} {v : Value} (Fd : Fld Z h a O nm d v) {rest : List Value} (hd : decode c.code pc = .ok (.getfield index, 3)) (hn : pc + 3 = n) (K : ∀ T', Stand p l e R s m args below meth c T' locs cells slots → T'.heap = h → Ends p.tables e below Q F (T'.setTop (mkF m n Ls (v :: rest)))) : Ends p.tables e below Q F (T.setTop (mkF m pc Ls (.ref a :: rest))) := by
  subst hn
  obtain ⟨T1, X1, e1, st1⟩ := getF X hx hZ hown w via eT Fd (g := mkF m pc Ls (.ref a :: rest)) rfl rfl hd
  exact (K T1 X1 e1).step st1
theorem getSta (n : Nat) (X : Stand p l e R s m args below meth c T locs cells slots) (hx : p.tables.exec = Jvm.exec) (hZ : Z.Warmed39 s.vm) {own R0 O nm d host : String} {index : Nat} (hown : s.vm.findClass own = some m.cls) (w : (Cond.fieldLink own index R0 nm d).before a0 Z = true ∨ (Cond.fieldLinkNest own index R0 nm d host).before a0 Z = true) (via : Via Z R0 O nm d) (eT : T.heap = h) {v : Value} (Fd : Sta Z h O nm d v) (hd : decode c.code pc = .ok (.getstatic index, 3)) (hn : pc + 3 = n) (K : ∀ T', Stand p l e R s m args below meth c T' locs cells slots → T'.heap = h → Ends p.tables e below Q F (T'.setTop (mkF m n Ls (v :: st)))) : Ends p.tables e below Q F (T.setTop (mkF m pc Ls (st))) := by
  subst hn
  obtain ⟨T1, X1, e1, st1⟩ := getS2 X hx hZ hown w via eT Fd (g := mkF m pc Ls st) rfl hd
  exact (K T1 X1 e1).step st1
theorem putFld (n : Nat) (X : Stand p l e R s m args below meth c T locs cells slots) (hx : p.tables.exec = Jvm.exec) (hZ : Z.Warmed39 s.vm) {own R0 O nm d host CC : String} {index kk : Nat} {ty : FieldType} (hown : s.vm.findClass own = some m.cls) (w : (Cond.fieldLink own index R0 nm d).before a0 Z = true ∨ (Cond.fieldLinkNest own index R0 nm d host).before a0 Z = true) (via : Via Z R0 O nm d) (eT : T.heap = h) {a : Addr} {v old : Value} (Fd : Fld Z h a O nm d old) (E : Exa Z h a CC) (L : (Cond.lays CC O nm d).before a0 Z = true ∨ ((Cond.laysFinal CC O nm d).before a0 Z = true ∧ own = O ∧ meth.name = "<init>")) (wi : (Cond.instantiable CC kk).before a0 Z = true) (hty : parseFieldDescriptor d = some ty) (hnw : narrow ty v = v) (hf : fits ty v = true) {rest : List Value} (hd : decode c.code pc = .ok (.putfield index, 3)) (hn : pc + 3 = n) (K : ∀ T' h', Stand p l e R s m args below meth c T' (locs ++ [⟨a, Jvm.RoadKit.slotOf Z O nm d⟩]) cells slots → T'.heap = h' → Wr h h' a (Jvm.RoadKit.slotOf Z O nm d) v → Ends p.tables e below Q F (T'.setTop (mkF m n Ls (rest)))) : Ends p.tables e below Q F (T.setTop (mkF m pc Ls (v :: .ref a :: rest))) := by
  subst hn
  obtain ⟨T1, h1, X1, e1, W1, st1⟩ := putF X hx hZ hown w via eT Fd E L wi hty hnw hf (g := mkF m pc Ls (v :: .ref a :: rest)) rfl rfl hd
  exact (K T1 h1 X1 e1 W1).step st1
theorem newObj (n : Nat) (X : Stand p l e R s m args below meth c T locs cells slots) (hx : p.tables.exec = Jvm.exec) (hZ : Z.Warmed39 s.vm) {own CC : String} {index sz : Nat} (hown : s.vm.findClass own = some m.cls) (w : (Cond.classLink own index CC).before a0 Z = true) (wi : (Cond.instantiable CC sz).before a0 Z = true) (wz : (Cond.initialized CC).before a0 Z = true) (eT : T.heap = h) (hd : decode c.code pc = .ok (.new index, 3)) (hn : pc + 3 = n) (hc : cells + 1 ≤ R.cells) (hl : slots + sz ≤ R.slots) (K : ∀ T' h' a, a = h.size → Stand p l e R s m args below meth c T' locs (cells + 1) (slots + sz) → T'.heap = h' → Ext h h' → Exa Z h' a CC → (∀ {O nm d : String} {ty : FieldType}, Laid Z a0 CC O nm d → parseFieldDescriptor d = some ty → Fld Z h' a O nm d (defaultValue ty)) → Ends p.tables e below Q F (T'.setTop (mkF m n Ls (.ref a :: st)))) : Ends p.tables e below Q F (T.setTop (mkF m pc Ls (st))) := by
  subst hn
  obtain ⟨T1, h1, X1, e1, E1, A1, D1, -, st1⟩ := newO X hx hZ hown w wi wz eT (g := mkF m pc Ls st) rfl hd hc hl
  exact (K T1 h1 _ rfl X1 e1 E1 A1 (fun L q => D1 L q)).step st1
theorem initObj (n W : Nat) (X : Stand p l e R s m args below meth c T locs cells slots) (hx : p.tables.exec = Jvm.exec) (hZ : Z.Warmed39 s.vm) {own : String} {index : Nat} (hown : s.vm.findClass own = some m.cls) (w1 : (Cond.methodLink own index Lib.objectInit).before a0 Z = true) (w2 : (Cond.instanceMethod Lib.objectInit).before a0 Z = true) (w3 : (Cond.code Lib.objectInit ⟨#[0xb1]⟩ 1 none).before a0 Z = true) (eT : T.heap = h) {a : Addr} {rest : List Value} (hsz : Ls.size = c.maxLocals) (hd : decode c.code pc = .ok (.invokespecial index, 3)) (hn : pc + 3 = n) (hf : 1 ≤ R.frames) (hW : (rest.map fun v => v.category).sum ≤ W) (hl : W + 12 ≤ R.locals) (K : ∀ T', Stand p l e R s m args below meth c T' locs cells slots → T'.heap = h → Ends p.tables e below Q F (T'.setTop (mkF m n Ls (rest)))) : Ends p.tables e below Q F (T.setTop (mkF m pc Ls (.ref a :: rest))) := by
  subst hn
  obtain ⟨T1, X1, e1, st1⟩ := initO X hx hZ hown w1 w2 w3 eT (g := mkF m pc Ls (.ref a :: rest)) rfl hsz rfl hd hf (W := W) (by show 2 * 0 + _ ≤ _; omega) hl
  exact (K T1 X1 e1).step st1
/-- the contract of a body: entered with these arguments at this heap it returns, and what it leaves answers to QQ -/
def Met (l : Launch) (Z : State) (y : MethodName) (bytes : ByteArray) (maxL : Nat) (ret : Option FieldType) (ws : List Cond) (rm : Room) (as : Array Value) (h : Heap) (QQ : Option Value → Heap → List Loc → Prop) : Prop :=
  MetFree l y (head1 (Cond.code y bytes maxL ret :: ws) rm) (fun a U => a = as ∧ Z.Warmed39 U.vm ∧ U.heap = h) (fun _ _ _ _ _ => True) (fun _ U o U' => ∃ v L, o = .returned v ∧ QQ v U'.heap L ∧ FrameEnd U o U' L rm.cells rm.slots)
theorem Met.of {y : MethodName} {bytes : ByteArray} {maxL : Nat} {ret : Option FieldType} {ws : List Cond} {rm : Room} {as : Array Value} {QQ : Option Value → Heap → List Loc → Prop} (hp : plainFor y = true)
    (body : ∀ (p : Program) (e : Env) (s : State) (m : MethodId) (below : List Frame) (meth : Method) (c : Code) (T : State), p.tables.exec = Jvm.exec → c.code = bytes → c.maxLocals = maxL → s.vm.findClass y.cls = some m.cls → meth.name = y.name → meth.sig.returnType = ret → meth.locks = false → Z.Warmed39 s.vm → Stand p l e rm s m as below meth c T [] 0 0 → T.heap = h → Ends p.tables e below QQ (FE s rm.cells rm.slots) (T.setTop (entryFrame m as maxL))) :
    Met l Z y bytes maxL ret ws rm as h QQ := by
  refine MetFree.of_bodySF hp hisR ?_
  intro p e s m args below meth c s₁ Bd hml0 hP hK
  obtain ⟨rfl, hZ, hh⟩ := hP
  exact body p e s m below meth c s₁ Bd.exec Bd.bytes hml0 (findClass_of_methodNamed Bd.named) (name_of_methodNamed Bd.named Bd.method).1 Bd.returns Bd.notSynchronized hZ (Stand.of_body Bd) (by rw [← hh, Bd.state]; rfl)
theorem callSt (n W : Nat) (argsL rest : List Value) (X : Stand p l e R s m args below meth c T locs cells slots) (hx : p.tables.exec = Jvm.exec) (hZ : Z.Warmed39 s.vm) {own : String} {index : Nat} {y : MethodName} {bytes : ByteArray} {maxL : Nat} {ret : Option FieldType} {rm : Room} {QQ : Option Value → Heap → List Loc → Prop} (hown : s.vm.findClass own = some m.cls) (hM : Met l Z y bytes maxL ret [] rm argsL.toArray h QQ) (wl : (Cond.methodLink own index y).before a0 Z = true) (ws : (Cond.static y).before a0 Z = true) (wi : (Cond.initialized y.cls).before a0 Z = true) (wc : (Cond.code y bytes maxL ret).before a0 Z = true) (hy : y.cls ≠ "java/lang/invoke/MethodHandle" ∧ y.cls ≠ "java/lang/invoke/VarHandle") (eT : T.heap = h) (hfr : rm.frames + 1 ≤ R.frames) (hlc : W + (maxL + 11) + rm.locals ≤ R.locals) (hc : cells + rm.cells ≤ R.cells) (hs : slots + rm.slots ≤ R.slots) (hsz : Ls.size = c.maxLocals) (hlen : ∀ sig, parseMethodDescriptor y.desc = some sig → argsL.length = sig.parameters.length) (hst : st = argsL.reverse ++ rest) (hW : (rest.map fun v => v.category).sum ≤ W) (hd : decode c.code pc = .ok (.invokestatic index, 3)) (hn : pc + 3 = n) (K : ∀ v T' L', Stand p l e R s m args below meth c T' (locs ++ L') (cells + rm.cells) (slots + rm.slots) → QQ v T'.heap L' → Ends p.tables e below Q F (T'.setTop (mkF m n Ls (v.toList ++ rest)))) : Ends p.tables e below Q F (T.setTop (mkF m pc Ls (st))) := by
  subst hn
  obtain ⟨v, vm1, ⟨T1, L1, k1, n1⟩, -, X1, ⟨Lc, hQ, l1, y1, z1⟩, st1⟩ := Jvm.LawKit.callS X hx (y := y) hown (mvT hZ wl) (mvT hZ ws) (mvT hZ wi) (mvT hZ wc) hy (backOf (W := W) hM hZ wc wi hfr hlc) (g := mkF m pc Ls st) rfl hsz (argsL := argsL) (rest := rest) hlen hst (by show 2 * 0 + _ ≤ _; omega) hd (fun _ _ => ⟨rfl, eT, hc, hs⟩)
  dsimp only [Pt.U, Pt.locs, Pt.cells, Pt.slots] at X1 l1 y1 z1 st1 hQ
  subst l1 y1 z1
  exact (K v T1 Lc X1 hQ).step st1
theorem callInit (n W : Nat) (a : Addr) (argsL rest : List Value) (X : Stand p l e R s m args below meth c T locs cells slots) (hx : p.tables.exec = Jvm.exec) (hZ : Z.Warmed39 s.vm) {own : String} {index : Nat} {y : MethodName} {bytes : ByteArray} {maxL : Nat} {rm : Room} {QQ : Option Value → Heap → List Loc → Prop} (hown : s.vm.findClass own = some m.cls) (hM : Met l Z y bytes maxL none [] rm (.ref a :: argsL).toArray h QQ) (hy1 : y.name = "<init>") (wl : (Cond.methodLink own index y).before a0 Z = true) (ws : (Cond.instanceMethod y).before a0 Z = true) (wi : (Cond.initialized y.cls).before a0 Z = true) (wc : (Cond.code y bytes maxL none).before a0 Z = true) (hy : y.cls ≠ "java/lang/invoke/MethodHandle" ∧ y.cls ≠ "java/lang/invoke/VarHandle") (eT : T.heap = h) (hfr : rm.frames + 1 ≤ R.frames) (hlc : W + (maxL + 11) + rm.locals ≤ R.locals) (hc : cells + rm.cells ≤ R.cells) (hs : slots + rm.slots ≤ R.slots) (hsz : Ls.size = c.maxLocals) (hlen : ∀ sig, parseMethodDescriptor y.desc = some sig → argsL.length = sig.parameters.length) (hst : st = argsL.reverse ++ .ref a :: rest) (hW : (rest.map fun v => v.category).sum ≤ W) (hd : decode c.code pc = .ok (.invokespecial index, 3)) (hn : pc + 3 = n) (K : ∀ v T' L', Stand p l e R s m args below meth c T' (locs ++ L') (cells + rm.cells) (slots + rm.slots) → QQ v T'.heap L' → Ends p.tables e below Q F (T'.setTop (mkF m n Ls (v.toList ++ rest)))) : Ends p.tables e below Q F (T.setTop (mkF m pc Ls (st))) := by
  subst hn
  obtain ⟨v, vm1, ⟨T1, L1, k1, n1⟩, -, X1, ⟨Lc, hQ, l1, y1, z1⟩, st1⟩ := X.specialBack hx (y := y) hy1 hown (mvT hZ wl) (mvT hZ ws) (mvT hZ wc) hy (backOf (W := W) hM hZ wc wi hfr hlc) (g := mkF m pc Ls st) rfl hsz (Steps.refl _) (a := a) (argsL := argsL) (rest := rest) hlen hst (by show 2 * 0 + _ ≤ _; omega) hd (fun _ _ => ⟨rfl, eT, hc, hs⟩)
  dsimp only [Pt.U, Pt.locs, Pt.cells, Pt.slots] at X1 l1 y1 z1 st1 hQ
  subst l1 y1 z1
  exact (K v T1 Lc X1 hQ).step fun t k => st1.trans k
theorem callVt (n W : Nat) (a : Addr) (argsL rest : List Value) (X : Stand p l e R s m args below meth c T locs cells slots) (hx : p.tables.exec = Jvm.exec) (hZ : Z.Warmed39 s.vm) {own CC : String} {index : Nat} {y z : MethodName} {bytes : ByteArray} {maxL : Nat} {ret : Option FieldType} {rm : Room} {QQ : Option Value → Heap → List Loc → Prop} (hown : s.vm.findClass own = some m.cls) (hM : Met l Z z bytes maxL ret [] rm (.ref a :: argsL).toArray h QQ) (E : Exa Z h a CC) (hnf : NotFace s y) (wl : (Cond.methodLink own index y).before a0 Z = true) (wd : (Cond.declares y).before a0 Z = true) (wsel : (Cond.selects CC y z).before a0 Z = true) (ws : (Cond.instanceMethod z).before a0 Z = true) (wi : (Cond.initialized z.cls).before a0 Z = true) (wc : (Cond.code z bytes maxL ret).before a0 Z = true) (hy : y.cls ≠ "java/lang/invoke/MethodHandle" ∧ y.cls ≠ "java/lang/invoke/VarHandle") (eT : T.heap = h) (hfr : rm.frames + 1 ≤ R.frames) (hlc : W + (maxL + 11) + rm.locals ≤ R.locals) (hc : cells + rm.cells ≤ R.cells) (hs : slots + rm.slots ≤ R.slots) (hsz : Ls.size = c.maxLocals) (hlen : ∀ sig, parseMethodDescriptor y.desc = some sig → argsL.length = sig.parameters.length) (hst : st = argsL.reverse ++ .ref a :: rest) (hW : (rest.map fun v => v.category).sum ≤ W) (hd : decode c.code pc = .ok (.invokevirtual index, 3)) (hn : pc + 3 = n) (K : ∀ v T' L', Stand p l e R s m args below meth c T' (locs ++ L') (cells + rm.cells) (slots + rm.slots) → QQ v T'.heap L' → Ends p.tables e below Q F (T'.setTop (mkF m n Ls (v.toList ++ rest)))) : Ends p.tables e below Q F (T.setTop (mkF m pc Ls (st))) := by
  subst hn
  obtain ⟨cq, kq, qa, qb, qc⟩ := isOf hZ eT E
  obtain ⟨v, vm1, ⟨T1, L1, k1, n1⟩, -, X1, ⟨Lc, hQ, l1, y1, z1⟩, st1⟩ := X.virtualBack hx (y := y) (z := z) hown (mvT hZ wl) (mvT hZ wd) hnf (mvT hZ wsel) (mvT hZ ws) hy (backOf (W := W) hM hZ wc wi hfr hlc) qa qc (g := mkF m pc Ls st) rfl hsz (Steps.refl _) (argsL := argsL) (rest := rest) hlen hst (by show 2 * 0 + _ ≤ _; omega) hd (fun _ _ => ⟨rfl, eT, hc, hs⟩)
  dsimp only [Pt.U, Pt.locs, Pt.cells, Pt.slots] at X1 l1 y1 z1 st1 hQ
  subst l1 y1 z1
  exact (K v T1 Lc X1 hQ).step fun t k => st1.trans k
theorem callPr (n W : Nat) (a : Addr) (argsL rest : List Value) (X : Stand p l e R s m args below meth c T locs cells slots) (hx : p.tables.exec = Jvm.exec) (hZ : Z.Warmed39 s.vm) {own CC : String} {index : Nat} {y : MethodName} {bytes : ByteArray} {maxL : Nat} {ret : Option FieldType} {rm : Room} {QQ : Option Value → Heap → List Loc → Prop} (hown : s.vm.findClass own = some m.cls) (hM : Met l Z y bytes maxL ret [] rm (.ref a :: argsL).toArray h QQ) (E : Exa Z h a CC) (wl : (Cond.methodLink own index y).before a0 Z = true) (wp : (Cond.privateMethod y).before a0 Z = true) {kk : Nat} (wk : (Cond.instantiable y.cls kk).before a0 Z = true) (ws : (Cond.instanceMethod y).before a0 Z = true) (wi : (Cond.initialized y.cls).before a0 Z = true) (wc : (Cond.code y bytes maxL ret).before a0 Z = true) (hy : y.cls ≠ "java/lang/invoke/MethodHandle" ∧ y.cls ≠ "java/lang/invoke/VarHandle") (eT : T.heap = h) (hfr : rm.frames + 1 ≤ R.frames) (hlc : W + (maxL + 11) + rm.locals ≤ R.locals) (hc : cells + rm.cells ≤ R.cells) (hs : slots + rm.slots ≤ R.slots) (hsz : Ls.size = c.maxLocals) (hlen : ∀ sig, parseMethodDescriptor y.desc = some sig → argsL.length = sig.parameters.length) (hst : st = argsL.reverse ++ .ref a :: rest) (hW : (rest.map fun v => v.category).sum ≤ W) (hd : decode c.code pc = .ok (.invokevirtual index, 3)) (hn : pc + 3 = n) (K : ∀ v T' L', Stand p l e R s m args below meth c T' (locs ++ L') (cells + rm.cells) (slots + rm.slots) → QQ v T'.heap L' → Ends p.tables e below Q F (T'.setTop (mkF m n Ls (v.toList ++ rest)))) : Ends p.tables e below Q F (T.setTop (mkF m pc Ls (st))) := by
  subst hn
  obtain ⟨cq, qa, qb⟩ := E.cell
  obtain ⟨cI, kI, i1, i2, -, i4, -⟩ := Cond.instantiable_spec (mvT (args := args) hZ wk)
  obtain ⟨v, vm1, ⟨T1, L1, k1, n1⟩, -, X1, ⟨Lc, hQ, l1, y1, z1⟩, st1⟩ := X.privateBack hx (y := y) hown (mvT hZ wl) (mvT hZ ws) (selects_self_of_private i1 i2 (by simpa using (Bool.or_eq_false_iff.mp i4).1) (Cond.privateMethod_at (mvP hZ wp (args := #[]))) (mvT hZ ws) hy) (Cond.privateMethod_at (mvP hZ wp (args := #[]))) (mvT hZ wc) hy (backOf (W := W) hM hZ wc wi hfr hlc) (g := mkF m pc Ls st) rfl hsz (Steps.refl _) (a := a) (by rw [eT]; exact qa) qb (argsL := argsL) (rest := rest) hlen hst (by show 2 * 0 + _ ≤ _; omega) hd (fun _ _ => ⟨rfl, eT, hc, hs⟩)
  dsimp only [Pt.U, Pt.locs, Pt.cells, Pt.slots] at X1 l1 y1 z1 st1 hQ
  subst l1 y1 z1
  exact (K v T1 Lc X1 hQ).step fun t k => st1.trans k
theorem arrLen (n : Nat) (X : Stand p l e R s m args below meth c T locs cells slots) (hx : p.tables.exec = Jvm.exec) (hZ : Z.Warmed39 s.vm) (eT : T.heap = h) {a : Addr} {k : ClassId} {ty : FieldType} {z : Int32} {vs : List Value} {dv : Value} {rest : List Value} (A : Arv Z h a k ty z vs dv) (hd : decode c.code pc = .ok (.arraylength, 1)) (hn : pc + 1 = n) (K : Ends p.tables e below Q F (T.setTop (mkF m n Ls (.int z :: rest)))) : Ends p.tables e below Q F (T.setTop (mkF m pc Ls (.ref a :: rest))) := by
  subst hn
  obtain ⟨cl, Ar, -, Sz, Nz, -, -⟩ := A
  refine K.step fun t kk => X.arraylength hx (by rw [eT]; exact Ar.1) (State.isArrayOf_alike hZ.alike Ar.2.1) (g := mkF m pc Ls (.ref a :: rest)) rfl rfl hd _ ?_
  rw [len_of Sz Nz]; exact kk
theorem iaload (n : Nat) (X : Stand p l e R s m args below meth c T locs cells slots) (hx : p.tables.exec = Jvm.exec) (hZ : Z.Warmed39 s.vm) (eT : T.heap = h) {a : Addr} {k : ClassId} {z j : Int32} (v : Int32) {vs : List Value} {dv : Value} {rest : List Value} (A : Arv Z h a k .int z vs dv) (hj : ¬ j < 0 ∧ j < z) (hv : vs.getD j.toNatClampNeg dv = .int v) (hd : decode c.code pc = .ok (.iaload, 1)) (hn : pc + 1 = n) (K : Ends p.tables e below Q F (T.setTop (mkF m n Ls (.int v :: rest)))) : Ends p.tables e below Q F (T.setTop (mkF m pc Ls (.int j :: .ref a :: rest))) := by
  subst hn
  obtain ⟨cl, Ar, -, Sz, Nz, Hs, -⟩ := A
  have hin := inb_of Sz hj
  exact K.step fun t kk => X.iaload hx (j := j) (v := .int v) (by rw [eT]; exact Ar.1) (State.isArrayOf_alike hZ.alike Ar.2.1) Ar.2.2 hin (Hs.at hin hv) (g := mkF m pc Ls (.int j :: .ref a :: rest)) rfl rfl hd _ kk
theorem laload (n : Nat) (X : Stand p l e R s m args below meth c T locs cells slots) (hx : p.tables.exec = Jvm.exec) (hZ : Z.Warmed39 s.vm) (eT : T.heap = h) {a : Addr} {k : ClassId} {z j : Int32} (v : Int64) {vs : List Value} {dv : Value} {rest : List Value} (A : Arv Z h a k .long z vs dv) (hj : ¬ j < 0 ∧ j < z) (hv : vs.getD j.toNatClampNeg dv = .long v) (hd : decode c.code pc = .ok (.laload, 1)) (hn : pc + 1 = n) (K : Ends p.tables e below Q F (T.setTop (mkF m n Ls (.long v :: rest)))) : Ends p.tables e below Q F (T.setTop (mkF m pc Ls (.int j :: .ref a :: rest))) := by
  subst hn
  obtain ⟨cl, Ar, -, Sz, Nz, Hs, -⟩ := A
  have hin := inb_of Sz hj
  exact K.step fun t kk => X.laload hx (j := j) (v := .long v) (by rw [eT]; exact Ar.1) (State.isArrayOf_alike hZ.alike Ar.2.1) Ar.2.2 hin (Hs.at hin hv) (g := mkF m pc Ls (.int j :: .ref a :: rest)) rfl rfl hd _ kk
theorem baload (n : Nat) (X : Stand p l e R s m args below meth c T locs cells slots) (hx : p.tables.exec = Jvm.exec) (hZ : Z.Warmed39 s.vm) (eT : T.heap = h) {a : Addr} {k : ClassId} {z j : Int32} (v : Int32) {vs : List Value} {dv : Value} {rest : List Value} (A : Arv Z h a k .byte z vs dv) (hj : ¬ j < 0 ∧ j < z) (hv : vs.getD j.toNatClampNeg dv = .int v) (hd : decode c.code pc = .ok (.baload, 1)) (hn : pc + 1 = n) (K : Ends p.tables e below Q F (T.setTop (mkF m n Ls (.int v :: rest)))) : Ends p.tables e below Q F (T.setTop (mkF m pc Ls (.int j :: .ref a :: rest))) := by
  subst hn
  obtain ⟨cl, Ar, -, Sz, Nz, Hs, -⟩ := A
  have hin := inb_of Sz hj
  exact K.step fun t kk => X.baloadBytes hx (j := j) (v := .int v) (by rw [eT]; exact Ar.1) (State.isArrayOf_alike hZ.alike Ar.2.1) Ar.2.2 hin (Hs.at hin hv) (g := mkF m pc Ls (.int j :: .ref a :: rest)) rfl rfl hd _ kk
theorem caload (n : Nat) (X : Stand p l e R s m args below meth c T locs cells slots) (hx : p.tables.exec = Jvm.exec) (hZ : Z.Warmed39 s.vm) (eT : T.heap = h) {a : Addr} {k : ClassId} {z j : Int32} (v : Int32) {vs : List Value} {dv : Value} {rest : List Value} (A : Arv Z h a k .char z vs dv) (hj : ¬ j < 0 ∧ j < z) (hv : vs.getD j.toNatClampNeg dv = .int v) (hd : decode c.code pc = .ok (.caload, 1)) (hn : pc + 1 = n) (K : Ends p.tables e below Q F (T.setTop (mkF m n Ls (.int v :: rest)))) : Ends p.tables e below Q F (T.setTop (mkF m pc Ls (.int j :: .ref a :: rest))) := by
  subst hn
  obtain ⟨cl, Ar, -, Sz, Nz, Hs, -⟩ := A
  have hin := inb_of Sz hj
  exact K.step fun t kk => X.caload hx (j := j) (v := .int v) (by rw [eT]; exact Ar.1) (State.isArrayOf_alike hZ.alike Ar.2.1) Ar.2.2 hin (Hs.at hin hv) (g := mkF m pc Ls (.int j :: .ref a :: rest)) rfl rfl hd _ kk
theorem aaload (n : Nat) (X : Stand p l e R s m args below meth c T locs cells slots) (hx : p.tables.exec = Jvm.exec) (hZ : Z.Warmed39 s.vm) (eT : T.heap = h) {a : Addr} {k : ClassId} {z j : Int32} {ty : FieldType} (v : Value) {vs : List Value} {dv : Value} {rest : List Value} (A : Arv Z h a k ty z vs dv) (hty : ty.isReference = true) (hj : ¬ j < 0 ∧ j < z) (hv : vs.getD j.toNatClampNeg dv = v) (hd : decode c.code pc = .ok (.aaload, 1)) (hn : pc + 1 = n) (K : Ends p.tables e below Q F (T.setTop (mkF m n Ls (v :: rest)))) : Ends p.tables e below Q F (T.setTop (mkF m pc Ls (.int j :: .ref a :: rest))) := by
  subst hn
  obtain ⟨cl, Ar, -, Sz, Nz, Hs, -⟩ := A
  have hin := inb_of Sz hj
  exact K.step fun t kk => X.aaload hx (j := j) (v := v) (by rw [eT]; exact Ar.1) (State.isArrayOf_alike hZ.alike Ar.2.1) hty Ar.2.2 hin (Hs.at hin hv) (g := mkF m pc Ls (.int j :: .ref a :: rest)) rfl rfl hd _ kk
theorem iastore (n : Nat) (X : Stand p l e R s m args below meth c T locs cells slots) (hx : p.tables.exec = Jvm.exec) (hZ : Z.Warmed39 s.vm) (eT : T.heap = h) {a : Addr} {k : ClassId} {z j : Int32} {x : Int32} {vs : List Value} {dv : Value} {rest : List Value} (A : Arv Z h a k .int z vs dv) (hj : ¬ j < 0 ∧ j < z) (hlen : j.toNatClampNeg < vs.length) (hd : decode c.code pc = .ok (.iastore, 1)) (hn : pc + 1 = n) (K : ∀ T' h', Stand p l e R s m args below meth c T' (locs ++ [⟨a, j.toNatClampNeg⟩]) cells slots → T'.heap = h' → Wr h h' a j.toNatClampNeg (.int x) → Arv Z h' a k .int z (vs.set j.toNatClampNeg (.int x)) dv → Ends p.tables e below Q F (T'.setTop (mkF m n Ls (rest)))) : Ends p.tables e below Q F (T.setTop (mkF m pc Ls (.int x :: .int j :: .ref a :: rest))) := by
  subst hn
  obtain ⟨cl, Ar, q1, Sz, Nz, Hs, Gs⟩ := A
  obtain ⟨T1, h1, X1, e1, W1, st1⟩ := stI X hx hZ eT Ar (j := j) (inb_of Sz hj) (g := mkF m pc Ls (.int x :: .int j :: .ref a :: rest)) rfl rfl hd
  exact (K T1 h1 X1 e1 W1 (Arv.set Ar q1 Sz Nz Hs Gs rfl W1 _ rfl hlen)).step st1
theorem lastore (n : Nat) (X : Stand p l e R s m args below meth c T locs cells slots) (hx : p.tables.exec = Jvm.exec) (hZ : Z.Warmed39 s.vm) (eT : T.heap = h) {a : Addr} {k : ClassId} {z j : Int32} {x : Int64} {vs : List Value} {dv : Value} {rest : List Value} (A : Arv Z h a k .long z vs dv) (hj : ¬ j < 0 ∧ j < z) (hlen : j.toNatClampNeg < vs.length) (hd : decode c.code pc = .ok (.lastore, 1)) (hn : pc + 1 = n) (K : ∀ T' h', Stand p l e R s m args below meth c T' (locs ++ [⟨a, j.toNatClampNeg⟩]) cells slots → T'.heap = h' → Wr h h' a j.toNatClampNeg (.long x) → Arv Z h' a k .long z (vs.set j.toNatClampNeg (.long x)) dv → Ends p.tables e below Q F (T'.setTop (mkF m n Ls (rest)))) : Ends p.tables e below Q F (T.setTop (mkF m pc Ls (.long x :: .int j :: .ref a :: rest))) := by
  subst hn
  obtain ⟨cl, Ar, q1, Sz, Nz, Hs, Gs⟩ := A
  obtain ⟨T1, h1, X1, e1, W1, st1⟩ := stJ X hx hZ eT Ar (j := j) (inb_of Sz hj) (g := mkF m pc Ls (.long x :: .int j :: .ref a :: rest)) rfl rfl hd
  exact (K T1 h1 X1 e1 W1 (Arv.set Ar q1 Sz Nz Hs Gs rfl W1 _ rfl hlen)).step st1
theorem bastore (n : Nat) (X : Stand p l e R s m args below meth c T locs cells slots) (hx : p.tables.exec = Jvm.exec) (hZ : Z.Warmed39 s.vm) (eT : T.heap = h) {a : Addr} {k : ClassId} {z j : Int32} {x : Int32} {vs : List Value} {dv : Value} {rest : List Value} (A : Arv Z h a k .byte z vs dv) (hj : ¬ j < 0 ∧ j < z) (hlen : j.toNatClampNeg < vs.length) (hd : decode c.code pc = .ok (.bastore, 1)) (hn : pc + 1 = n) (K : ∀ T' h', Stand p l e R s m args below meth c T' (locs ++ [⟨a, j.toNatClampNeg⟩]) cells slots → T'.heap = h' → Wr h h' a j.toNatClampNeg (.int x.toInt8.toInt32) → Arv Z h' a k .byte z (vs.set j.toNatClampNeg (.int x.toInt8.toInt32)) dv → Ends p.tables e below Q F (T'.setTop (mkF m n Ls (rest)))) : Ends p.tables e below Q F (T.setTop (mkF m pc Ls (.int x :: .int j :: .ref a :: rest))) := by
  subst hn
  obtain ⟨cl, Ar, q1, Sz, Nz, Hs, Gs⟩ := A
  obtain ⟨T1, h1, X1, e1, W1, st1⟩ := stB X hx hZ eT Ar (j := j) (inb_of Sz hj) (g := mkF m pc Ls (.int x :: .int j :: .ref a :: rest)) rfl rfl hd
  exact (K T1 h1 X1 e1 W1 (Arv.set Ar q1 Sz Nz Hs Gs (fits_nar_byte _) W1 _ rfl hlen)).step st1
theorem castore (n : Nat) (X : Stand p l e R s m args below meth c T locs cells slots) (hx : p.tables.exec = Jvm.exec) (hZ : Z.Warmed39 s.vm) (eT : T.heap = h) {a : Addr} {k : ClassId} {z j : Int32} {x : Int32} {vs : List Value} {dv : Value} {rest : List Value} (A : Arv Z h a k .char z vs dv) (hj : ¬ j < 0 ∧ j < z) (hlen : j.toNatClampNeg < vs.length) (hd : decode c.code pc = .ok (.castore, 1)) (hn : pc + 1 = n) (K : ∀ T' h', Stand p l e R s m args below meth c T' (locs ++ [⟨a, j.toNatClampNeg⟩]) cells slots → T'.heap = h' → Wr h h' a j.toNatClampNeg (.int (nar .char x)) → Arv Z h' a k .char z (vs.set j.toNatClampNeg (.int (nar .char x))) dv → Ends p.tables e below Q F (T'.setTop (mkF m n Ls (rest)))) : Ends p.tables e below Q F (T.setTop (mkF m pc Ls (.int x :: .int j :: .ref a :: rest))) := by
  subst hn
  obtain ⟨cl, Ar, q1, Sz, Nz, Hs, Gs⟩ := A
  obtain ⟨T1, h1, X1, e1, W1, st1⟩ := stC X hx hZ eT Ar (j := j) (inb_of Sz hj) (g := mkF m pc Ls (.int x :: .int j :: .ref a :: rest)) rfl rfl hd
  exact (K T1 h1 X1 e1 W1 (Arv.set Ar q1 Sz Nz Hs Gs (fits_nar_char _) W1 _ rfl hlen)).step st1
theorem newArr (n cap : Nat) (X : Stand p l e R s m args below meth c T locs cells slots) (hx : p.tables.exec = Jvm.exec) (hZ : Z.Warmed39 s.vm) {aty : ArrayType} (w : (Cond.arrayClass (newarray.typeOf aty)).before a0 Z = true) (eT : T.heap = h) {z : Int32} {rest : List Value} (hz : ¬ z < 0) (hcap : z.toNatClampNeg ≤ cap) (hb : cap * 8 ≤ 536870912) (hd : decode c.code pc = .ok (.newarray aty, 2)) (hn : pc + 2 = n) (hc : cells + 1 ≤ R.cells) (hl : slots + cap ≤ R.slots) (K : ∀ T' h' a k, a = h.size → Stand p l e R s m args below meth c T' locs (cells + 1) (slots + cap) → T'.heap = h' → Ext h h' → Arv Z h' a k (newarray.typeOf aty) z (List.replicate z.toNatClampNeg (defaultValue (newarray.typeOf aty))) (defaultValue (newarray.typeOf aty)) → Ends p.tables e below Q F (T'.setTop (mkF m n Ls (.ref a :: rest)))) : Ends p.tables e below Q F (T.setTop (mkF m pc Ls (.int z :: rest))) := by
  subst hn
  obtain ⟨T1, h1, k1, X1, e1, E1, A1, st1⟩ := newP X hx hZ w eT (g := mkF m pc Ls (.int z :: rest)) rfl hd rfl hz (cap := cap) hcap hb hc hl
  exact (K T1 h1 _ k1 rfl X1 e1 E1 ((Arv.new A1 hz).pad (pad_rep [] _ _))).step st1
theorem arrCopy (n W : Nat) (X : Stand p l e R s m args below meth c T locs cells slots) (hx : p.tables.exec = Jvm.exec) (hZ : Z.Warmed39 s.vm) {own : String} {index : Nat} (hown : s.vm.findClass own = some m.cls) (w1 : (Cond.methodLink own index Jvm.Stand.acN).before a0 Z = true) (w2 : (Cond.native Jvm.Stand.acN).before a0 Z = true) (w3 : (Cond.static Jvm.Stand.acN).before a0 Z = true) (w4 : (Cond.initialized "java/lang/System").before a0 Z = true) (eT : T.heap = h) {a b : Addr} {k k2 : ClassId} {ty : FieldType} {z z2 sp dp nn : Int32} {vs vd : List Value} {dv dd : Value} (A : Arv Z h a k ty z vs dv) (B : Arv Z h b k2 ty z2 vd dd) (hty : refKind ty = false) (h1 : ¬ sp < 0) (h2 : ¬ dp < 0) (h3 : ¬ nn < 0) (h4 : sp.toNatClampNeg + nn.toNatClampNeg ≤ z.toNatClampNeg) (h5 : dp.toNatClampNeg + nn.toNatClampNeg ≤ z2.toNatClampNeg) (hl : dp.toNatClampNeg + nn.toNatClampNeg ≤ vd.length) {n0 : Nat} (N : Fr n0 locs) (ge : n0 ≤ b) (hsz : Ls.size = c.maxLocals) {rest : List Value} (hd : decode c.code pc = .ok (.invokestatic index, 3)) (hn : pc + 3 = n) (hf : 1 ≤ R.frames) (hW : (rest.map fun v => v.category).sum ≤ W) (hlo : W + (nativeFrameWords "java/lang/System" "arraycopy" 5 + 11) ≤ R.locals) (K : ∀ T' h' L vs', Stand p l e R s m args below meth c T' L cells slots → T'.heap = h' → Fr n0 L → Keep h h' [b] → vs' = vd.take dp.toNatClampNeg ++ ((List.range nn.toNatClampNeg).map fun i => vs.getD (sp.toNatClampNeg + i) dv) ++ vd.drop (dp.toNatClampNeg + nn.toNatClampNeg) → vs'.length = vd.length → Arv Z h' b k2 ty z2 vs' dd → Ends p.tables e below Q F (T'.setTop (mkF m n Ls (rest)))) : Ends p.tables e below Q F (T.setTop (mkF m pc Ls (.int nn :: .int dp :: .ref b :: .int sp :: .ref a :: rest))) := by
  subst hn
  obtain ⟨T1, hh1, L1, X1, e1, N1, K1, V1, st1⟩ := cpA X hx hZ hown w1 w2 w3 w4 eT A B (Or.inl ⟨rfl, hty⟩) h1 h2 h3 h4 h5 rfl hl N ge (g := mkF m pc Ls (.int nn :: .int dp :: .ref b :: .int sp :: .ref a :: rest)) rfl hsz rfl hd hf (W := W) (by show 2 * 0 + _ ≤ _; omega) hlo
  exact (K T1 hh1 L1 _ X1 e1 N1 K1 rfl (by simp; omega) V1).step st1
/-- an array of this kind and length, whatever it holds -/
def Ax (Z : State) (h : Heap) (a : Addr) (ty : FieldType) (z : Int32) : Prop := ∃ (k : ClassId) (vs : List Value), vs.length = z.toNatClampNeg ∧ Arv Z h a k ty z vs (defaultValue ty)
theorem Ax.lt {a : Addr} {ty : FieldType} {z : Int32} (F : Ax Z h a ty z) : a < h.size := by obtain ⟨k, vs, -, A⟩ := F; exact A.lt
theorem Ax.ext {h' : Heap} {a : Addr} {ty : FieldType} {z : Int32} (F : Ax Z h a ty z) (E : Ext h h') : Ax Z h' a ty z := by obtain ⟨k, vs, q, A⟩ := F; exact ⟨k, vs, q, A.ext E⟩
theorem Ax.keep {h' : Heap} {a : Addr} {ty : FieldType} {z : Int32} {ws : List Addr} (F : Ax Z h a ty z) (K : Keep h h' ws) (q : a ∉ ws) : Ax Z h' a ty z := by obtain ⟨k, vs, r, A⟩ := F; exact ⟨k, vs, r, A.keep K q⟩
theorem Ax.other {h' : Heap} {a b : Addr} {sl : Nat} {v : Value} {ty : FieldType} {z : Int32} (F : Ax Z h a ty z) (W : Wr h h' b sl v) (q : a ≠ b) : Ax Z h' a ty z := by obtain ⟨k, vs, r, A⟩ := F; exact ⟨k, vs, r, A.other W q⟩
theorem Ax.nn {a : Addr} {ty : FieldType} {z : Int32} (F : Ax Z h a ty z) : ¬ z < 0 := by obtain ⟨k, vs, -, c, -, -, -, N, -⟩ := F; exact N
theorem axLen (n : Nat) (X : Stand p l e R s m args below meth c T locs cells slots) (hx : p.tables.exec = Jvm.exec) (hZ : Z.Warmed39 s.vm) (eT : T.heap = h) {a : Addr} {ty : FieldType} {z : Int32} {rest : List Value} (A : Ax Z h a ty z) (hd : decode c.code pc = .ok (.arraylength, 1)) (hn : pc + 1 = n) (K : Ends p.tables e below Q F (T.setTop (mkF m n Ls (.int z :: rest)))) : Ends p.tables e below Q F (T.setTop (mkF m pc Ls (.ref a :: rest))) := by
  obtain ⟨k, vs, -, A⟩ := A
  exact arrLen n X hx hZ eT A hd hn K
theorem axLoadI (n : Nat) (X : Stand p l e R s m args below meth c T locs cells slots) (hx : p.tables.exec = Jvm.exec) (hZ : Z.Warmed39 s.vm) (eT : T.heap = h) {a : Addr} {z j : Int32} {rest : List Value} (A : Ax Z h a .int z) (hj : ¬ j < 0 ∧ j < z) (hd : decode c.code pc = .ok (.iaload, 1)) (hn : pc + 1 = n) (K : ∀ v : Int32, Ends p.tables e below Q F (T.setTop (mkF m n Ls (.int v :: rest)))) : Ends p.tables e below Q F (T.setTop (mkF m pc Ls (.int j :: .ref a :: rest))) := by
  obtain ⟨k, vs, -, A⟩ := A
  have A1 := A
  obtain ⟨cl, Ar, -, Sz, Nz, Hs, Gs⟩ := A1
  have hin := inb_of Sz hj
  have G := Gs j.toNatClampNeg (Nat.lt_of_not_le fun y => hin (Or.inr y))
  obtain ⟨v, hv⟩ := fit_I G (Or.inl rfl)
  exact iaload n X hx hZ eT v A hj hv hd hn (K v)
theorem axLoadJ (n : Nat) (X : Stand p l e R s m args below meth c T locs cells slots) (hx : p.tables.exec = Jvm.exec) (hZ : Z.Warmed39 s.vm) (eT : T.heap = h) {a : Addr} {z j : Int32} {rest : List Value} (A : Ax Z h a .long z) (hj : ¬ j < 0 ∧ j < z) (hd : decode c.code pc = .ok (.laload, 1)) (hn : pc + 1 = n) (K : ∀ v : Int64, Ends p.tables e below Q F (T.setTop (mkF m n Ls (.long v :: rest)))) : Ends p.tables e below Q F (T.setTop (mkF m pc Ls (.int j :: .ref a :: rest))) := by
  obtain ⟨k, vs, -, A⟩ := A
  have A1 := A
  obtain ⟨cl, Ar, -, Sz, Nz, Hs, Gs⟩ := A1
  have hin := inb_of Sz hj
  have G := Gs j.toNatClampNeg (Nat.lt_of_not_le fun y => hin (Or.inr y))
  obtain ⟨v, hv⟩ := fit_J G
  exact laload n X hx hZ eT v A hj hv hd hn (K v)
theorem axLoadB (n : Nat) (X : Stand p l e R s m args below meth c T locs cells slots) (hx : p.tables.exec = Jvm.exec) (hZ : Z.Warmed39 s.vm) (eT : T.heap = h) {a : Addr} {z j : Int32} {rest : List Value} (A : Ax Z h a .byte z) (hj : ¬ j < 0 ∧ j < z) (hd : decode c.code pc = .ok (.baload, 1)) (hn : pc + 1 = n) (K : ∀ v : Int32, Ends p.tables e below Q F (T.setTop (mkF m n Ls (.int v :: rest)))) : Ends p.tables e below Q F (T.setTop (mkF m pc Ls (.int j :: .ref a :: rest))) := by
  obtain ⟨k, vs, -, A⟩ := A
  have A1 := A
  obtain ⟨cl, Ar, -, Sz, Nz, Hs, Gs⟩ := A1
  have hin := inb_of Sz hj
  have G := Gs j.toNatClampNeg (Nat.lt_of_not_le fun y => hin (Or.inr y))
  obtain ⟨v, hv⟩ := fit_I G (Or.inr (Or.inr (Or.inl rfl)))
  exact baload n X hx hZ eT v A hj hv hd hn (K v)
theorem axStoreI (n : Nat) (X : Stand p l e R s m args below meth c T locs cells slots) (hx : p.tables.exec = Jvm.exec) (hZ : Z.Warmed39 s.vm) (eT : T.heap = h) {a : Addr} {z j : Int32} {x : Int32} {rest : List Value} (A : Ax Z h a .int z) (hj : ¬ j < 0 ∧ j < z) (hd : decode c.code pc = .ok (.iastore, 1)) (hn : pc + 1 = n) (K : ∀ T' h', Stand p l e R s m args below meth c T' (locs ++ [⟨a, j.toNatClampNeg⟩]) cells slots → T'.heap = h' → Wr h h' a j.toNatClampNeg (.int x) → Ax Z h' a .int z → Ends p.tables e below Q F (T'.setTop (mkF m n Ls (rest)))) : Ends p.tables e below Q F (T.setTop (mkF m pc Ls (.int x :: .int j :: .ref a :: rest))) := by
  obtain ⟨k, vs, hl, A⟩ := A
  have hjz : j.toNatClampNeg < z.toNatClampNeg := by
    have h1 := nat_of hj.1
    have h2 := hj.2
    have h3 := nat_of (Ax.nn ⟨k, vs, hl, A⟩)
    rw [Int32.lt_iff_toInt_lt] at h2
    omega
  exact iastore n X hx hZ eT A hj (by rw [hl]; exact hjz) hd hn (fun T1 h1 X1 e1 W1 A1 => K T1 h1 X1 e1 W1 ⟨k, _, by rw [List.length_set, hl], A1⟩)
theorem axStoreJ (n : Nat) (X : Stand p l e R s m args below meth c T locs cells slots) (hx : p.tables.exec = Jvm.exec) (hZ : Z.Warmed39 s.vm) (eT : T.heap = h) {a : Addr} {z j : Int32} {x : Int64} {rest : List Value} (A : Ax Z h a .long z) (hj : ¬ j < 0 ∧ j < z) (hd : decode c.code pc = .ok (.lastore, 1)) (hn : pc + 1 = n) (K : ∀ T' h', Stand p l e R s m args below meth c T' (locs ++ [⟨a, j.toNatClampNeg⟩]) cells slots → T'.heap = h' → Wr h h' a j.toNatClampNeg (.long x) → Ax Z h' a .long z → Ends p.tables e below Q F (T'.setTop (mkF m n Ls (rest)))) : Ends p.tables e below Q F (T.setTop (mkF m pc Ls (.long x :: .int j :: .ref a :: rest))) := by
  obtain ⟨k, vs, hl, A⟩ := A
  have hjz : j.toNatClampNeg < z.toNatClampNeg := by
    have h1 := nat_of hj.1
    have h2 := hj.2
    have h3 := nat_of (Ax.nn ⟨k, vs, hl, A⟩)
    rw [Int32.lt_iff_toInt_lt] at h2
    omega
  exact lastore n X hx hZ eT A hj (by rw [hl]; exact hjz) hd hn (fun T1 h1 X1 e1 W1 A1 => K T1 h1 X1 e1 W1 ⟨k, _, by rw [List.length_set, hl], A1⟩)
theorem axStoreB (n : Nat) (X : Stand p l e R s m args below meth c T locs cells slots) (hx : p.tables.exec = Jvm.exec) (hZ : Z.Warmed39 s.vm) (eT : T.heap = h) {a : Addr} {z j : Int32} {x : Int32} {rest : List Value} (A : Ax Z h a .byte z) (hj : ¬ j < 0 ∧ j < z) (hd : decode c.code pc = .ok (.bastore, 1)) (hn : pc + 1 = n) (K : ∀ T' h', Stand p l e R s m args below meth c T' (locs ++ [⟨a, j.toNatClampNeg⟩]) cells slots → T'.heap = h' → Wr h h' a j.toNatClampNeg (.int x.toInt8.toInt32) → Ax Z h' a .byte z → Ends p.tables e below Q F (T'.setTop (mkF m n Ls (rest)))) : Ends p.tables e below Q F (T.setTop (mkF m pc Ls (.int x :: .int j :: .ref a :: rest))) := by
  obtain ⟨k, vs, hl, A⟩ := A
  have hjz : j.toNatClampNeg < z.toNatClampNeg := by
    have h1 := nat_of hj.1
    have h2 := hj.2
    have h3 := nat_of (Ax.nn ⟨k, vs, hl, A⟩)
    rw [Int32.lt_iff_toInt_lt] at h2
    omega
  exact bastore n X hx hZ eT A hj (by rw [hl]; exact hjz) hd hn (fun T1 h1 X1 e1 W1 A1 => K T1 h1 X1 e1 W1 ⟨k, _, by rw [List.length_set, hl], A1⟩)
theorem axNew (n cap : Nat) (X : Stand p l e R s m args below meth c T locs cells slots) (hx : p.tables.exec = Jvm.exec) (hZ : Z.Warmed39 s.vm) {aty : ArrayType} (w : (Cond.arrayClass (newarray.typeOf aty)).before a0 Z = true) (eT : T.heap = h) {z : Int32} {rest : List Value} (hz : ¬ z < 0) (hcap : z.toNatClampNeg ≤ cap) (hb : cap * 8 ≤ 536870912) (hd : decode c.code pc = .ok (.newarray aty, 2)) (hn : pc + 2 = n) (hc : cells + 1 ≤ R.cells) (hl : slots + cap ≤ R.slots) (K : ∀ T' h' a, a = h.size → Stand p l e R s m args below meth c T' locs (cells + 1) (slots + cap) → T'.heap = h' → Ext h h' → Ax Z h' a (newarray.typeOf aty) z → Ends p.tables e below Q F (T'.setTop (mkF m n Ls (.ref a :: rest)))) : Ends p.tables e below Q F (T.setTop (mkF m pc Ls (.int z :: rest))) :=
  newArr n cap X hx hZ w eT hz hcap hb hd hn hc hl (fun T1 h1 a k q X1 e1 E1 A1 => K T1 h1 a q X1 e1 E1 ⟨k, _, List.length_replicate, A1⟩)
theorem axCopy (n W : Nat) (X : Stand p l e R s m args below meth c T locs cells slots) (hx : p.tables.exec = Jvm.exec) (hZ : Z.Warmed39 s.vm) {own : String} {index : Nat} (hown : s.vm.findClass own = some m.cls) (w1 : (Cond.methodLink own index Jvm.Stand.acN).before a0 Z = true) (w2 : (Cond.native Jvm.Stand.acN).before a0 Z = true) (w3 : (Cond.static Jvm.Stand.acN).before a0 Z = true) (w4 : (Cond.initialized "java/lang/System").before a0 Z = true) (eT : T.heap = h) {a b : Addr} {ty : FieldType} {z z2 sp dp nn : Int32} (A : Ax Z h a ty z) (B : Ax Z h b ty z2) (hty : refKind ty = false) (h1 : ¬ sp < 0) (h2 : ¬ dp < 0) (h3 : ¬ nn < 0) (h4 : sp.toNatClampNeg + nn.toNatClampNeg ≤ z.toNatClampNeg) (h5 : dp.toNatClampNeg + nn.toNatClampNeg ≤ z2.toNatClampNeg) {n0 : Nat} (N : Fr n0 locs) (ge : n0 ≤ b) (hsz : Ls.size = c.maxLocals) {rest : List Value} (hd : decode c.code pc = .ok (.invokestatic index, 3)) (hn : pc + 3 = n) (hf : 1 ≤ R.frames) (hW : (rest.map fun v => v.category).sum ≤ W) (hlo : W + (nativeFrameWords "java/lang/System" "arraycopy" 5 + 11) ≤ R.locals) (K : ∀ T' h' L, Stand p l e R s m args below meth c T' L cells slots → T'.heap = h' → Fr n0 L → Keep h h' [b] → Ax Z h' b ty z2 → Ends p.tables e below Q F (T'.setTop (mkF m n Ls (rest)))) : Ends p.tables e below Q F (T.setTop (mkF m pc Ls (.int nn :: .int dp :: .ref b :: .int sp :: .ref a :: rest))) := by
  obtain ⟨k, vs, hl, A⟩ := A
  obtain ⟨k2, vd, hl2, B⟩ := B
  exact arrCopy n W X hx hZ hown w1 w2 w3 w4 eT A B hty h1 h2 h3 h4 h5 (by rw [hl2]; exact h5) N ge hsz hd hn hf hW hlo (fun T1 hh1 L1 vs1 X1 e1 N1 K1 _ q V1 => K T1 hh1 L1 X1 e1 N1 K1 ⟨k2, vs1, q.trans hl2, V1⟩)
theorem acmp_ne (nY nN : Nat) (X : Stand p l e R s m args below meth c T locs cells slots) (hx : p.tables.exec = Jvm.exec) {o : Int} {x y : Value} {rest : List Value} (hd : decode c.code pc = .ok (.if_acmp .ne o, 3)) (h1 : x.isRef = true) (h2 : y.isRef = true) (hY : 0 ≤ (pc : Int) + o ∧ ((pc : Int) + o).toNat = nY) (hN : pc + 3 = nN) (KY : ¬ x = y → Ends p.tables e below Q F (T.setTop (mkF m nY Ls (rest)))) (KN : x = y → Ends p.tables e below Q F (T.setTop (mkF m nN Ls (rest)))) : Ends p.tables e below Q F (T.setTop (mkF m pc Ls (y :: x :: rest))) := by
  subst hN
  by_cases q : x = y
  · exact (KN q).step fun t k => acmp (g := mkF m pc Ls (y :: x :: rest)) X hx rfl h1 h2 (pc0 := pc) (pc' := pc + 3) (same := true) rfl hd rfl (decide_eq_true q) hY.1 rfl k
  · exact (KY q).step fun t k => acmp (g := mkF m pc Ls (y :: x :: rest)) X hx rfl h1 h2 (pc0 := pc) (pc' := nY) (same := false) rfl hd rfl (decide_eq_false q) hY.1 hY.2.symm k
theorem acmp_eq (nY nN : Nat) (X : Stand p l e R s m args below meth c T locs cells slots) (hx : p.tables.exec = Jvm.exec) {o : Int} {x y : Value} {rest : List Value} (hd : decode c.code pc = .ok (.if_acmp .eq o, 3)) (h1 : x.isRef = true) (h2 : y.isRef = true) (hY : 0 ≤ (pc : Int) + o ∧ ((pc : Int) + o).toNat = nY) (hN : pc + 3 = nN) (KY : x = y → Ends p.tables e below Q F (T.setTop (mkF m nY Ls (rest)))) (KN : ¬ x = y → Ends p.tables e below Q F (T.setTop (mkF m nN Ls (rest)))) : Ends p.tables e below Q F (T.setTop (mkF m pc Ls (y :: x :: rest))) := by
  subst hN
  by_cases q : x = y
  · exact (KY q).step fun t k => acmp (g := mkF m pc Ls (y :: x :: rest)) X hx rfl h1 h2 (pc0 := pc) (pc' := nY) (same := true) rfl hd rfl (decide_eq_true q) hY.1 hY.2.symm k
  · exact (KN q).step fun t k => acmp (g := mkF m pc Ls (y :: x :: rest)) X hx rfl h1 h2 (pc0 := pc) (pc' := pc + 3) (same := false) rfl hd rfl (decide_eq_false q) hY.1 rfl k
theorem callInitB (n W rc rs : Nat) (a : Addr) (argsL rest : List Value) (X : Stand p l e R s m args below meth c T locs cells slots) (hx : p.tables.exec = Jvm.exec) (hZ : Z.Warmed39 s.vm) {own : String} {index : Nat} {y : MethodName} {bytes : ByteArray} {maxL : Nat} {QQ : Option Value → Heap → List Loc → Prop} (hown : s.vm.findClass own = some m.cls) (hB : Back l R p e below s args y 3 W (fun P a' => a' = (.ref a :: argsL).toArray ∧ P.U.heap = h ∧ P.cells + rc ≤ R.cells ∧ P.slots + rs ≤ R.slots) (fun P _ v B => ∃ L, QQ v B.U.heap L ∧ B.locs = P.locs ++ L ∧ B.cells = P.cells + rc ∧ B.slots = P.slots + rs)) (hy1 : y.name = "<init>") (wl : (Cond.methodLink own index y).before a0 Z = true) (ws : (Cond.instanceMethod y).before a0 Z = true) (wc : (Cond.code y bytes maxL none).before a0 Z = true) (hy : y.cls ≠ "java/lang/invoke/MethodHandle" ∧ y.cls ≠ "java/lang/invoke/VarHandle") (eT : T.heap = h) (hc : cells + rc ≤ R.cells) (hs : slots + rs ≤ R.slots) (hsz : Ls.size = c.maxLocals) (hlen : ∀ sig, parseMethodDescriptor y.desc = some sig → argsL.length = sig.parameters.length) (hst : st = argsL.reverse ++ .ref a :: rest) (hW : (rest.map fun v => v.category).sum ≤ W) (hd : decode c.code pc = .ok (.invokespecial index, 3)) (hn : pc + 3 = n) (K : ∀ v T' L', Stand p l e R s m args below meth c T' (locs ++ L') (cells + rc) (slots + rs) → QQ v T'.heap L' → Ends p.tables e below Q F (T'.setTop (mkF m n Ls (v.toList ++ rest)))) : Ends p.tables e below Q F (T.setTop (mkF m pc Ls (st))) := by
  subst hn
  obtain ⟨v, vm1, ⟨T1, L1, k1, n1⟩, -, X1, ⟨Lc, hQ, l1, y1, z1⟩, st1⟩ := X.specialBack hx (y := y) hy1 hown (mvT hZ wl) (mvT hZ ws) (mvT hZ wc) hy hB (g := mkF m pc Ls st) rfl hsz (Steps.refl _) (a := a) (argsL := argsL) (rest := rest) hlen hst (by show 2 * 0 + _ ≤ _; omega) hd (fun _ _ => ⟨rfl, eT, hc, hs⟩)
  dsimp only [Pt.U, Pt.locs, Pt.cells, Pt.slots] at X1 l1 y1 z1 st1 hQ
  subst l1 y1 z1
  exact (K v T1 Lc X1 hQ).step fun t k => st1.trans k
theorem callVtB (n W rc rs : Nat) (a : Addr) (argsL rest : List Value) (X : Stand p l e R s m args below meth c T locs cells slots) (hx : p.tables.exec = Jvm.exec) (hZ : Z.Warmed39 s.vm) {own CC : String} {index : Nat} {y z : MethodName} {QQ : Option Value → Heap → List Loc → Prop} (hown : s.vm.findClass own = some m.cls) (hB : Back l R p e below s args z 3 W (fun P a' => a' = (.ref a :: argsL).toArray ∧ P.U.heap = h ∧ P.cells + rc ≤ R.cells ∧ P.slots + rs ≤ R.slots) (fun P _ v B => ∃ L, QQ v B.U.heap L ∧ B.locs = P.locs ++ L ∧ B.cells = P.cells + rc ∧ B.slots = P.slots + rs)) (E : Exa Z h a CC) (hnf : NotFace s y) (wl : (Cond.methodLink own index y).before a0 Z = true) (wd : (Cond.declares y).before a0 Z = true) (wsel : (Cond.selects CC y z).before a0 Z = true) (ws : (Cond.instanceMethod z).before a0 Z = true) (hy : y.cls ≠ "java/lang/invoke/MethodHandle" ∧ y.cls ≠ "java/lang/invoke/VarHandle") (eT : T.heap = h) (hc : cells + rc ≤ R.cells) (hs : slots + rs ≤ R.slots) (hsz : Ls.size = c.maxLocals) (hlen : ∀ sig, parseMethodDescriptor y.desc = some sig → argsL.length = sig.parameters.length) (hst : st = argsL.reverse ++ .ref a :: rest) (hW : (rest.map fun v => v.category).sum ≤ W) (hd : decode c.code pc = .ok (.invokevirtual index, 3)) (hn : pc + 3 = n) (K : ∀ v T' L', Stand p l e R s m args below meth c T' (locs ++ L') (cells + rc) (slots + rs) → QQ v T'.heap L' → Ends p.tables e below Q F (T'.setTop (mkF m n Ls (v.toList ++ rest)))) : Ends p.tables e below Q F (T.setTop (mkF m pc Ls (st))) := by
  subst hn
  obtain ⟨cq, kq, qa, qb, qc⟩ := isOf hZ eT E
  obtain ⟨v, vm1, ⟨T1, L1, k1, n1⟩, -, X1, ⟨Lc, hQ, l1, y1, z1⟩, st1⟩ := X.virtualBack hx (y := y) (z := z) hown (mvT hZ wl) (mvT hZ wd) hnf (mvT hZ wsel) (mvT hZ ws) hy hB qa qc (g := mkF m pc Ls st) rfl hsz (Steps.refl _) (argsL := argsL) (rest := rest) hlen hst (by show 2 * 0 + _ ≤ _; omega) hd (fun _ _ => ⟨rfl, eT, hc, hs⟩)
  dsimp only [Pt.U, Pt.locs, Pt.cells, Pt.slots] at X1 l1 y1 z1 st1 hQ
  subst l1 y1 z1
  exact (K v T1 Lc X1 hQ).step fun t k => st1.trans k
theorem eqI_v {t : Term} {k : Int32} {as : Array Value} (q : (Cond.eq t (.int k)).value as s none s [] = some true) : t.eval as s none [] s = some (.int k) := by
  cases ht : t.eval as s none [] s with
  | none => simp [Cond.value, ht] at q
  | some x => cases x <;> simp [Cond.value, Term.eval, ht] at q ⊢; exact q
theorem eqR_v {t u : Term} {b : Addr} {as : Array Value} (hu : u.eval as s none [] s = some (.ref b)) (q : (Cond.eq t u).value as s none s [] = some true) : t.eval as s none [] s = some (.ref b) := by
  cases ht : t.eval as s none [] s with
  | none => simp [Cond.value, ht] at q
  | some x => cases x <;> simp [Cond.value, hu, ht] at q ⊢; exact q
theorem Ends.wide {tb : Tables} {U : State} (k : Ends tb e below Q (FE s C S) U) : Ends tb e below Q (FW s C S) U := by
  obtain ⟨s₂, o, h1, h2, h3, v, L, h4, h5, h6⟩ := k
  exact ⟨s₂, o, h1, h2, h3, v, L, h4, h5, Jvm.RoadKit.wide h6⟩
theorem Ends.since {tb : Tables} {U : State} {vm1 : Vm} {k1 : Nat} (hS : s.Since vm1 k1) (k : Ends tb e below (fun v hh L => Q v hh L ∧ k1 ≤ hh.size) (FE (s.setVm vm1) C S) U) : Ends tb e below Q (FW s C S) U := by
  obtain ⟨s₂, o, h1, h2, h3, v, L, h4, ⟨h5, hk⟩, h6, h7, h8⟩ := k
  obtain ⟨a, b, d⟩ := hS.ended (U := s₂) h7 hk h8
  exact ⟨s₂, o, h1, h2, h3, v, L, h4, h5, h6, a, b, d⟩
theorem ldcStr (n cap : Nat) (X : Stand p l e R s m args below meth c T locs cells slots) (hx : p.tables.exec = Jvm.exec) (hZ : Z.Warmed39 s.vm) {own text : String} {index : Nat} (hown : s.vm.findClass own = some m.cls) (w : (Cond.stringLink own index text).before a0 Z = true) (wS : ∀ a ∈ Bundle.stringAtoms, a.before a0 Z = true) (eT : T.heap = h) (hd : decode c.code pc = .ok (.ldc index, 2)) (hn : pc + 2 = n) (hcap : 4 * text.toList.length ≤ cap) (hbig : cap ≤ 536870912) (hc : cells + 2 ≤ R.cells) (hl : slots + (cap + 4) ≤ R.slots) (K : ∀ (a : Addr) (T' : State) (h' : Heap), Stand p l e R (s.setVm T'.vm) m args below meth c T' locs (cells + 2) (slots + (cap + 4)) → T'.heap = h' → Ext h h' → Z.Warmed39 (s.setVm T'.vm).vm → (s.setVm T'.vm).vm.findClass own = some m.cls → Ends p.tables e below (fun v hh L => Q v hh L ∧ h'.size ≤ hh.size) (FE (s.setVm T'.vm) C S) (T'.setTop (mkF m n Ls (.ref a :: st)))) : Ends p.tables e below Q (FW s C S) (T.setTop (mkF m pc Ls st)) := by
  subst hn
  obtain ⟨a, T1, h1, k1, X1, e1, E1, S1, hk1, Z1, o1, st1⟩ := ldcS (s := s) (vm0 := s.vm) X hx hZ hown w wS eT (k0 := 0) ⟨State.Warmed39.refl s, fun j p hj hp => absurd (Array.getElem?_eq_some_iff.mp hp).1 (Nat.not_lt.mpr hj)⟩ (Nat.zero_le _) (g := mkF m pc Ls st) rfl hd hcap hbig hc hl
  exact Ends.since S1 (Ends.mono ((K a T1 h1 X1 e1 E1 Z1 o1).step st1) (fun v hh L q => ⟨q.1, Nat.le_trans hk1 q.2⟩))
/-- the contract of a body that may load a String constant -/
def MetW (l : Launch) (Z : State) (y : MethodName) (bytes : ByteArray) (maxL : Nat) (ret : Option FieldType) (ws : List Cond) (rm : Room) (as : Array Value) (h : Heap) (QQ : Option Value → Heap → List Loc → Prop) : Prop :=
  MetFree l y (head1 (Cond.code y bytes maxL ret :: ws) rm) (fun a U => a = as ∧ Z.Warmed39 U.vm ∧ U.heap = h) (fun _ _ _ _ _ => True) (fun _ U o U' => ∃ v L, o = .returned v ∧ QQ v U'.heap L ∧ ReturnedEndW U o U' L rm.cells rm.slots)
theorem MetW.of {y : MethodName} {bytes : ByteArray} {maxL : Nat} {ret : Option FieldType} {ws : List Cond} {rm : Room} {as : Array Value} {QQ : Option Value → Heap → List Loc → Prop} (hp : plainFor y = true)
    (body : ∀ (p : Program) (e : Env) (s : State) (m : MethodId) (below : List Frame) (meth : Method) (c : Code) (T : State), p.tables.exec = Jvm.exec → c.code = bytes → c.maxLocals = maxL → s.vm.findClass y.cls = some m.cls → meth.name = y.name → meth.sig.returnType = ret → meth.locks = false → Z.Warmed39 s.vm → Stand p l e rm s m as below meth c T [] 0 0 → T.heap = h → Ends p.tables e below QQ (FW s rm.cells rm.slots) (T.setTop (entryFrame m as maxL))) :
    MetW l Z y bytes maxL ret ws rm as h QQ := by
  refine MetFree.of_bodySF hp hisR ?_
  intro p e s m args below meth c s₁ Bd hml0 hP hK
  obtain ⟨rfl, hZ, hh⟩ := hP
  exact body p e s m below meth c s₁ Bd.exec Bd.bytes hml0 (findClass_of_methodNamed Bd.named) (name_of_methodNamed Bd.named Bd.method).1 Bd.returns Bd.notSynchronized hZ (Stand.of_body Bd) (by rw [← hh, Bd.state]; rfl)
theorem newRefArr (n cap : Nat) (X : Stand p l e R s m args below meth c T locs cells slots) (hx : p.tables.exec = Jvm.exec) (hZ : Z.Warmed39 s.vm) {own CC : String} {index : Nat} (hown : s.vm.findClass own = some m.cls) (w1 : (Cond.classLink own index CC).before a0 Z = true) (w2 : (Cond.arrayOver (.object CC)).before a0 Z = true) (eT : T.heap = h) {z : Int32} {rest : List Value} (hz : ¬ z < 0) (hcap : z.toNatClampNeg ≤ cap) (hb : cap * 8 ≤ 536870912) (hd : decode c.code pc = .ok (.anewarray index, 3)) (hn : pc + 3 = n) (hc : cells + 1 ≤ R.cells) (hl : slots + cap ≤ R.slots) (K : ∀ T' h' a k, a = h.size → Stand p l e R s m args below meth c T' locs (cells + 1) (slots + cap) → T'.heap = h' → Ext h h' → Arv Z h' a k (.object CC) z (List.replicate z.toNatClampNeg .null) .null → Ovr Z k CC → Ends p.tables e below Q F (T'.setTop (mkF m n Ls (.ref a :: rest)))) : Ends p.tables e below Q F (T.setTop (mkF m pc Ls (.int z :: rest))) := by
  subst hn
  obtain ⟨T1, h1, k1, X1, e1, E1, A1, O1, st1⟩ := newR X hx hZ hown w1 w2 eT (g := mkF m pc Ls (.int z :: rest)) rfl hd rfl hz (cap := cap) hcap hb hc hl
  exact (K T1 h1 _ k1 rfl X1 e1 E1 ((Arv.new A1 hz).pad (pad_rep [] _ _)) O1).step st1
theorem aastore (n : Nat) (X : Stand p l e R s m args below meth c T locs cells slots) (hx : p.tables.exec = Jvm.exec) (hZ : Z.Warmed39 s.vm) (eT : T.heap = h) {a : Addr} {k : ClassId} {z j : Int32} {ty : FieldType} {v : Value} {vs : List Value} {dv : Value} {rest : List Value} (A : Arv Z h a k ty z vs dv) (hty : ty.isReference = true) (hv : fits ty v = true) (hS : Sto Z h a v) (hj : ¬ j < 0 ∧ j < z) (hlen : j.toNatClampNeg < vs.length) (hd : decode c.code pc = .ok (.aastore, 1)) (hn : pc + 1 = n) (K : ∀ T' h', Stand p l e R s m args below meth c T' (locs ++ [⟨a, j.toNatClampNeg⟩]) cells slots → T'.heap = h' → Wr h h' a j.toNatClampNeg v → Arv Z h' a k ty z (vs.set j.toNatClampNeg v) dv → Ends p.tables e below Q F (T'.setTop (mkF m n Ls (rest)))) : Ends p.tables e below Q F (T.setTop (mkF m pc Ls (v :: .int j :: .ref a :: rest))) := by
  subst hn
  obtain ⟨cl, Ar, q1, Sz, Nz, Hs, Gs⟩ := A
  obtain ⟨T1, h1, X1, e1, W1, st1⟩ := stR X hx hZ eT Ar (j := j) (inb_of Sz hj) hty hS (g := mkF m pc Ls (v :: .int j :: .ref a :: rest)) rfl rfl hd
  exact (K T1 h1 X1 e1 W1 (Arv.set Ar q1 Sz Nz Hs Gs hv W1 _ rfl hlen)).step st1
end Walk
end Jvm.Own
namespace Jvm.Pilot.@@N@@
open Jvm Jvm.ClassFile Sem Op Lib Jvm.Free Jvm.Stand Jvm.LawKit Jvm.RoadKit Bundle Jvm.Pilot.@@N@@.Jvm.D
theorem pd_0 : parseMethodDescriptor "(I)I" = some ⟨[.int], some .int⟩ := by decide +kernel
theorem pd_1 : parseMethodDescriptor "(Ljava/lang/String;[Ljava/lang/String;[II)V" = some ⟨[(.object "java/lang/String"), (.array (.object "java/lang/String")), (.array .int), .int], none⟩ := by decide +kernel
theorem pd_2 : parseMethodDescriptor "()[I" = some ⟨[], some (.array .int)⟩ := by decide +kernel
theorem pd_3 : parseMethodDescriptor "()I" = some ⟨[], some .int⟩ := by decide +kernel

def own_f (xs : List Int32) : List Int32 := xs.filter fun x => decide (¬ x < 0)
theorem own_five (x : Int32) : 0 ≤ ((x &&& 2147483647) % 5).toInt ∧ ((x &&& 2147483647) % 5).toInt < 5 := by
  have a := c_mask x 2147483647 31 (by decide) (by decide)
  have b := c_irem (x &&& 2147483647) 5 5 (by decide)
  omega
theorem own_four {x : Int32} (h : 0 ≤ x.toInt ∧ x.toInt < 5) (h0 : ¬ x = 0) (h1 : ¬ x = 1) (h2 : ¬ x = 2) (h3 : ¬ x = 3) : x = 4 := by
  simp only [← Int32.toInt_inj, show (0 : Int32).toInt = 0 from by decide, show (1 : Int32).toInt = 1 from by decide, show (2 : Int32).toInt = 2 from by decide, show (3 : Int32).toInt = 3 from by decide, show (4 : Int32).toInt = 4 from by decide] at *
  omega

theorem d1_0 : decode method_3_code 0 = .ok (.iload_n 0, 1) := by decide +kernel
theorem d1_1 : decode method_3_code 1 = .ok (.ifCond .ge 7, 3) := by decide +kernel
theorem d1_4 : decode method_3_code 4 = .ok (.iconst (-1), 1) := by decide +kernel
theorem d1_5 : decode method_3_code 5 = .ok (.goto 4, 3) := by decide +kernel
theorem d1_8 : decode method_3_code 8 = .ok (.iload_n 0, 1) := by decide +kernel
theorem d1_9 : decode method_3_code 9 = .ok (.ireturn, 1) := by decide +kernel
set_option maxRecDepth 65536 in
set_option maxHeartbeats 40000000 in
theorem m1 (l : Launch) (Z : State) (a0 : Array Value) (w : ∀ (i : Nat) {d : Jvm.Cond}, tables_1[i]? = some d → d.before a0 Z = true) (x0 : Int32)  (h0 : Heap)  :
    Own.Met l Z (⟨"com/example/skuld/skuld/htn/PatternSlotsPinLaw", "dom", "(I)I"⟩ : MethodName) method_3_code 1 (some .int) [] ({ frames := 0, cells := 0, slots := 0, locals := 0 } : Room) #[(.int x0)] h0 (fun v h L => v = some (.int (if x0 < 0 then -1 else x0)) ∧ h = h0 ∧ L = []) := by
  refine Own.Met.of (plainFor_of_name (by first | (simp [plainName, overriddenIn]; done) | decide +kernel)) ?_
  intro p e s m below meth c T0 hx hby hml hown hnm hret hlk hZ X0 e0
  have hown : s.vm.findClass "com/example/skuld/skuld/htn/PatternSlotsPinLaw" = some m.cls := hown
  have hml : c.maxLocals = 1 := hml
  have hnm : meth.name = "dom" := hnm
  have ef : entryFrame m #[(.int x0)] 1 = mkF m 0 #[.val (.int x0)] [] := by first | (simp [entryFrame, mkF, argsToLocals, Value.category]; done) | rfl
  rw [ef]
  refine Own.iloadN 1 X0 hx (hb hby d1_0) rfl rfl ?_
  refine Own.if_ge 8 4 X0 hx (hb hby d1_1) (by decide) rfl (fun h1 => ?_) (fun h1 => ?_)
  ·
    refine Own.iloadN 9 X0 hx (hb hby d1_8) rfl rfl ?_
    refine Own.retInt X0 hx hlk hret (hb hby d1_9) (by decide) (by decide) ?_
    exact ⟨by rw [if_neg h1], e0, rfl⟩
  ·
    refine Own.iconst 5 X0 hx ((-1 : Int32)) (hb hby d1_4) rfl rfl ?_
    refine Own.goto 9 X0 hx (hb hby d1_5) (by decide) ?_
    refine Own.retInt X0 hx hlk hret (hb hby d1_9) (by decide) (by decide) ?_
    exact ⟨by rw [if_pos h1], e0, rfl⟩
theorem d2_0 : decode prog_53_method_1_code 0 = .ok (.aload_n 0, 1) := by decide +kernel
theorem d2_1 : decode prog_53_method_1_code 1 = .ok (.invokespecial 1, 3) := by decide +kernel
theorem d2_4 : decode prog_53_method_1_code 4 = .ok (.aload_n 0, 1) := by decide +kernel
theorem d2_5 : decode prog_53_method_1_code 5 = .ok (.aload_n 1, 1) := by decide +kernel
theorem d2_6 : decode prog_53_method_1_code 6 = .ok (.putfield 7, 3) := by decide +kernel
theorem d2_9 : decode prog_53_method_1_code 9 = .ok (.aload_n 0, 1) := by decide +kernel
theorem d2_10 : decode prog_53_method_1_code 10 = .ok (.aload_n 2, 1) := by decide +kernel
theorem d2_11 : decode prog_53_method_1_code 11 = .ok (.putfield 13, 3) := by decide +kernel
theorem d2_14 : decode prog_53_method_1_code 14 = .ok (.aload_n 0, 1) := by decide +kernel
theorem d2_15 : decode prog_53_method_1_code 15 = .ok (.aload_n 3, 1) := by decide +kernel
theorem d2_16 : decode prog_53_method_1_code 16 = .ok (.putfield 17, 3) := by decide +kernel
theorem d2_19 : decode prog_53_method_1_code 19 = .ok (.aload_n 0, 1) := by decide +kernel
theorem d2_20 : decode prog_53_method_1_code 20 = .ok (.iload 4, 2) := by decide +kernel
theorem d2_22 : decode prog_53_method_1_code 22 = .ok (.putfield 21, 3) := by decide +kernel
theorem d2_25 : decode prog_53_method_1_code 25 = .ok (.return_, 1) := by decide +kernel
set_option maxRecDepth 65536 in
set_option maxHeartbeats 40000000 in
theorem m2 (l : Launch) (Z : State) (a0 : Array Value) (w : ∀ (i : Nat) {d : Jvm.Cond}, tables_1[i]? = some d → d.before a0 Z = true) (a : Addr) (st : Addr) (cn : Addr) (sl : Addr) (x4 : Int32) (u1 u2 u3 u4 : Value) (n0 : Nat) (h0 : Heap) (Z0 : n0 ≤ h0.size) (E_a : Exa Z h0 a "com/example/skuld/skuld/htn/Pattern") (F1 : Fld Z h0 a "com/example/skuld/skuld/htn/Pattern" "name" "Ljava/lang/String;" u1) (F2 : Fld Z h0 a "com/example/skuld/skuld/htn/Pattern" "constants" "[Ljava/lang/String;" u2) (F3 : Fld Z h0 a "com/example/skuld/skuld/htn/Pattern" "slots" "[I" u3) (F4 : Fld Z h0 a "com/example/skuld/skuld/htn/Pattern" "line" "I" u4) (g_a : n0 ≤ a) :
    Own.Met l Z (⟨"com/example/skuld/skuld/htn/Pattern", "<init>", "(Ljava/lang/String;[Ljava/lang/String;[II)V"⟩ : MethodName) prog_53_method_1_code 5 none [] ({ frames := 1, cells := 0, slots := 0, locals := 12 } : Room) #[(.ref a), (.ref st), (.ref cn), (.ref sl), (.int x4)] h0 (fun v h L => v = none ∧ Fr n0 L ∧ Keep h0 h [a] ∧ Fld Z h a "com/example/skuld/skuld/htn/Pattern" "slots" "[I" (.ref sl)) := by
  refine Own.Met.of (plainFor_of_name (by first | (simp [plainName, overriddenIn]; done) | decide +kernel)) ?_
  intro p e s m below meth c T0 hx hby hml hown hnm hret hlk hZ X0 e0
  have hown : s.vm.findClass "com/example/skuld/skuld/htn/Pattern" = some m.cls := hown
  have hml : c.maxLocals = 5 := hml
  have hnm : meth.name = "<init>" := hnm
  have ef : entryFrame m #[(.ref a), (.ref st), (.ref cn), (.ref sl), (.int x4)] 5 = mkF m 0 #[.val (.ref a), .val (.ref st), .val (.ref cn), .val (.ref sl), .val (.int x4)] [] := by first | (simp [entryFrame, mkF, argsToLocals, Value.category]; done) | rfl
  rw [ef]
  have N0 := Fr.nil n0
  refine Own.aloadN 1 X0 hx (hb hby d2_0) rfl rfl rfl ?_
  refine Own.initObj 4 0 X0 hx hZ hown (w 22 rfl) (w 23 rfl) (w 24 rfl) e0 (by rw [hml]; rfl) (hb hby d2_1) rfl (by decide) (Nat.le_of_eq rfl) (by decide) ?_
  intro T1 X1 e1
  refine Own.aloadN 5 X1 hx (hb hby d2_4) rfl rfl rfl ?_
  refine Own.aloadN 6 X1 hx (hb hby d2_5) rfl rfl rfl ?_
  refine Own.putFld 9 X1 hx hZ hown (host := "") (Or.inl (w 25 rfl)) Via.refl e1 F1 E_a (Or.inr ⟨(w 26 rfl), rfl, hnm⟩) (w 9 rfl) (ty := (.object "java/lang/String")) (by decide) rfl rfl (hb hby d2_6) rfl ?_
  intro T2 h2 X2 e2 W2
  have N2 := Fr.snoc X2 N0 g_a
  have Ef_4 := E_a.wr W2
  have Ff_5 := F1.same W2
  have Ff_6 := F2.other W2 (Or.inr (slot_ne (Or.inr (w 28 rfl)) (Or.inr (w 26 rfl)) (by decide) (t := (.array (.object "java/lang/String"))) (t' := (.object "java/lang/String")) (by decide) (by decide)))
  have Ff_7 := F3.other W2 (Or.inr (slot_ne (Or.inr (w 30 rfl)) (Or.inr (w 26 rfl)) (by decide) (t := (.array .int)) (t' := (.object "java/lang/String")) (by decide) (by decide)))
  have Ff_8 := F4.other W2 (Or.inr (slot_ne (Or.inr (w 32 rfl)) (Or.inr (w 26 rfl)) (by decide) (t := .int) (t' := (.object "java/lang/String")) (by decide) (by decide)))
  have zl2 := Nat.le_trans Z0 (Nat.le_of_eq W2.size.symm)
  have K2 := (Keep.refl h0 [a]).wr W2 (Or.inl (List.mem_of_getElem? (i := 0) rfl))
  refine Own.aloadN 10 X2 hx (hb hby d2_9) rfl rfl rfl ?_
  refine Own.aloadN 11 X2 hx (hb hby d2_10) rfl rfl rfl ?_
  refine Own.putFld 14 X2 hx hZ hown (host := "") (Or.inl (w 27 rfl)) Via.refl e2 Ff_6 Ef_4 (Or.inr ⟨(w 28 rfl), rfl, hnm⟩) (w 9 rfl) (ty := (.array (.object "java/lang/String"))) (by decide) rfl rfl (hb hby d2_11) rfl ?_
  intro T9 h9 X9 e9 W9
  have N9 := Fr.snoc X9 N2 g_a
  have Ef_11 := Ef_4.wr W9
  have Ff_12 := Ff_5.other W9 (Or.inr (slot_ne (Or.inr (w 26 rfl)) (Or.inr (w 28 rfl)) (by decide) (t := (.object "java/lang/String")) (t' := (.array (.object "java/lang/String"))) (by decide) (by decide)))
  have Ff_13 := Ff_6.same W9
  have Ff_14 := Ff_7.other W9 (Or.inr (slot_ne (Or.inr (w 30 rfl)) (Or.inr (w 28 rfl)) (by decide) (t := (.array .int)) (t' := (.array (.object "java/lang/String"))) (by decide) (by decide)))
  have Ff_15 := Ff_8.other W9 (Or.inr (slot_ne (Or.inr (w 32 rfl)) (Or.inr (w 28 rfl)) (by decide) (t := .int) (t' := (.array (.object "java/lang/String"))) (by decide) (by decide)))
  have zl9 := Nat.le_trans zl2 (Nat.le_of_eq W9.size.symm)
  have K9 := K2.wr W9 (Or.inl (List.mem_of_getElem? (i := 0) rfl))
  refine Own.aloadN 15 X9 hx (hb hby d2_14) rfl rfl rfl ?_
  refine Own.aloadN 16 X9 hx (hb hby d2_15) rfl rfl rfl ?_
  refine Own.putFld 19 X9 hx hZ hown (host := "") (Or.inl (w 29 rfl)) Via.refl e9 Ff_14 Ef_11 (Or.inr ⟨(w 30 rfl), rfl, hnm⟩) (w 9 rfl) (ty := (.array .int)) (by decide) rfl rfl (hb hby d2_16) rfl ?_
  intro T16 h16 X16 e16 W16
  have N16 := Fr.snoc X16 N9 g_a
  have Ef_18 := Ef_11.wr W16
  have Ff_19 := Ff_12.other W16 (Or.inr (slot_ne (Or.inr (w 26 rfl)) (Or.inr (w 30 rfl)) (by decide) (t := (.object "java/lang/String")) (t' := (.array .int)) (by decide) (by decide)))
  have Ff_20 := Ff_13.other W16 (Or.inr (slot_ne (Or.inr (w 28 rfl)) (Or.inr (w 30 rfl)) (by decide) (t := (.array (.object "java/lang/String"))) (t' := (.array .int)) (by decide) (by decide)))
  have Ff_21 := Ff_14.same W16
  have Ff_22 := Ff_15.other W16 (Or.inr (slot_ne (Or.inr (w 32 rfl)) (Or.inr (w 30 rfl)) (by decide) (t := .int) (t' := (.array .int)) (by decide) (by decide)))
  have zl16 := Nat.le_trans zl9 (Nat.le_of_eq W16.size.symm)
  have K16 := K9.wr W16 (Or.inl (List.mem_of_getElem? (i := 0) rfl))
  refine Own.aloadN 20 X16 hx (hb hby d2_19) rfl rfl rfl ?_
  refine Own.iload 22 X16 hx (hb hby d2_20) rfl rfl ?_
  refine Own.putFld 25 X16 hx hZ hown (host := "") (Or.inl (w 31 rfl)) Via.refl e16 Ff_22 Ef_18 (Or.inr ⟨(w 32 rfl), rfl, hnm⟩) (w 9 rfl) (ty := .int) (by decide) rfl rfl (hb hby d2_22) rfl ?_
  intro T23 h23 X23 e23 W23
  have N23 := Fr.snoc X23 N16 g_a
  have Ef_25 := Ef_18.wr W23
  have Ff_26 := Ff_19.other W23 (Or.inr (slot_ne (Or.inr (w 26 rfl)) (Or.inr (w 32 rfl)) (by decide) (t := (.object "java/lang/String")) (t' := .int) (by decide) (by decide)))
  have Ff_27 := Ff_20.other W23 (Or.inr (slot_ne (Or.inr (w 28 rfl)) (Or.inr (w 32 rfl)) (by decide) (t := (.array (.object "java/lang/String"))) (t' := .int) (by decide) (by decide)))
  have Ff_28 := Ff_21.other W23 (Or.inr (slot_ne (Or.inr (w 30 rfl)) (Or.inr (w 32 rfl)) (by decide) (t := (.array .int)) (t' := .int) (by decide) (by decide)))
  have Ff_29 := Ff_22.same W23
  have zl23 := Nat.le_trans zl16 (Nat.le_of_eq W23.size.symm)
  have K23 := K16.wr W23 (Or.inl (List.mem_of_getElem? (i := 0) rfl))
  refine Own.retVoid X23 hx hlk hret (hb hby d2_25) (by decide) (by decide) ?_
  rw [e23]
  exact ⟨rfl, N23, K23, Ff_28⟩
theorem d4_0 : decode prog_53_method_6_code 0 = .ok (.iconst 0, 1) := by decide +kernel
theorem d4_1 : decode prog_53_method_6_code 1 = .ok (.istore_n 1, 1) := by decide +kernel
theorem d4_2 : decode prog_53_method_6_code 2 = .ok (.aload_n 0, 1) := by decide +kernel
theorem d4_3 : decode prog_53_method_6_code 3 = .ok (.getfield 17, 3) := by decide +kernel
theorem d4_6 : decode prog_53_method_6_code 6 = .ok (.astore_n 2, 1) := by decide +kernel
theorem d4_7 : decode prog_53_method_6_code 7 = .ok (.aload_n 2, 1) := by decide +kernel
theorem d4_8 : decode prog_53_method_6_code 8 = .ok (.arraylength, 1) := by decide +kernel
theorem d4_9 : decode prog_53_method_6_code 9 = .ok (.istore_n 3, 1) := by decide +kernel
theorem d4_10 : decode prog_53_method_6_code 10 = .ok (.iconst 0, 1) := by decide +kernel
theorem d4_11 : decode prog_53_method_6_code 11 = .ok (.istore 4, 2) := by decide +kernel
theorem d4_13 : decode prog_53_method_6_code 13 = .ok (.iload 4, 2) := by decide +kernel
theorem d4_15 : decode prog_53_method_6_code 15 = .ok (.iload_n 3, 1) := by decide +kernel
theorem d4_16 : decode prog_53_method_6_code 16 = .ok (.if_icmp .ge 23, 3) := by decide +kernel
theorem d4_39 : decode prog_53_method_6_code 39 = .ok (.iload_n 1, 1) := by decide +kernel
theorem d4_40 : decode prog_53_method_6_code 40 = .ok (.newarray .int, 2) := by decide +kernel
theorem d4_42 : decode prog_53_method_6_code 42 = .ok (.astore_n 2, 1) := by decide +kernel
theorem d4_43 : decode prog_53_method_6_code 43 = .ok (.iconst 0, 1) := by decide +kernel
theorem d4_44 : decode prog_53_method_6_code 44 = .ok (.istore_n 3, 1) := by decide +kernel
theorem d4_45 : decode prog_53_method_6_code 45 = .ok (.aload_n 0, 1) := by decide +kernel
theorem d4_46 : decode prog_53_method_6_code 46 = .ok (.getfield 17, 3) := by decide +kernel
theorem d4_49 : decode prog_53_method_6_code 49 = .ok (.astore 4, 2) := by decide +kernel
theorem d4_51 : decode prog_53_method_6_code 51 = .ok (.aload 4, 2) := by decide +kernel
theorem d4_53 : decode prog_53_method_6_code 53 = .ok (.arraylength, 1) := by decide +kernel
theorem d4_54 : decode prog_53_method_6_code 54 = .ok (.istore 5, 2) := by decide +kernel
theorem d4_56 : decode prog_53_method_6_code 56 = .ok (.iconst 0, 1) := by decide +kernel
theorem d4_57 : decode prog_53_method_6_code 57 = .ok (.istore 6, 2) := by decide +kernel
theorem d4_59 : decode prog_53_method_6_code 59 = .ok (.iload 6, 2) := by decide +kernel
theorem d4_61 : decode prog_53_method_6_code 61 = .ok (.iload 5, 2) := by decide +kernel
theorem d4_63 : decode prog_53_method_6_code 63 = .ok (.if_icmp .ge 29, 3) := by decide +kernel
theorem d4_92 : decode prog_53_method_6_code 92 = .ok (.aload_n 2, 1) := by decide +kernel
theorem d4_93 : decode prog_53_method_6_code 93 = .ok (.areturn, 1) := by decide +kernel
set_option maxRecDepth 65536 in
set_option maxHeartbeats 40000000 in
theorem m4_0 (l : Launch) (Z : State) (a0 : Array Value) (w : ∀ (i : Nat) {d : Jvm.Cond}, tables_1[i]? = some d → d.before a0 Z = true) (a : Addr) (b : Addr) (kb : ClassId)  (n0 : Nat) (h0 : Heap) (Z0 : n0 ≤ h0.size) (F3 : Fld Z h0 a "com/example/skuld/skuld/htn/Pattern" "slots" "[I" (.ref b)) (V1 : Arv Z h0 b kb .int (0 : Int32) [] (.int (0 : Int32))) :
    Own.Met l Z (⟨"com/example/skuld/skuld/htn/Pattern", "slots", "()[I"⟩ : MethodName) prog_53_method_6_code 8 (some (.array .int)) [] ({ frames := 0, cells := 1, slots := 0, locals := 0 } : Room) #[(.ref a)] h0 (fun v h L => ∃ (r : Addr) (kr : ClassId) (ys : List Int32), v = some (.ref r) ∧ Fr n0 L ∧ Keep h0 h [] ∧ h0.size ≤ r ∧ n0 ≤ r ∧ ys = own_f [] ∧ Arv Z h r kr .int (Int32.ofNat ys.length) (ys.map Value.int) (.int (0 : Int32))) := by
  refine Own.Met.of (plainFor_of_name (by first | (simp [plainName, overriddenIn]; done) | decide +kernel)) ?_
  intro p e s m below meth c T0 hx hby hml hown hnm hret hlk hZ X0 e0
  have hown : s.vm.findClass "com/example/skuld/skuld/htn/Pattern" = some m.cls := hown
  have hml : c.maxLocals = 8 := hml
  have hnm : meth.name = "slots" := hnm
  have ef : entryFrame m #[(.ref a)] 8 = mkF m 0 #[.val (.ref a), .unset, .unset, .unset, .unset, .unset, .unset, .unset] [] := by first | (simp [entryFrame, mkF, argsToLocals, Value.category]; done) | rfl
  rw [ef]
  have N0 := Fr.nil n0
  refine Own.iconst 1 X0 hx ((0 : Int32)) (hb hby d4_0) rfl rfl ?_
  refine Own.istoreNV 2 #[.val (.ref a), .val (.int (0 : Int32)), .unset, .unset, .unset, .unset, .unset, .unset] X0 hx (hb hby d4_1) rfl rfl ?_
  refine Own.aloadN 3 X0 hx (hb hby d4_2) rfl rfl rfl ?_
  refine Own.getFld 6 X0 hx hZ hown (host := "") (Or.inl (w 29 rfl)) Via.refl e0 F3 (hb hby d4_3) rfl ?_
  intro T1 X1 e1
  refine Own.astoreN 7 #[.val (.ref a), .val (.int (0 : Int32)), .val (.ref b), .unset, .unset, .unset, .unset, .unset] X1 hx (hb hby d4_6) rfl rfl rfl ?_
  refine Own.aloadN 8 X1 hx (hb hby d4_7) rfl rfl rfl ?_
  refine Own.arrLen 9 X1 hx hZ e1 V1 (hb hby d4_8) rfl ?_
  refine Own.istoreNV 10 #[.val (.ref a), .val (.int (0 : Int32)), .val (.ref b), .val (.int (0 : Int32)), .unset, .unset, .unset, .unset] X1 hx (hb hby d4_9) rfl rfl ?_
  refine Own.iconst 11 X1 hx ((0 : Int32)) (hb hby d4_10) rfl rfl ?_
  refine Own.istoreV 13 #[.val (.ref a), .val (.int (0 : Int32)), .val (.ref b), .val (.int (0 : Int32)), .val (.int (0 : Int32)), .unset, .unset, .unset] X1 hx (hb hby d4_11) rfl rfl ?_
  refine Own.iload 15 X1 hx (hb hby d4_13) rfl rfl ?_
  refine Own.iloadN 16 X1 hx (hb hby d4_15) rfl rfl ?_
  refine Own.icmp_ge 39 19 X1 hx (hb hby d4_16) (by decide) rfl (fun tk => ?_) (fun tk => absurd tk (by decide))
  refine Own.iloadN 40 X1 hx (hb hby d4_39) rfl rfl ?_
  refine Own.newArr 42 0 X1 hx hZ (w 5 rfl) e1 (by decide) (by decide) (by decide) (hb hby d4_40) rfl (by decide) (by decide) ?_
  intro T2 h2 r k2 z2 X2 e2 E2 A2
  have ne_a_r : a ≠ r := Nat.ne_of_lt (Nat.lt_of_lt_of_le F3.lt (Nat.le_of_eq z2.symm))
  have ne_b_r : b ≠ r := Nat.ne_of_lt (Nat.lt_of_lt_of_le V1.lt (Nat.le_of_eq z2.symm))
  have g_r : n0 ≤ r := Nat.le_trans Z0 (Nat.le_of_eq z2.symm)
  have sz_r : h0.size ≤ r := Nat.le_trans (Keep.refl h0 []).1 (Nat.le_of_eq z2.symm)
  have K2 := (Keep.refl h0 []).ext E2
  have Ff_4 := F3.ext E2
  have Vf_5 := V1.ext E2
  have zl2 := Nat.le_trans Z0 E2.1
  have V2 : Arv Z h2 r k2 .int (0 : Int32) [] (.int (0 : Int32)) := A2
  refine Own.astoreN 43 #[.val (.ref a), .val (.int (0 : Int32)), .val (.ref r), .val (.int (0 : Int32)), .val (.int (0 : Int32)), .unset, .unset, .unset] X2 hx (hb hby d4_42) rfl rfl rfl ?_
  refine Own.iconst 44 X2 hx ((0 : Int32)) (hb hby d4_43) rfl rfl ?_
  refine Own.istoreNV 45 #[.val (.ref a), .val (.int (0 : Int32)), .val (.ref r), .val (.int (0 : Int32)), .val (.int (0 : Int32)), .unset, .unset, .unset] X2 hx (hb hby d4_44) rfl rfl ?_
  refine Own.aloadN 46 X2 hx (hb hby d4_45) rfl rfl rfl ?_
  refine Own.getFld 49 X2 hx hZ hown (host := "") (Or.inl (w 29 rfl)) Via.refl e2 Ff_4 (hb hby d4_46) rfl ?_
  intro T6 X6 e6
  refine Own.astore 51 #[.val (.ref a), .val (.int (0 : Int32)), .val (.ref r), .val (.int (0 : Int32)), .val (.ref b), .unset, .unset, .unset] X6 hx (hb hby d4_49) rfl rfl rfl ?_
  refine Own.aload 53 X6 hx (hb hby d4_51) rfl rfl rfl ?_
  refine Own.arrLen 54 X6 hx hZ e6 Vf_5 (hb hby d4_53) rfl ?_
  refine Own.istoreV 56 #[.val (.ref a), .val (.int (0 : Int32)), .val (.ref r), .val (.int (0 : Int32)), .val (.ref b), .val (.int (0 : Int32)), .unset, .unset] X6 hx (hb hby d4_54) rfl rfl ?_
  refine Own.iconst 57 X6 hx ((0 : Int32)) (hb hby d4_56) rfl rfl ?_
  refine Own.istoreV 59 #[.val (.ref a), .val (.int (0 : Int32)), .val (.ref r), .val (.int (0 : Int32)), .val (.ref b), .val (.int (0 : Int32)), .val (.int (0 : Int32)), .unset] X6 hx (hb hby d4_57) rfl rfl ?_
  refine Own.iload 61 X6 hx (hb hby d4_59) rfl rfl ?_
  refine Own.iload 63 X6 hx (hb hby d4_61) rfl rfl ?_
  refine Own.icmp_ge 92 66 X6 hx (hb hby d4_63) (by decide) rfl (fun tk => ?_) (fun tk => absurd tk (by decide))
  refine Own.aloadN 93 X6 hx (hb hby d4_92) rfl rfl rfl ?_
  refine Own.retRef X6 hx hlk rfl hret rfl (hb hby d4_93) (by decide) (by decide) ?_
  rw [e6]
  exact ⟨r, k2, [], rfl, N0, K2, sz_r, g_r, by rw [own_f, List.filter_nil], V2⟩
theorem d4_19 : decode prog_53_method_6_code 19 = .ok (.aload_n 2, 1) := by decide +kernel
theorem d4_20 : decode prog_53_method_6_code 20 = .ok (.iload 4, 2) := by decide +kernel
theorem d4_22 : decode prog_53_method_6_code 22 = .ok (.iaload, 1) := by decide +kernel
theorem d4_23 : decode prog_53_method_6_code 23 = .ok (.istore 5, 2) := by decide +kernel
theorem d4_25 : decode prog_53_method_6_code 25 = .ok (.iload 5, 2) := by decide +kernel
theorem d4_27 : decode prog_53_method_6_code 27 = .ok (.ifCond .lt 6, 3) := by decide +kernel
theorem d4_30 : decode prog_53_method_6_code 30 = .ok (.iinc 1 1, 3) := by decide +kernel
theorem d4_33 : decode prog_53_method_6_code 33 = .ok (.iinc 4 1, 3) := by decide +kernel
theorem d4_36 : decode prog_53_method_6_code 36 = .ok (.goto (-23), 3) := by decide +kernel
theorem d4_66 : decode prog_53_method_6_code 66 = .ok (.aload 4, 2) := by decide +kernel
theorem d4_68 : decode prog_53_method_6_code 68 = .ok (.iload 6, 2) := by decide +kernel
theorem d4_70 : decode prog_53_method_6_code 70 = .ok (.iaload, 1) := by decide +kernel
theorem d4_71 : decode prog_53_method_6_code 71 = .ok (.istore 7, 2) := by decide +kernel
theorem d4_73 : decode prog_53_method_6_code 73 = .ok (.iload 7, 2) := by decide +kernel
theorem d4_75 : decode prog_53_method_6_code 75 = .ok (.ifCond .lt 11, 3) := by decide +kernel
theorem d4_78 : decode prog_53_method_6_code 78 = .ok (.aload_n 2, 1) := by decide +kernel
theorem d4_79 : decode prog_53_method_6_code 79 = .ok (.iload_n 3, 1) := by decide +kernel
theorem d4_80 : decode prog_53_method_6_code 80 = .ok (.iinc 3 1, 3) := by decide +kernel
theorem d4_83 : decode prog_53_method_6_code 83 = .ok (.iload 7, 2) := by decide +kernel
theorem d4_85 : decode prog_53_method_6_code 85 = .ok (.iastore, 1) := by decide +kernel
theorem d4_86 : decode prog_53_method_6_code 86 = .ok (.iinc 6 1, 3) := by decide +kernel
theorem d4_89 : decode prog_53_method_6_code 89 = .ok (.goto (-30), 3) := by decide +kernel
set_option maxRecDepth 65536 in
set_option maxHeartbeats 40000000 in
theorem m4_1 (l : Launch) (Z : State) (a0 : Array Value) (w : ∀ (i : Nat) {d : Jvm.Cond}, tables_1[i]? = some d → d.before a0 Z = true) (a : Addr) (b : Addr) (kb : ClassId) (v0 : Int32) (n0 : Nat) (h0 : Heap) (Z0 : n0 ≤ h0.size) (F3 : Fld Z h0 a "com/example/skuld/skuld/htn/Pattern" "slots" "[I" (.ref b)) (V1 : Arv Z h0 b kb .int (1 : Int32) [(.int v0)] (.int (0 : Int32))) :
    Own.Met l Z (⟨"com/example/skuld/skuld/htn/Pattern", "slots", "()[I"⟩ : MethodName) prog_53_method_6_code 8 (some (.array .int)) [] ({ frames := 0, cells := 1, slots := 1, locals := 0 } : Room) #[(.ref a)] h0 (fun v h L => ∃ (r : Addr) (kr : ClassId) (ys : List Int32), v = some (.ref r) ∧ Fr n0 L ∧ Keep h0 h [] ∧ h0.size ≤ r ∧ n0 ≤ r ∧ ys = own_f [v0] ∧ Arv Z h r kr .int (Int32.ofNat ys.length) (ys.map Value.int) (.int (0 : Int32))) := by
  refine Own.Met.of (plainFor_of_name (by first | (simp [plainName, overriddenIn]; done) | decide +kernel)) ?_
  intro p e s m below meth c T0 hx hby hml hown hnm hret hlk hZ X0 e0
  have hown : s.vm.findClass "com/example/skuld/skuld/htn/Pattern" = some m.cls := hown
  have hml : c.maxLocals = 8 := hml
  have hnm : meth.name = "slots" := hnm
  have ef : entryFrame m #[(.ref a)] 8 = mkF m 0 #[.val (.ref a), .unset, .unset, .unset, .unset, .unset, .unset, .unset] [] := by first | (simp [entryFrame, mkF, argsToLocals, Value.category]; done) | rfl
  rw [ef]
  have N0 := Fr.nil n0
  refine Own.iconst 1 X0 hx ((0 : Int32)) (hb hby d4_0) rfl rfl ?_
  refine Own.istoreNV 2 #[.val (.ref a), .val (.int (0 : Int32)), .unset, .unset, .unset, .unset, .unset, .unset] X0 hx (hb hby d4_1) rfl rfl ?_
  refine Own.aloadN 3 X0 hx (hb hby d4_2) rfl rfl rfl ?_
  refine Own.getFld 6 X0 hx hZ hown (host := "") (Or.inl (w 29 rfl)) Via.refl e0 F3 (hb hby d4_3) rfl ?_
  intro T1 X1 e1
  refine Own.astoreN 7 #[.val (.ref a), .val (.int (0 : Int32)), .val (.ref b), .unset, .unset, .unset, .unset, .unset] X1 hx (hb hby d4_6) rfl rfl rfl ?_
  refine Own.aloadN 8 X1 hx (hb hby d4_7) rfl rfl rfl ?_
  refine Own.arrLen 9 X1 hx hZ e1 V1 (hb hby d4_8) rfl ?_
  refine Own.istoreNV 10 #[.val (.ref a), .val (.int (0 : Int32)), .val (.ref b), .val (.int (1 : Int32)), .unset, .unset, .unset, .unset] X1 hx (hb hby d4_9) rfl rfl ?_
  refine Own.iconst 11 X1 hx ((0 : Int32)) (hb hby d4_10) rfl rfl ?_
  refine Own.istoreV 13 #[.val (.ref a), .val (.int (0 : Int32)), .val (.ref b), .val (.int (1 : Int32)), .val (.int (0 : Int32)), .unset, .unset, .unset] X1 hx (hb hby d4_11) rfl rfl ?_
  refine Own.iload 15 X1 hx (hb hby d4_13) rfl rfl ?_
  refine Own.iloadN 16 X1 hx (hb hby d4_15) rfl rfl ?_
  refine Own.icmp_ge 39 19 X1 hx (hb hby d4_16) (by decide) rfl (fun tk => absurd tk (by decide)) (fun tk => ?_)
  refine Own.aloadN 20 X1 hx (hb hby d4_19) rfl rfl rfl ?_
  refine Own.iload 22 X1 hx (hb hby d4_20) rfl rfl ?_
  refine Own.iaload 23 X1 hx hZ e1 (v0) V1 (by decide) rfl (hb hby d4_22) rfl ?_
  refine Own.istoreV 25 #[.val (.ref a), .val (.int (0 : Int32)), .val (.ref b), .val (.int (1 : Int32)), .val (.int (0 : Int32)), .val (.int v0), .unset, .unset] X1 hx (hb hby d4_23) rfl rfl ?_
  refine Own.iload 27 X1 hx (hb hby d4_25) rfl rfl ?_
  refine Own.if_lt 33 30 X1 hx (hb hby d4_27) (by decide) rfl (fun q0 => ?_) (fun q0 => ?_)
  ·
    refine Own.iinc 36 (fun c_2 => #[.val (.ref a), .val (.int (0 : Int32)), .val (.ref b), .val (.int (1 : Int32)), .val (.int c_2), .val (.int v0), .unset, .unset]) X1 hx ((1 : Int32)) (hb hby d4_33) rfl rfl rfl (fun _ => rfl) fun c_2 hc_2 => ?_
    obtain rfl : c_2 = (1 : Int32) := hc_2.trans (by decide)
    refine Own.goto 13 X1 hx (hb hby d4_36) (by decide) ?_
    refine Own.iload 15 X1 hx (hb hby d4_13) rfl rfl ?_
    refine Own.iloadN 16 X1 hx (hb hby d4_15) rfl rfl ?_
    refine Own.icmp_ge 39 19 X1 hx (hb hby d4_16) (by decide) rfl (fun tk => ?_) (fun tk => absurd tk (by decide))
    refine Own.iloadN 40 X1 hx (hb hby d4_39) rfl rfl ?_
    refine Own.newArr 42 0 X1 hx hZ (w 5 rfl) e1 (by decide) (by decide) (by decide) (hb hby d4_40) rfl (by decide) (by decide) ?_
    intro T3 h3 r k3 z3 X3 e3 E3 A3
    have ne_a_r : a ≠ r := Nat.ne_of_lt (Nat.lt_of_lt_of_le F3.lt (Nat.le_of_eq z3.symm))
    have ne_b_r : b ≠ r := Nat.ne_of_lt (Nat.lt_of_lt_of_le V1.lt (Nat.le_of_eq z3.symm))
    have g_r : n0 ≤ r := Nat.le_trans Z0 (Nat.le_of_eq z3.symm)
    have sz_r : h0.size ≤ r := Nat.le_trans (Keep.refl h0 []).1 (Nat.le_of_eq z3.symm)
    have K3 := (Keep.refl h0 []).ext E3
    have Ff_5 := F3.ext E3
    have Vf_6 := V1.ext E3
    have zl3 := Nat.le_trans Z0 E3.1
    have V3 : Arv Z h3 r k3 .int (0 : Int32) [] (.int (0 : Int32)) := A3
    refine Own.astoreN 43 #[.val (.ref a), .val (.int (0 : Int32)), .val (.ref r), .val (.int (1 : Int32)), .val (.int (1 : Int32)), .val (.int v0), .unset, .unset] X3 hx (hb hby d4_42) rfl rfl rfl ?_
    refine Own.iconst 44 X3 hx ((0 : Int32)) (hb hby d4_43) rfl rfl ?_
    refine Own.istoreNV 45 #[.val (.ref a), .val (.int (0 : Int32)), .val (.ref r), .val (.int (0 : Int32)), .val (.int (1 : Int32)), .val (.int v0), .unset, .unset] X3 hx (hb hby d4_44) rfl rfl ?_
    refine Own.aloadN 46 X3 hx (hb hby d4_45) rfl rfl rfl ?_
    refine Own.getFld 49 X3 hx hZ hown (host := "") (Or.inl (w 29 rfl)) Via.refl e3 Ff_5 (hb hby d4_46) rfl ?_
    intro T7 X7 e7
    refine Own.astore 51 #[.val (.ref a), .val (.int (0 : Int32)), .val (.ref r), .val (.int (0 : Int32)), .val (.ref b), .val (.int v0), .unset, .unset] X7 hx (hb hby d4_49) rfl rfl rfl ?_
    refine Own.aload 53 X7 hx (hb hby d4_51) rfl rfl rfl ?_
    refine Own.arrLen 54 X7 hx hZ e7 Vf_6 (hb hby d4_53) rfl ?_
    refine Own.istoreV 56 #[.val (.ref a), .val (.int (0 : Int32)), .val (.ref r), .val (.int (0 : Int32)), .val (.ref b), .val (.int (1 : Int32)), .unset, .unset] X7 hx (hb hby d4_54) rfl rfl ?_
    refine Own.iconst 57 X7 hx ((0 : Int32)) (hb hby d4_56) rfl rfl ?_
    refine Own.istoreV 59 #[.val (.ref a), .val (.int (0 : Int32)), .val (.ref r), .val (.int (0 : Int32)), .val (.ref b), .val (.int (1 : Int32)), .val (.int (0 : Int32)), .unset] X7 hx (hb hby d4_57) rfl rfl ?_
    refine Own.iload 61 X7 hx (hb hby d4_59) rfl rfl ?_
    refine Own.iload 63 X7 hx (hb hby d4_61) rfl rfl ?_
    refine Own.icmp_ge 92 66 X7 hx (hb hby d4_63) (by decide) rfl (fun tk => absurd tk (by decide)) (fun tk => ?_)
    refine Own.aload 68 X7 hx (hb hby d4_66) rfl rfl rfl ?_
    refine Own.iload 70 X7 hx (hb hby d4_68) rfl rfl ?_
    refine Own.iaload 71 X7 hx hZ e7 (v0) Vf_6 (by decide) rfl (hb hby d4_70) rfl ?_
    refine Own.istoreV 73 #[.val (.ref a), .val (.int (0 : Int32)), .val (.ref r), .val (.int (0 : Int32)), .val (.ref b), .val (.int (1 : Int32)), .val (.int (0 : Int32)), .val (.int v0)] X7 hx (hb hby d4_71) rfl rfl ?_
    refine Own.iload 75 X7 hx (hb hby d4_73) rfl rfl ?_
    refine Own.if_lt 86 78 X7 hx (hb hby d4_75) (by decide) rfl (fun tk => ?_) (fun tk => absurd q0 tk)
    refine Own.iinc 89 (fun c_8 => #[.val (.ref a), .val (.int (0 : Int32)), .val (.ref r), .val (.int (0 : Int32)), .val (.ref b), .val (.int (1 : Int32)), .val (.int c_8), .val (.int v0)]) X7 hx ((1 : Int32)) (hb hby d4_86) rfl rfl rfl (fun _ => rfl) fun c_8 hc_8 => ?_
    obtain rfl : c_8 = (1 : Int32) := hc_8.trans (by decide)
    refine Own.goto 59 X7 hx (hb hby d4_89) (by decide) ?_
    refine Own.iload 61 X7 hx (hb hby d4_59) rfl rfl ?_
    refine Own.iload 63 X7 hx (hb hby d4_61) rfl rfl ?_
    refine Own.icmp_ge 92 66 X7 hx (hb hby d4_63) (by decide) rfl (fun tk => ?_) (fun tk => absurd tk (by decide))
    refine Own.aloadN 93 X7 hx (hb hby d4_92) rfl rfl rfl ?_
    refine Own.retRef X7 hx hlk rfl hret rfl (hb hby d4_93) (by decide) (by decide) ?_
    rw [e7]
    exact ⟨r, k3, [], rfl, N0, K3, sz_r, g_r, by rw [own_f, List.filter_cons_of_neg (p := fun x => decide (¬ x < 0)) (by rw [decide_eq_true_iff]; exact fun u => u q0), List.filter_nil], V3⟩
  ·
    refine Own.iinc 33 (fun c_9 => #[.val (.ref a), .val (.int c_9), .val (.ref b), .val (.int (1 : Int32)), .val (.int (0 : Int32)), .val (.int v0), .unset, .unset]) X1 hx ((1 : Int32)) (hb hby d4_30) rfl rfl rfl (fun _ => rfl) fun c_9 hc_9 => ?_
    obtain rfl : c_9 = (1 : Int32) := hc_9.trans (by decide)
    refine Own.iinc 36 (fun c_10 => #[.val (.ref a), .val (.int (1 : Int32)), .val (.ref b), .val (.int (1 : Int32)), .val (.int c_10), .val (.int v0), .unset, .unset]) X1 hx ((1 : Int32)) (hb hby d4_33) rfl rfl rfl (fun _ => rfl) fun c_10 hc_10 => ?_
    obtain rfl : c_10 = (1 : Int32) := hc_10.trans (by decide)
    refine Own.goto 13 X1 hx (hb hby d4_36) (by decide) ?_
    refine Own.iload 15 X1 hx (hb hby d4_13) rfl rfl ?_
    refine Own.iloadN 16 X1 hx (hb hby d4_15) rfl rfl ?_
    refine Own.icmp_ge 39 19 X1 hx (hb hby d4_16) (by decide) rfl (fun tk => ?_) (fun tk => absurd tk (by decide))
    refine Own.iloadN 40 X1 hx (hb hby d4_39) rfl rfl ?_
    refine Own.newArr 42 1 X1 hx hZ (w 5 rfl) e1 (by decide) (by decide) (by decide) (hb hby d4_40) rfl (by decide) (by decide) ?_
    intro T11 h11 r k11 z11 X11 e11 E11 A11
    have ne_a_r : a ≠ r := Nat.ne_of_lt (Nat.lt_of_lt_of_le F3.lt (Nat.le_of_eq z11.symm))
    have ne_b_r : b ≠ r := Nat.ne_of_lt (Nat.lt_of_lt_of_le V1.lt (Nat.le_of_eq z11.symm))
    have g_r : n0 ≤ r := Nat.le_trans Z0 (Nat.le_of_eq z11.symm)
    have sz_r : h0.size ≤ r := Nat.le_trans (Keep.refl h0 []).1 (Nat.le_of_eq z11.symm)
    have K11 := (Keep.refl h0 []).ext E11
    have Ff_13 := F3.ext E11
    have Vf_14 := V1.ext E11
    have zl11 := Nat.le_trans Z0 E11.1
    have V11 : Arv Z h11 r k11 .int (1 : Int32) [(.int (0 : Int32))] (.int (0 : Int32)) := A11
    refine Own.astoreN 43 #[.val (.ref a), .val (.int (1 : Int32)), .val (.ref r), .val (.int (1 : Int32)), .val (.int (1 : Int32)), .val (.int v0), .unset, .unset] X11 hx (hb hby d4_42) rfl rfl rfl ?_
    refine Own.iconst 44 X11 hx ((0 : Int32)) (hb hby d4_43) rfl rfl ?_
    refine Own.istoreNV 45 #[.val (.ref a), .val (.int (1 : Int32)), .val (.ref r), .val (.int (0 : Int32)), .val (.int (1 : Int32)), .val (.int v0), .unset, .unset] X11 hx (hb hby d4_44) rfl rfl ?_
    refine Own.aloadN 46 X11 hx (hb hby d4_45) rfl rfl rfl ?_
    refine Own.getFld 49 X11 hx hZ hown (host := "") (Or.inl (w 29 rfl)) Via.refl e11 Ff_13 (hb hby d4_46) rfl ?_
    intro T15 X15 e15
    refine Own.astore 51 #[.val (.ref a), .val (.int (1 : Int32)), .val (.ref r), .val (.int (0 : Int32)), .val (.ref b), .val (.int v0), .unset, .unset] X15 hx (hb hby d4_49) rfl rfl rfl ?_
    refine Own.aload 53 X15 hx (hb hby d4_51) rfl rfl rfl ?_
    refine Own.arrLen 54 X15 hx hZ e15 Vf_14 (hb hby d4_53) rfl ?_
    refine Own.istoreV 56 #[.val (.ref a), .val (.int (1 : Int32)), .val (.ref r), .val (.int (0 : Int32)), .val (.ref b), .val (.int (1 : Int32)), .unset, .unset] X15 hx (hb hby d4_54) rfl rfl ?_
    refine Own.iconst 57 X15 hx ((0 : Int32)) (hb hby d4_56) rfl rfl ?_
    refine Own.istoreV 59 #[.val (.ref a), .val (.int (1 : Int32)), .val (.ref r), .val (.int (0 : Int32)), .val (.ref b), .val (.int (1 : Int32)), .val (.int (0 : Int32)), .unset] X15 hx (hb hby d4_57) rfl rfl ?_
    refine Own.iload 61 X15 hx (hb hby d4_59) rfl rfl ?_
    refine Own.iload 63 X15 hx (hb hby d4_61) rfl rfl ?_
    refine Own.icmp_ge 92 66 X15 hx (hb hby d4_63) (by decide) rfl (fun tk => absurd tk (by decide)) (fun tk => ?_)
    refine Own.aload 68 X15 hx (hb hby d4_66) rfl rfl rfl ?_
    refine Own.iload 70 X15 hx (hb hby d4_68) rfl rfl ?_
    refine Own.iaload 71 X15 hx hZ e15 (v0) Vf_14 (by decide) rfl (hb hby d4_70) rfl ?_
    refine Own.istoreV 73 #[.val (.ref a), .val (.int (1 : Int32)), .val (.ref r), .val (.int (0 : Int32)), .val (.ref b), .val (.int (1 : Int32)), .val (.int (0 : Int32)), .val (.int v0)] X15 hx (hb hby d4_71) rfl rfl ?_
    refine Own.iload 75 X15 hx (hb hby d4_73) rfl rfl ?_
    refine Own.if_lt 86 78 X15 hx (hb hby d4_75) (by decide) rfl (fun tk => absurd tk q0) (fun tk => ?_)
    refine Own.aloadN 79 X15 hx (hb hby d4_78) rfl rfl rfl ?_
    refine Own.iloadN 80 X15 hx (hb hby d4_79) rfl rfl ?_
    refine Own.iinc 83 (fun c_16 => #[.val (.ref a), .val (.int (1 : Int32)), .val (.ref r), .val (.int c_16), .val (.ref b), .val (.int (1 : Int32)), .val (.int (0 : Int32)), .val (.int v0)]) X15 hx ((1 : Int32)) (hb hby d4_80) rfl rfl rfl (fun _ => rfl) fun c_16 hc_16 => ?_
    obtain rfl : c_16 = (1 : Int32) := hc_16.trans (by decide)
    refine Own.iload 85 X15 hx (hb hby d4_83) rfl rfl ?_
    refine Own.iastore 86 X15 hx hZ e15 V11 (by decide) (Nat.le_of_ble_eq_true rfl) (hb hby d4_85) rfl ?_
    intro T17 h17 X17 e17 W17 A17
    have N17 := Fr.snoc X17 N0 g_r
    have Ff_19 := Ff_13.other W17 (Or.inl ne_a_r)
    have Vf_20 := Vf_14.other W17 ne_b_r
    have zl17 := Nat.le_trans zl11 (Nat.le_of_eq W17.size.symm)
    have K17 := K11.wr W17 (Or.inr sz_r)
    have V17 : Arv Z h17 r k11 .int (1 : Int32) [(.int v0)] (.int (0 : Int32)) := A17
    refine Own.iinc 89 (fun c_22 => #[.val (.ref a), .val (.int (1 : Int32)), .val (.ref r), .val (.int (1 : Int32)), .val (.ref b), .val (.int (1 : Int32)), .val (.int c_22), .val (.int v0)]) X17 hx ((1 : Int32)) (hb hby d4_86) rfl rfl rfl (fun _ => rfl) fun c_22 hc_22 => ?_
    obtain rfl : c_22 = (1 : Int32) := hc_22.trans (by decide)
    refine Own.goto 59 X17 hx (hb hby d4_89) (by decide) ?_
    refine Own.iload 61 X17 hx (hb hby d4_59) rfl rfl ?_
    refine Own.iload 63 X17 hx (hb hby d4_61) rfl rfl ?_
    refine Own.icmp_ge 92 66 X17 hx (hb hby d4_63) (by decide) rfl (fun tk => ?_) (fun tk => absurd tk (by decide))
    refine Own.aloadN 93 X17 hx (hb hby d4_92) rfl rfl rfl ?_
    refine Own.retRef X17 hx hlk rfl hret rfl (hb hby d4_93) (by decide) (by decide) ?_
    rw [e17]
    exact ⟨r, k11, [v0], rfl, N17, K17, sz_r, g_r, by rw [own_f, List.filter_cons_of_pos (p := fun x => decide (¬ x < 0)) (decide_eq_true q0), List.filter_nil], V17⟩
set_option maxRecDepth 65536 in
set_option maxHeartbeats 40000000 in
theorem m4_2 (l : Launch) (Z : State) (a0 : Array Value) (w : ∀ (i : Nat) {d : Jvm.Cond}, tables_1[i]? = some d → d.before a0 Z = true) (a : Addr) (b : Addr) (kb : ClassId) (v0 v1 : Int32) (n0 : Nat) (h0 : Heap) (Z0 : n0 ≤ h0.size) (F3 : Fld Z h0 a "com/example/skuld/skuld/htn/Pattern" "slots" "[I" (.ref b)) (V1 : Arv Z h0 b kb .int (2 : Int32) [(.int v0), (.int v1)] (.int (0 : Int32))) :
    Own.Met l Z (⟨"com/example/skuld/skuld/htn/Pattern", "slots", "()[I"⟩ : MethodName) prog_53_method_6_code 8 (some (.array .int)) [] ({ frames := 0, cells := 1, slots := 2, locals := 0 } : Room) #[(.ref a)] h0 (fun v h L => ∃ (r : Addr) (kr : ClassId) (ys : List Int32), v = some (.ref r) ∧ Fr n0 L ∧ Keep h0 h [] ∧ h0.size ≤ r ∧ n0 ≤ r ∧ ys = own_f [v0, v1] ∧ Arv Z h r kr .int (Int32.ofNat ys.length) (ys.map Value.int) (.int (0 : Int32))) := by
  refine Own.Met.of (plainFor_of_name (by first | (simp [plainName, overriddenIn]; done) | decide +kernel)) ?_
  intro p e s m below meth c T0 hx hby hml hown hnm hret hlk hZ X0 e0
  have hown : s.vm.findClass "com/example/skuld/skuld/htn/Pattern" = some m.cls := hown
  have hml : c.maxLocals = 8 := hml
  have hnm : meth.name = "slots" := hnm
  have ef : entryFrame m #[(.ref a)] 8 = mkF m 0 #[.val (.ref a), .unset, .unset, .unset, .unset, .unset, .unset, .unset] [] := by first | (simp [entryFrame, mkF, argsToLocals, Value.category]; done) | rfl
  rw [ef]
  have N0 := Fr.nil n0
  refine Own.iconst 1 X0 hx ((0 : Int32)) (hb hby d4_0) rfl rfl ?_
  refine Own.istoreNV 2 #[.val (.ref a), .val (.int (0 : Int32)), .unset, .unset, .unset, .unset, .unset, .unset] X0 hx (hb hby d4_1) rfl rfl ?_
  refine Own.aloadN 3 X0 hx (hb hby d4_2) rfl rfl rfl ?_
  refine Own.getFld 6 X0 hx hZ hown (host := "") (Or.inl (w 29 rfl)) Via.refl e0 F3 (hb hby d4_3) rfl ?_
  intro T1 X1 e1
  refine Own.astoreN 7 #[.val (.ref a), .val (.int (0 : Int32)), .val (.ref b), .unset, .unset, .unset, .unset, .unset] X1 hx (hb hby d4_6) rfl rfl rfl ?_
  refine Own.aloadN 8 X1 hx (hb hby d4_7) rfl rfl rfl ?_
  refine Own.arrLen 9 X1 hx hZ e1 V1 (hb hby d4_8) rfl ?_
  refine Own.istoreNV 10 #[.val (.ref a), .val (.int (0 : Int32)), .val (.ref b), .val (.int (2 : Int32)), .unset, .unset, .unset, .unset] X1 hx (hb hby d4_9) rfl rfl ?_
  refine Own.iconst 11 X1 hx ((0 : Int32)) (hb hby d4_10) rfl rfl ?_
  refine Own.istoreV 13 #[.val (.ref a), .val (.int (0 : Int32)), .val (.ref b), .val (.int (2 : Int32)), .val (.int (0 : Int32)), .unset, .unset, .unset] X1 hx (hb hby d4_11) rfl rfl ?_
  refine Own.iload 15 X1 hx (hb hby d4_13) rfl rfl ?_
  refine Own.iloadN 16 X1 hx (hb hby d4_15) rfl rfl ?_
  refine Own.icmp_ge 39 19 X1 hx (hb hby d4_16) (by decide) rfl (fun tk => absurd tk (by decide)) (fun tk => ?_)
  refine Own.aloadN 20 X1 hx (hb hby d4_19) rfl rfl rfl ?_
  refine Own.iload 22 X1 hx (hb hby d4_20) rfl rfl ?_
  refine Own.iaload 23 X1 hx hZ e1 (v0) V1 (by decide) rfl (hb hby d4_22) rfl ?_
  refine Own.istoreV 25 #[.val (.ref a), .val (.int (0 : Int32)), .val (.ref b), .val (.int (2 : Int32)), .val (.int (0 : Int32)), .val (.int v0), .unset, .unset] X1 hx (hb hby d4_23) rfl rfl ?_
  refine Own.iload 27 X1 hx (hb hby d4_25) rfl rfl ?_
  refine Own.if_lt 33 30 X1 hx (hb hby d4_27) (by decide) rfl (fun q0 => ?_) (fun q0 => ?_)
  ·
    refine Own.iinc 36 (fun c_2 => #[.val (.ref a), .val (.int (0 : Int32)), .val (.ref b), .val (.int (2 : Int32)), .val (.int c_2), .val (.int v0), .unset, .unset]) X1 hx ((1 : Int32)) (hb hby d4_33) rfl rfl rfl (fun _ => rfl) fun c_2 hc_2 => ?_
    obtain rfl : c_2 = (1 : Int32) := hc_2.trans (by decide)
    refine Own.goto 13 X1 hx (hb hby d4_36) (by decide) ?_
    refine Own.iload 15 X1 hx (hb hby d4_13) rfl rfl ?_
    refine Own.iloadN 16 X1 hx (hb hby d4_15) rfl rfl ?_
    refine Own.icmp_ge 39 19 X1 hx (hb hby d4_16) (by decide) rfl (fun tk => absurd tk (by decide)) (fun tk => ?_)
    refine Own.aloadN 20 X1 hx (hb hby d4_19) rfl rfl rfl ?_
    refine Own.iload 22 X1 hx (hb hby d4_20) rfl rfl ?_
    refine Own.iaload 23 X1 hx hZ e1 (v1) V1 (by decide) rfl (hb hby d4_22) rfl ?_
    refine Own.istoreV 25 #[.val (.ref a), .val (.int (0 : Int32)), .val (.ref b), .val (.int (2 : Int32)), .val (.int (1 : Int32)), .val (.int v1), .unset, .unset] X1 hx (hb hby d4_23) rfl rfl ?_
    refine Own.iload 27 X1 hx (hb hby d4_25) rfl rfl ?_
    refine Own.if_lt 33 30 X1 hx (hb hby d4_27) (by decide) rfl (fun q1 => ?_) (fun q1 => ?_)
    ·
      refine Own.iinc 36 (fun c_3 => #[.val (.ref a), .val (.int (0 : Int32)), .val (.ref b), .val (.int (2 : Int32)), .val (.int c_3), .val (.int v1), .unset, .unset]) X1 hx ((1 : Int32)) (hb hby d4_33) rfl rfl rfl (fun _ => rfl) fun c_3 hc_3 => ?_
      obtain rfl : c_3 = (2 : Int32) := hc_3.trans (by decide)
      refine Own.goto 13 X1 hx (hb hby d4_36) (by decide) ?_
      refine Own.iload 15 X1 hx (hb hby d4_13) rfl rfl ?_
      refine Own.iloadN 16 X1 hx (hb hby d4_15) rfl rfl ?_
      refine Own.icmp_ge 39 19 X1 hx (hb hby d4_16) (by decide) rfl (fun tk => ?_) (fun tk => absurd tk (by decide))
      refine Own.iloadN 40 X1 hx (hb hby d4_39) rfl rfl ?_
      refine Own.newArr 42 0 X1 hx hZ (w 5 rfl) e1 (by decide) (by decide) (by decide) (hb hby d4_40) rfl (by decide) (by decide) ?_
      intro T4 h4 r k4 z4 X4 e4 E4 A4
      have ne_a_r : a ≠ r := Nat.ne_of_lt (Nat.lt_of_lt_of_le F3.lt (Nat.le_of_eq z4.symm))
      have ne_b_r : b ≠ r := Nat.ne_of_lt (Nat.lt_of_lt_of_le V1.lt (Nat.le_of_eq z4.symm))
      have g_r : n0 ≤ r := Nat.le_trans Z0 (Nat.le_of_eq z4.symm)
      have sz_r : h0.size ≤ r := Nat.le_trans (Keep.refl h0 []).1 (Nat.le_of_eq z4.symm)
      have K4 := (Keep.refl h0 []).ext E4
      have Ff_6 := F3.ext E4
      have Vf_7 := V1.ext E4
      have zl4 := Nat.le_trans Z0 E4.1
      have V4 : Arv Z h4 r k4 .int (0 : Int32) [] (.int (0 : Int32)) := A4
      refine Own.astoreN 43 #[.val (.ref a), .val (.int (0 : Int32)), .val (.ref r), .val (.int (2 : Int32)), .val (.int (2 : Int32)), .val (.int v1), .unset, .unset] X4 hx (hb hby d4_42) rfl rfl rfl ?_
      refine Own.iconst 44 X4 hx ((0 : Int32)) (hb hby d4_43) rfl rfl ?_
      refine Own.istoreNV 45 #[.val (.ref a), .val (.int (0 : Int32)), .val (.ref r), .val (.int (0 : Int32)), .val (.int (2 : Int32)), .val (.int v1), .unset, .unset] X4 hx (hb hby d4_44) rfl rfl ?_
      refine Own.aloadN 46 X4 hx (hb hby d4_45) rfl rfl rfl ?_
      refine Own.getFld 49 X4 hx hZ hown (host := "") (Or.inl (w 29 rfl)) Via.refl e4 Ff_6 (hb hby d4_46) rfl ?_
      intro T8 X8 e8
      refine Own.astore 51 #[.val (.ref a), .val (.int (0 : Int32)), .val (.ref r), .val (.int (0 : Int32)), .val (.ref b), .val (.int v1), .unset, .unset] X8 hx (hb hby d4_49) rfl rfl rfl ?_
      refine Own.aload 53 X8 hx (hb hby d4_51) rfl rfl rfl ?_
      refine Own.arrLen 54 X8 hx hZ e8 Vf_7 (hb hby d4_53) rfl ?_
      refine Own.istoreV 56 #[.val (.ref a), .val (.int (0 : Int32)), .val (.ref r), .val (.int (0 : Int32)), .val (.ref b), .val (.int (2 : Int32)), .unset, .unset] X8 hx (hb hby d4_54) rfl rfl ?_
      refine Own.iconst 57 X8 hx ((0 : Int32)) (hb hby d4_56) rfl rfl ?_
      refine Own.istoreV 59 #[.val (.ref a), .val (.int (0 : Int32)), .val (.ref r), .val (.int (0 : Int32)), .val (.ref b), .val (.int (2 : Int32)), .val (.int (0 : Int32)), .unset] X8 hx (hb hby d4_57) rfl rfl ?_
      refine Own.iload 61 X8 hx (hb hby d4_59) rfl rfl ?_
      refine Own.iload 63 X8 hx (hb hby d4_61) rfl rfl ?_
      refine Own.icmp_ge 92 66 X8 hx (hb hby d4_63) (by decide) rfl (fun tk => absurd tk (by decide)) (fun tk => ?_)
      refine Own.aload 68 X8 hx (hb hby d4_66) rfl rfl rfl ?_
      refine Own.iload 70 X8 hx (hb hby d4_68) rfl rfl ?_
      refine Own.iaload 71 X8 hx hZ e8 (v0) Vf_7 (by decide) rfl (hb hby d4_70) rfl ?_
      refine Own.istoreV 73 #[.val (.ref a), .val (.int (0 : Int32)), .val (.ref r), .val (.int (0 : Int32)), .val (.ref b), .val (.int (2 : Int32)), .val (.int (0 : Int32)), .val (.int v0)] X8 hx (hb hby d4_71) rfl rfl ?_
      refine Own.iload 75 X8 hx (hb hby d4_73) rfl rfl ?_
      refine Own.if_lt 86 78 X8 hx (hb hby d4_75) (by decide) rfl (fun tk => ?_) (fun tk => absurd q0 tk)
      refine Own.iinc 89 (fun c_9 => #[.val (.ref a), .val (.int (0 : Int32)), .val (.ref r), .val (.int (0 : Int32)), .val (.ref b), .val (.int (2 : Int32)), .val (.int c_9), .val (.int v0)]) X8 hx ((1 : Int32)) (hb hby d4_86) rfl rfl rfl (fun _ => rfl) fun c_9 hc_9 => ?_
      obtain rfl : c_9 = (1 : Int32) := hc_9.trans (by decide)
      refine Own.goto 59 X8 hx (hb hby d4_89) (by decide) ?_
      refine Own.iload 61 X8 hx (hb hby d4_59) rfl rfl ?_
      refine Own.iload 63 X8 hx (hb hby d4_61) rfl rfl ?_
      refine Own.icmp_ge 92 66 X8 hx (hb hby d4_63) (by decide) rfl (fun tk => absurd tk (by decide)) (fun tk => ?_)
      refine Own.aload 68 X8 hx (hb hby d4_66) rfl rfl rfl ?_
      refine Own.iload 70 X8 hx (hb hby d4_68) rfl rfl ?_
      refine Own.iaload 71 X8 hx hZ e8 (v1) Vf_7 (by decide) rfl (hb hby d4_70) rfl ?_
      refine Own.istoreV 73 #[.val (.ref a), .val (.int (0 : Int32)), .val (.ref r), .val (.int (0 : Int32)), .val (.ref b), .val (.int (2 : Int32)), .val (.int (1 : Int32)), .val (.int v1)] X8 hx (hb hby d4_71) rfl rfl ?_
      refine Own.iload 75 X8 hx (hb hby d4_73) rfl rfl ?_
      refine Own.if_lt 86 78 X8 hx (hb hby d4_75) (by decide) rfl (fun tk => ?_) (fun tk => absurd q1 tk)
      refine Own.iinc 89 (fun c_10 => #[.val (.ref a), .val (.int (0 : Int32)), .val (.ref r), .val (.int (0 : Int32)), .val (.ref b), .val (.int (2 : Int32)), .val (.int c_10), .val (.int v1)]) X8 hx ((1 : Int32)) (hb hby d4_86) rfl rfl rfl (fun _ => rfl) fun c_10 hc_10 => ?_
      obtain rfl : c_10 = (2 : Int32) := hc_10.trans (by decide)
      refine Own.goto 59 X8 hx (hb hby d4_89) (by decide) ?_
      refine Own.iload 61 X8 hx (hb hby d4_59) rfl rfl ?_
      refine Own.iload 63 X8 hx (hb hby d4_61) rfl rfl ?_
      refine Own.icmp_ge 92 66 X8 hx (hb hby d4_63) (by decide) rfl (fun tk => ?_) (fun tk => absurd tk (by decide))
      refine Own.aloadN 93 X8 hx (hb hby d4_92) rfl rfl rfl ?_
      refine Own.retRef X8 hx hlk rfl hret rfl (hb hby d4_93) (by decide) (by decide) ?_
      rw [e8]
      exact ⟨r, k4, [], rfl, N0, K4, sz_r, g_r, by rw [own_f, List.filter_cons_of_neg (p := fun x => decide (¬ x < 0)) (by rw [decide_eq_true_iff]; exact fun u => u q0), List.filter_cons_of_neg (p := fun x => decide (¬ x < 0)) (by rw [decide_eq_true_iff]; exact fun u => u q1), List.filter_nil], V4⟩
    ·
      refine Own.iinc 33 (fun c_11 => #[.val (.ref a), .val (.int c_11), .val (.ref b), .val (.int (2 : Int32)), .val (.int (1 : Int32)), .val (.int v1), .unset, .unset]) X1 hx ((1 : Int32)) (hb hby d4_30) rfl rfl rfl (fun _ => rfl) fun c_11 hc_11 => ?_
      obtain rfl : c_11 = (1 : Int32) := hc_11.trans (by decide)
      refine Own.iinc 36 (fun c_12 => #[.val (.ref a), .val (.int (1 : Int32)), .val (.ref b), .val (.int (2 : Int32)), .val (.int c_12), .val (.int v1), .unset, .unset]) X1 hx ((1 : Int32)) (hb hby d4_33) rfl rfl rfl (fun _ => rfl) fun c_12 hc_12 => ?_
      obtain rfl : c_12 = (2 : Int32) := hc_12.trans (by decide)
      refine Own.goto 13 X1 hx (hb hby d4_36) (by decide) ?_
      refine Own.iload 15 X1 hx (hb hby d4_13) rfl rfl ?_
      refine Own.iloadN 16 X1 hx (hb hby d4_15) rfl rfl ?_
      refine Own.icmp_ge 39 19 X1 hx (hb hby d4_16) (by decide) rfl (fun tk => ?_) (fun tk => absurd tk (by decide))
      refine Own.iloadN 40 X1 hx (hb hby d4_39) rfl rfl ?_
      refine Own.newArr 42 1 X1 hx hZ (w 5 rfl) e1 (by decide) (by decide) (by decide) (hb hby d4_40) rfl (by decide) (by decide) ?_
      intro T13 h13 r k13 z13 X13 e13 E13 A13
      have ne_a_r : a ≠ r := Nat.ne_of_lt (Nat.lt_of_lt_of_le F3.lt (Nat.le_of_eq z13.symm))
      have ne_b_r : b ≠ r := Nat.ne_of_lt (Nat.lt_of_lt_of_le V1.lt (Nat.le_of_eq z13.symm))
      have g_r : n0 ≤ r := Nat.le_trans Z0 (Nat.le_of_eq z13.symm)
      have sz_r : h0.size ≤ r := Nat.le_trans (Keep.refl h0 []).1 (Nat.le_of_eq z13.symm)
      have K13 := (Keep.refl h0 []).ext E13
      have Ff_15 := F3.ext E13
      have Vf_16 := V1.ext E13
      have zl13 := Nat.le_trans Z0 E13.1
      have V13 : Arv Z h13 r k13 .int (1 : Int32) [(.int (0 : Int32))] (.int (0 : Int32)) := A13
      refine Own.astoreN 43 #[.val (.ref a), .val (.int (1 : Int32)), .val (.ref r), .val (.int (2 : Int32)), .val (.int (2 : Int32)), .val (.int v1), .unset, .unset] X13 hx (hb hby d4_42) rfl rfl rfl ?_
      refine Own.iconst 44 X13 hx ((0 : Int32)) (hb hby d4_43) rfl rfl ?_
      refine Own.istoreNV 45 #[.val (.ref a), .val (.int (1 : Int32)), .val (.ref r), .val (.int (0 : Int32)), .val (.int (2 : Int32)), .val (.int v1), .unset, .unset] X13 hx (hb hby d4_44) rfl rfl ?_
      refine Own.aloadN 46 X13 hx (hb hby d4_45) rfl rfl rfl ?_
      refine Own.getFld 49 X13 hx hZ hown (host := "") (Or.inl (w 29 rfl)) Via.refl e13 Ff_15 (hb hby d4_46) rfl ?_
      intro T17 X17 e17
      refine Own.astore 51 #[.val (.ref a), .val (.int (1 : Int32)), .val (.ref r), .val (.int (0 : Int32)), .val (.ref b), .val (.int v1), .unset, .unset] X17 hx (hb hby d4_49) rfl rfl rfl ?_
      refine Own.aload 53 X17 hx (hb hby d4_51) rfl rfl rfl ?_
      refine Own.arrLen 54 X17 hx hZ e17 Vf_16 (hb hby d4_53) rfl ?_
      refine Own.istoreV 56 #[.val (.ref a), .val (.int (1 : Int32)), .val (.ref r), .val (.int (0 : Int32)), .val (.ref b), .val (.int (2 : Int32)), .unset, .unset] X17 hx (hb hby d4_54) rfl rfl ?_
      refine Own.iconst 57 X17 hx ((0 : Int32)) (hb hby d4_56) rfl rfl ?_
      refine Own.istoreV 59 #[.val (.ref a), .val (.int (1 : Int32)), .val (.ref r), .val (.int (0 : Int32)), .val (.ref b), .val (.int (2 : Int32)), .val (.int (0 : Int32)), .unset] X17 hx (hb hby d4_57) rfl rfl ?_
      refine Own.iload 61 X17 hx (hb hby d4_59) rfl rfl ?_
      refine Own.iload 63 X17 hx (hb hby d4_61) rfl rfl ?_
      refine Own.icmp_ge 92 66 X17 hx (hb hby d4_63) (by decide) rfl (fun tk => absurd tk (by decide)) (fun tk => ?_)
      refine Own.aload 68 X17 hx (hb hby d4_66) rfl rfl rfl ?_
      refine Own.iload 70 X17 hx (hb hby d4_68) rfl rfl ?_
      refine Own.iaload 71 X17 hx hZ e17 (v0) Vf_16 (by decide) rfl (hb hby d4_70) rfl ?_
      refine Own.istoreV 73 #[.val (.ref a), .val (.int (1 : Int32)), .val (.ref r), .val (.int (0 : Int32)), .val (.ref b), .val (.int (2 : Int32)), .val (.int (0 : Int32)), .val (.int v0)] X17 hx (hb hby d4_71) rfl rfl ?_
      refine Own.iload 75 X17 hx (hb hby d4_73) rfl rfl ?_
      refine Own.if_lt 86 78 X17 hx (hb hby d4_75) (by decide) rfl (fun tk => ?_) (fun tk => absurd q0 tk)
      refine Own.iinc 89 (fun c_18 => #[.val (.ref a), .val (.int (1 : Int32)), .val (.ref r), .val (.int (0 : Int32)), .val (.ref b), .val (.int (2 : Int32)), .val (.int c_18), .val (.int v0)]) X17 hx ((1 : Int32)) (hb hby d4_86) rfl rfl rfl (fun _ => rfl) fun c_18 hc_18 => ?_
      obtain rfl : c_18 = (1 : Int32) := hc_18.trans (by decide)
      refine Own.goto 59 X17 hx (hb hby d4_89) (by decide) ?_
      refine Own.iload 61 X17 hx (hb hby d4_59) rfl rfl ?_
      refine Own.iload 63 X17 hx (hb hby d4_61) rfl rfl ?_
      refine Own.icmp_ge 92 66 X17 hx (hb hby d4_63) (by decide) rfl (fun tk => absurd tk (by decide)) (fun tk => ?_)
      refine Own.aload 68 X17 hx (hb hby d4_66) rfl rfl rfl ?_
      refine Own.iload 70 X17 hx (hb hby d4_68) rfl rfl ?_
      refine Own.iaload 71 X17 hx hZ e17 (v1) Vf_16 (by decide) rfl (hb hby d4_70) rfl ?_
      refine Own.istoreV 73 #[.val (.ref a), .val (.int (1 : Int32)), .val (.ref r), .val (.int (0 : Int32)), .val (.ref b), .val (.int (2 : Int32)), .val (.int (1 : Int32)), .val (.int v1)] X17 hx (hb hby d4_71) rfl rfl ?_
      refine Own.iload 75 X17 hx (hb hby d4_73) rfl rfl ?_
      refine Own.if_lt 86 78 X17 hx (hb hby d4_75) (by decide) rfl (fun tk => absurd tk q1) (fun tk => ?_)
      refine Own.aloadN 79 X17 hx (hb hby d4_78) rfl rfl rfl ?_
      refine Own.iloadN 80 X17 hx (hb hby d4_79) rfl rfl ?_
      refine Own.iinc 83 (fun c_19 => #[.val (.ref a), .val (.int (1 : Int32)), .val (.ref r), .val (.int c_19), .val (.ref b), .val (.int (2 : Int32)), .val (.int (1 : Int32)), .val (.int v1)]) X17 hx ((1 : Int32)) (hb hby d4_80) rfl rfl rfl (fun _ => rfl) fun c_19 hc_19 => ?_
      obtain rfl : c_19 = (1 : Int32) := hc_19.trans (by decide)
      refine Own.iload 85 X17 hx (hb hby d4_83) rfl rfl ?_
      refine Own.iastore 86 X17 hx hZ e17 V13 (by decide) (Nat.le_of_ble_eq_true rfl) (hb hby d4_85) rfl ?_
      intro T20 h20 X20 e20 W20 A20
      have N20 := Fr.snoc X20 N0 g_r
      have Ff_22 := Ff_15.other W20 (Or.inl ne_a_r)
      have Vf_23 := Vf_16.other W20 ne_b_r
      have zl20 := Nat.le_trans zl13 (Nat.le_of_eq W20.size.symm)
      have K20 := K13.wr W20 (Or.inr sz_r)
      have V20 : Arv Z h20 r k13 .int (1 : Int32) [(.int v1)] (.int (0 : Int32)) := A20
      refine Own.iinc 89 (fun c_25 => #[.val (.ref a), .val (.int (1 : Int32)), .val (.ref r), .val (.int (1 : Int32)), .val (.ref b), .val (.int (2 : Int32)), .val (.int c_25), .val (.int v1)]) X20 hx ((1 : Int32)) (hb hby d4_86) rfl rfl rfl (fun _ => rfl) fun c_25 hc_25 => ?_
      obtain rfl : c_25 = (2 : Int32) := hc_25.trans (by decide)
      refine Own.goto 59 X20 hx (hb hby d4_89) (by decide) ?_
      refine Own.iload 61 X20 hx (hb hby d4_59) rfl rfl ?_
      refine Own.iload 63 X20 hx (hb hby d4_61) rfl rfl ?_
      refine Own.icmp_ge 92 66 X20 hx (hb hby d4_63) (by decide) rfl (fun tk => ?_) (fun tk => absurd tk (by decide))
      refine Own.aloadN 93 X20 hx (hb hby d4_92) rfl rfl rfl ?_
      refine Own.retRef X20 hx hlk rfl hret rfl (hb hby d4_93) (by decide) (by decide) ?_
      rw [e20]
      exact ⟨r, k13, [v1], rfl, N20, K20, sz_r, g_r, by rw [own_f, List.filter_cons_of_neg (p := fun x => decide (¬ x < 0)) (by rw [decide_eq_true_iff]; exact fun u => u q0), List.filter_cons_of_pos (p := fun x => decide (¬ x < 0)) (decide_eq_true q1), List.filter_nil], V20⟩
  ·
    refine Own.iinc 33 (fun c_26 => #[.val (.ref a), .val (.int c_26), .val (.ref b), .val (.int (2 : Int32)), .val (.int (0 : Int32)), .val (.int v0), .unset, .unset]) X1 hx ((1 : Int32)) (hb hby d4_30) rfl rfl rfl (fun _ => rfl) fun c_26 hc_26 => ?_
    obtain rfl : c_26 = (1 : Int32) := hc_26.trans (by decide)
    refine Own.iinc 36 (fun c_27 => #[.val (.ref a), .val (.int (1 : Int32)), .val (.ref b), .val (.int (2 : Int32)), .val (.int c_27), .val (.int v0), .unset, .unset]) X1 hx ((1 : Int32)) (hb hby d4_33) rfl rfl rfl (fun _ => rfl) fun c_27 hc_27 => ?_
    obtain rfl : c_27 = (1 : Int32) := hc_27.trans (by decide)
    refine Own.goto 13 X1 hx (hb hby d4_36) (by decide) ?_
    refine Own.iload 15 X1 hx (hb hby d4_13) rfl rfl ?_
    refine Own.iloadN 16 X1 hx (hb hby d4_15) rfl rfl ?_
    refine Own.icmp_ge 39 19 X1 hx (hb hby d4_16) (by decide) rfl (fun tk => absurd tk (by decide)) (fun tk => ?_)
    refine Own.aloadN 20 X1 hx (hb hby d4_19) rfl rfl rfl ?_
    refine Own.iload 22 X1 hx (hb hby d4_20) rfl rfl ?_
    refine Own.iaload 23 X1 hx hZ e1 (v1) V1 (by decide) rfl (hb hby d4_22) rfl ?_
    refine Own.istoreV 25 #[.val (.ref a), .val (.int (1 : Int32)), .val (.ref b), .val (.int (2 : Int32)), .val (.int (1 : Int32)), .val (.int v1), .unset, .unset] X1 hx (hb hby d4_23) rfl rfl ?_
    refine Own.iload 27 X1 hx (hb hby d4_25) rfl rfl ?_
    refine Own.if_lt 33 30 X1 hx (hb hby d4_27) (by decide) rfl (fun q1 => ?_) (fun q1 => ?_)
    ·
      refine Own.iinc 36 (fun c_28 => #[.val (.ref a), .val (.int (1 : Int32)), .val (.ref b), .val (.int (2 : Int32)), .val (.int c_28), .val (.int v1), .unset, .unset]) X1 hx ((1 : Int32)) (hb hby d4_33) rfl rfl rfl (fun _ => rfl) fun c_28 hc_28 => ?_
      obtain rfl : c_28 = (2 : Int32) := hc_28.trans (by decide)
      refine Own.goto 13 X1 hx (hb hby d4_36) (by decide) ?_
      refine Own.iload 15 X1 hx (hb hby d4_13) rfl rfl ?_
      refine Own.iloadN 16 X1 hx (hb hby d4_15) rfl rfl ?_
      refine Own.icmp_ge 39 19 X1 hx (hb hby d4_16) (by decide) rfl (fun tk => ?_) (fun tk => absurd tk (by decide))
      refine Own.iloadN 40 X1 hx (hb hby d4_39) rfl rfl ?_
      refine Own.newArr 42 1 X1 hx hZ (w 5 rfl) e1 (by decide) (by decide) (by decide) (hb hby d4_40) rfl (by decide) (by decide) ?_
      intro T29 h29 r k29 z29 X29 e29 E29 A29
      have ne_a_r : a ≠ r := Nat.ne_of_lt (Nat.lt_of_lt_of_le F3.lt (Nat.le_of_eq z29.symm))
      have ne_b_r : b ≠ r := Nat.ne_of_lt (Nat.lt_of_lt_of_le V1.lt (Nat.le_of_eq z29.symm))
      have g_r : n0 ≤ r := Nat.le_trans Z0 (Nat.le_of_eq z29.symm)
      have sz_r : h0.size ≤ r := Nat.le_trans (Keep.refl h0 []).1 (Nat.le_of_eq z29.symm)
      have K29 := (Keep.refl h0 []).ext E29
      have Ff_31 := F3.ext E29
      have Vf_32 := V1.ext E29
      have zl29 := Nat.le_trans Z0 E29.1
      have V29 : Arv Z h29 r k29 .int (1 : Int32) [(.int (0 : Int32))] (.int (0 : Int32)) := A29
      refine Own.astoreN 43 #[.val (.ref a), .val (.int (1 : Int32)), .val (.ref r), .val (.int (2 : Int32)), .val (.int (2 : Int32)), .val (.int v1), .unset, .unset] X29 hx (hb hby d4_42) rfl rfl rfl ?_
      refine Own.iconst 44 X29 hx ((0 : Int32)) (hb hby d4_43) rfl rfl ?_
      refine Own.istoreNV 45 #[.val (.ref a), .val (.int (1 : Int32)), .val (.ref r), .val (.int (0 : Int32)), .val (.int (2 : Int32)), .val (.int v1), .unset, .unset] X29 hx (hb hby d4_44) rfl rfl ?_
      refine Own.aloadN 46 X29 hx (hb hby d4_45) rfl rfl rfl ?_
      refine Own.getFld 49 X29 hx hZ hown (host := "") (Or.inl (w 29 rfl)) Via.refl e29 Ff_31 (hb hby d4_46) rfl ?_
      intro T33 X33 e33
      refine Own.astore 51 #[.val (.ref a), .val (.int (1 : Int32)), .val (.ref r), .val (.int (0 : Int32)), .val (.ref b), .val (.int v1), .unset, .unset] X33 hx (hb hby d4_49) rfl rfl rfl ?_
      refine Own.aload 53 X33 hx (hb hby d4_51) rfl rfl rfl ?_
      refine Own.arrLen 54 X33 hx hZ e33 Vf_32 (hb hby d4_53) rfl ?_
      refine Own.istoreV 56 #[.val (.ref a), .val (.int (1 : Int32)), .val (.ref r), .val (.int (0 : Int32)), .val (.ref b), .val (.int (2 : Int32)), .unset, .unset] X33 hx (hb hby d4_54) rfl rfl ?_
      refine Own.iconst 57 X33 hx ((0 : Int32)) (hb hby d4_56) rfl rfl ?_
      refine Own.istoreV 59 #[.val (.ref a), .val (.int (1 : Int32)), .val (.ref r), .val (.int (0 : Int32)), .val (.ref b), .val (.int (2 : Int32)), .val (.int (0 : Int32)), .unset] X33 hx (hb hby d4_57) rfl rfl ?_
      refine Own.iload 61 X33 hx (hb hby d4_59) rfl rfl ?_
      refine Own.iload 63 X33 hx (hb hby d4_61) rfl rfl ?_
      refine Own.icmp_ge 92 66 X33 hx (hb hby d4_63) (by decide) rfl (fun tk => absurd tk (by decide)) (fun tk => ?_)
      refine Own.aload 68 X33 hx (hb hby d4_66) rfl rfl rfl ?_
      refine Own.iload 70 X33 hx (hb hby d4_68) rfl rfl ?_
      refine Own.iaload 71 X33 hx hZ e33 (v0) Vf_32 (by decide) rfl (hb hby d4_70) rfl ?_
      refine Own.istoreV 73 #[.val (.ref a), .val (.int (1 : Int32)), .val (.ref r), .val (.int (0 : Int32)), .val (.ref b), .val (.int (2 : Int32)), .val (.int (0 : Int32)), .val (.int v0)] X33 hx (hb hby d4_71) rfl rfl ?_
      refine Own.iload 75 X33 hx (hb hby d4_73) rfl rfl ?_
      refine Own.if_lt 86 78 X33 hx (hb hby d4_75) (by decide) rfl (fun tk => absurd tk q0) (fun tk => ?_)
      refine Own.aloadN 79 X33 hx (hb hby d4_78) rfl rfl rfl ?_
      refine Own.iloadN 80 X33 hx (hb hby d4_79) rfl rfl ?_
      refine Own.iinc 83 (fun c_34 => #[.val (.ref a), .val (.int (1 : Int32)), .val (.ref r), .val (.int c_34), .val (.ref b), .val (.int (2 : Int32)), .val (.int (0 : Int32)), .val (.int v0)]) X33 hx ((1 : Int32)) (hb hby d4_80) rfl rfl rfl (fun _ => rfl) fun c_34 hc_34 => ?_
      obtain rfl : c_34 = (1 : Int32) := hc_34.trans (by decide)
      refine Own.iload 85 X33 hx (hb hby d4_83) rfl rfl ?_
      refine Own.iastore 86 X33 hx hZ e33 V29 (by decide) (Nat.le_of_ble_eq_true rfl) (hb hby d4_85) rfl ?_
      intro T35 h35 X35 e35 W35 A35
      have N35 := Fr.snoc X35 N0 g_r
      have Ff_37 := Ff_31.other W35 (Or.inl ne_a_r)
      have Vf_38 := Vf_32.other W35 ne_b_r
      have zl35 := Nat.le_trans zl29 (Nat.le_of_eq W35.size.symm)
      have K35 := K29.wr W35 (Or.inr sz_r)
      have V35 : Arv Z h35 r k29 .int (1 : Int32) [(.int v0)] (.int (0 : Int32)) := A35
      refine Own.iinc 89 (fun c_40 => #[.val (.ref a), .val (.int (1 : Int32)), .val (.ref r), .val (.int (1 : Int32)), .val (.ref b), .val (.int (2 : Int32)), .val (.int c_40), .val (.int v0)]) X35 hx ((1 : Int32)) (hb hby d4_86) rfl rfl rfl (fun _ => rfl) fun c_40 hc_40 => ?_
      obtain rfl : c_40 = (1 : Int32) := hc_40.trans (by decide)
      refine Own.goto 59 X35 hx (hb hby d4_89) (by decide) ?_
      refine Own.iload 61 X35 hx (hb hby d4_59) rfl rfl ?_
      refine Own.iload 63 X35 hx (hb hby d4_61) rfl rfl ?_
      refine Own.icmp_ge 92 66 X35 hx (hb hby d4_63) (by decide) rfl (fun tk => absurd tk (by decide)) (fun tk => ?_)
      refine Own.aload 68 X35 hx (hb hby d4_66) rfl rfl rfl ?_
      refine Own.iload 70 X35 hx (hb hby d4_68) rfl rfl ?_
      refine Own.iaload 71 X35 hx hZ e35 (v1) Vf_38 (by decide) rfl (hb hby d4_70) rfl ?_
      refine Own.istoreV 73 #[.val (.ref a), .val (.int (1 : Int32)), .val (.ref r), .val (.int (1 : Int32)), .val (.ref b), .val (.int (2 : Int32)), .val (.int (1 : Int32)), .val (.int v1)] X35 hx (hb hby d4_71) rfl rfl ?_
      refine Own.iload 75 X35 hx (hb hby d4_73) rfl rfl ?_
      refine Own.if_lt 86 78 X35 hx (hb hby d4_75) (by decide) rfl (fun tk => ?_) (fun tk => absurd q1 tk)
      refine Own.iinc 89 (fun c_41 => #[.val (.ref a), .val (.int (1 : Int32)), .val (.ref r), .val (.int (1 : Int32)), .val (.ref b), .val (.int (2 : Int32)), .val (.int c_41), .val (.int v1)]) X35 hx ((1 : Int32)) (hb hby d4_86) rfl rfl rfl (fun _ => rfl) fun c_41 hc_41 => ?_
      obtain rfl : c_41 = (2 : Int32) := hc_41.trans (by decide)
      refine Own.goto 59 X35 hx (hb hby d4_89) (by decide) ?_
      refine Own.iload 61 X35 hx (hb hby d4_59) rfl rfl ?_
      refine Own.iload 63 X35 hx (hb hby d4_61) rfl rfl ?_
      refine Own.icmp_ge 92 66 X35 hx (hb hby d4_63) (by decide) rfl (fun tk => ?_) (fun tk => absurd tk (by decide))
      refine Own.aloadN 93 X35 hx (hb hby d4_92) rfl rfl rfl ?_
      refine Own.retRef X35 hx hlk rfl hret rfl (hb hby d4_93) (by decide) (by decide) ?_
      rw [e35]
      exact ⟨r, k29, [v0], rfl, N35, K35, sz_r, g_r, by rw [own_f, List.filter_cons_of_pos (p := fun x => decide (¬ x < 0)) (decide_eq_true q0), List.filter_cons_of_neg (p := fun x => decide (¬ x < 0)) (by rw [decide_eq_true_iff]; exact fun u => u q1), List.filter_nil], V35⟩
    ·
      refine Own.iinc 33 (fun c_42 => #[.val (.ref a), .val (.int c_42), .val (.ref b), .val (.int (2 : Int32)), .val (.int (1 : Int32)), .val (.int v1), .unset, .unset]) X1 hx ((1 : Int32)) (hb hby d4_30) rfl rfl rfl (fun _ => rfl) fun c_42 hc_42 => ?_
      obtain rfl : c_42 = (2 : Int32) := hc_42.trans (by decide)
      refine Own.iinc 36 (fun c_43 => #[.val (.ref a), .val (.int (2 : Int32)), .val (.ref b), .val (.int (2 : Int32)), .val (.int c_43), .val (.int v1), .unset, .unset]) X1 hx ((1 : Int32)) (hb hby d4_33) rfl rfl rfl (fun _ => rfl) fun c_43 hc_43 => ?_
      obtain rfl : c_43 = (2 : Int32) := hc_43.trans (by decide)
      refine Own.goto 13 X1 hx (hb hby d4_36) (by decide) ?_
      refine Own.iload 15 X1 hx (hb hby d4_13) rfl rfl ?_
      refine Own.iloadN 16 X1 hx (hb hby d4_15) rfl rfl ?_
      refine Own.icmp_ge 39 19 X1 hx (hb hby d4_16) (by decide) rfl (fun tk => ?_) (fun tk => absurd tk (by decide))
      refine Own.iloadN 40 X1 hx (hb hby d4_39) rfl rfl ?_
      refine Own.newArr 42 2 X1 hx hZ (w 5 rfl) e1 (by decide) (by decide) (by decide) (hb hby d4_40) rfl (by decide) (by decide) ?_
      intro T44 h44 r k44 z44 X44 e44 E44 A44
      have ne_a_r : a ≠ r := Nat.ne_of_lt (Nat.lt_of_lt_of_le F3.lt (Nat.le_of_eq z44.symm))
      have ne_b_r : b ≠ r := Nat.ne_of_lt (Nat.lt_of_lt_of_le V1.lt (Nat.le_of_eq z44.symm))
      have g_r : n0 ≤ r := Nat.le_trans Z0 (Nat.le_of_eq z44.symm)
      have sz_r : h0.size ≤ r := Nat.le_trans (Keep.refl h0 []).1 (Nat.le_of_eq z44.symm)
      have K44 := (Keep.refl h0 []).ext E44
      have Ff_46 := F3.ext E44
      have Vf_47 := V1.ext E44
      have zl44 := Nat.le_trans Z0 E44.1
      have V44 : Arv Z h44 r k44 .int (2 : Int32) [(.int (0 : Int32)), (.int (0 : Int32))] (.int (0 : Int32)) := A44
      refine Own.astoreN 43 #[.val (.ref a), .val (.int (2 : Int32)), .val (.ref r), .val (.int (2 : Int32)), .val (.int (2 : Int32)), .val (.int v1), .unset, .unset] X44 hx (hb hby d4_42) rfl rfl rfl ?_
      refine Own.iconst 44 X44 hx ((0 : Int32)) (hb hby d4_43) rfl rfl ?_
      refine Own.istoreNV 45 #[.val (.ref a), .val (.int (2 : Int32)), .val (.ref r), .val (.int (0 : Int32)), .val (.int (2 : Int32)), .val (.int v1), .unset, .unset] X44 hx (hb hby d4_44) rfl rfl ?_
      refine Own.aloadN 46 X44 hx (hb hby d4_45) rfl rfl rfl ?_
      refine Own.getFld 49 X44 hx hZ hown (host := "") (Or.inl (w 29 rfl)) Via.refl e44 Ff_46 (hb hby d4_46) rfl ?_
      intro T48 X48 e48
      refine Own.astore 51 #[.val (.ref a), .val (.int (2 : Int32)), .val (.ref r), .val (.int (0 : Int32)), .val (.ref b), .val (.int v1), .unset, .unset] X48 hx (hb hby d4_49) rfl rfl rfl ?_
      refine Own.aload 53 X48 hx (hb hby d4_51) rfl rfl rfl ?_
      refine Own.arrLen 54 X48 hx hZ e48 Vf_47 (hb hby d4_53) rfl ?_
      refine Own.istoreV 56 #[.val (.ref a), .val (.int (2 : Int32)), .val (.ref r), .val (.int (0 : Int32)), .val (.ref b), .val (.int (2 : Int32)), .unset, .unset] X48 hx (hb hby d4_54) rfl rfl ?_
      refine Own.iconst 57 X48 hx ((0 : Int32)) (hb hby d4_56) rfl rfl ?_
      refine Own.istoreV 59 #[.val (.ref a), .val (.int (2 : Int32)), .val (.ref r), .val (.int (0 : Int32)), .val (.ref b), .val (.int (2 : Int32)), .val (.int (0 : Int32)), .unset] X48 hx (hb hby d4_57) rfl rfl ?_
      refine Own.iload 61 X48 hx (hb hby d4_59) rfl rfl ?_
      refine Own.iload 63 X48 hx (hb hby d4_61) rfl rfl ?_
      refine Own.icmp_ge 92 66 X48 hx (hb hby d4_63) (by decide) rfl (fun tk => absurd tk (by decide)) (fun tk => ?_)
      refine Own.aload 68 X48 hx (hb hby d4_66) rfl rfl rfl ?_
      refine Own.iload 70 X48 hx (hb hby d4_68) rfl rfl ?_
      refine Own.iaload 71 X48 hx hZ e48 (v0) Vf_47 (by decide) rfl (hb hby d4_70) rfl ?_
      refine Own.istoreV 73 #[.val (.ref a), .val (.int (2 : Int32)), .val (.ref r), .val (.int (0 : Int32)), .val (.ref b), .val (.int (2 : Int32)), .val (.int (0 : Int32)), .val (.int v0)] X48 hx (hb hby d4_71) rfl rfl ?_
      refine Own.iload 75 X48 hx (hb hby d4_73) rfl rfl ?_
      refine Own.if_lt 86 78 X48 hx (hb hby d4_75) (by decide) rfl (fun tk => absurd tk q0) (fun tk => ?_)
      refine Own.aloadN 79 X48 hx (hb hby d4_78) rfl rfl rfl ?_
      refine Own.iloadN 80 X48 hx (hb hby d4_79) rfl rfl ?_
      refine Own.iinc 83 (fun c_49 => #[.val (.ref a), .val (.int (2 : Int32)), .val (.ref r), .val (.int c_49), .val (.ref b), .val (.int (2 : Int32)), .val (.int (0 : Int32)), .val (.int v0)]) X48 hx ((1 : Int32)) (hb hby d4_80) rfl rfl rfl (fun _ => rfl) fun c_49 hc_49 => ?_
      obtain rfl : c_49 = (1 : Int32) := hc_49.trans (by decide)
      refine Own.iload 85 X48 hx (hb hby d4_83) rfl rfl ?_
      refine Own.iastore 86 X48 hx hZ e48 V44 (by decide) (Nat.le_of_ble_eq_true rfl) (hb hby d4_85) rfl ?_
      intro T50 h50 X50 e50 W50 A50
      have N50 := Fr.snoc X50 N0 g_r
      have Ff_52 := Ff_46.other W50 (Or.inl ne_a_r)
      have Vf_53 := Vf_47.other W50 ne_b_r
      have zl50 := Nat.le_trans zl44 (Nat.le_of_eq W50.size.symm)
      have K50 := K44.wr W50 (Or.inr sz_r)
      have V50 : Arv Z h50 r k44 .int (2 : Int32) [(.int v0), (.int (0 : Int32))] (.int (0 : Int32)) := A50
      refine Own.iinc 89 (fun c_55 => #[.val (.ref a), .val (.int (2 : Int32)), .val (.ref r), .val (.int (1 : Int32)), .val (.ref b), .val (.int (2 : Int32)), .val (.int c_55), .val (.int v0)]) X50 hx ((1 : Int32)) (hb hby d4_86) rfl rfl rfl (fun _ => rfl) fun c_55 hc_55 => ?_
      obtain rfl : c_55 = (1 : Int32) := hc_55.trans (by decide)
      refine Own.goto 59 X50 hx (hb hby d4_89) (by decide) ?_
      refine Own.iload 61 X50 hx (hb hby d4_59) rfl rfl ?_
      refine Own.iload 63 X50 hx (hb hby d4_61) rfl rfl ?_
      refine Own.icmp_ge 92 66 X50 hx (hb hby d4_63) (by decide) rfl (fun tk => absurd tk (by decide)) (fun tk => ?_)
      refine Own.aload 68 X50 hx (hb hby d4_66) rfl rfl rfl ?_
      refine Own.iload 70 X50 hx (hb hby d4_68) rfl rfl ?_
      refine Own.iaload 71 X50 hx hZ e50 (v1) Vf_53 (by decide) rfl (hb hby d4_70) rfl ?_
      refine Own.istoreV 73 #[.val (.ref a), .val (.int (2 : Int32)), .val (.ref r), .val (.int (1 : Int32)), .val (.ref b), .val (.int (2 : Int32)), .val (.int (1 : Int32)), .val (.int v1)] X50 hx (hb hby d4_71) rfl rfl ?_
      refine Own.iload 75 X50 hx (hb hby d4_73) rfl rfl ?_
      refine Own.if_lt 86 78 X50 hx (hb hby d4_75) (by decide) rfl (fun tk => absurd tk q1) (fun tk => ?_)
      refine Own.aloadN 79 X50 hx (hb hby d4_78) rfl rfl rfl ?_
      refine Own.iloadN 80 X50 hx (hb hby d4_79) rfl rfl ?_
      refine Own.iinc 83 (fun c_56 => #[.val (.ref a), .val (.int (2 : Int32)), .val (.ref r), .val (.int c_56), .val (.ref b), .val (.int (2 : Int32)), .val (.int (1 : Int32)), .val (.int v1)]) X50 hx ((1 : Int32)) (hb hby d4_80) rfl rfl rfl (fun _ => rfl) fun c_56 hc_56 => ?_
      obtain rfl : c_56 = (2 : Int32) := hc_56.trans (by decide)
      refine Own.iload 85 X50 hx (hb hby d4_83) rfl rfl ?_
      refine Own.iastore 86 X50 hx hZ e50 V50 (by decide) (Nat.le_of_ble_eq_true rfl) (hb hby d4_85) rfl ?_
      intro T57 h57 X57 e57 W57 A57
      have N57 := Fr.snoc X57 N50 g_r
      have Ff_59 := Ff_52.other W57 (Or.inl ne_a_r)
      have Vf_60 := Vf_53.other W57 ne_b_r
      have zl57 := Nat.le_trans zl50 (Nat.le_of_eq W57.size.symm)
      have K57 := K50.wr W57 (Or.inr sz_r)
      have V57 : Arv Z h57 r k44 .int (2 : Int32) [(.int v0), (.int v1)] (.int (0 : Int32)) := A57
      refine Own.iinc 89 (fun c_62 => #[.val (.ref a), .val (.int (2 : Int32)), .val (.ref r), .val (.int (2 : Int32)), .val (.ref b), .val (.int (2 : Int32)), .val (.int c_62), .val (.int v1)]) X57 hx ((1 : Int32)) (hb hby d4_86) rfl rfl rfl (fun _ => rfl) fun c_62 hc_62 => ?_
      obtain rfl : c_62 = (2 : Int32) := hc_62.trans (by decide)
      refine Own.goto 59 X57 hx (hb hby d4_89) (by decide) ?_
      refine Own.iload 61 X57 hx (hb hby d4_59) rfl rfl ?_
      refine Own.iload 63 X57 hx (hb hby d4_61) rfl rfl ?_
      refine Own.icmp_ge 92 66 X57 hx (hb hby d4_63) (by decide) rfl (fun tk => ?_) (fun tk => absurd tk (by decide))
      refine Own.aloadN 93 X57 hx (hb hby d4_92) rfl rfl rfl ?_
      refine Own.retRef X57 hx hlk rfl hret rfl (hb hby d4_93) (by decide) (by decide) ?_
      rw [e57]
      exact ⟨r, k44, [v0, v1], rfl, N57, K57, sz_r, g_r, by rw [own_f, List.filter_cons_of_pos (p := fun x => decide (¬ x < 0)) (decide_eq_true q0), List.filter_cons_of_pos (p := fun x => decide (¬ x < 0)) (decide_eq_true q1), List.filter_nil], V57⟩
set_option maxRecDepth 65536 in
set_option maxHeartbeats 40000000 in
theorem m4_3 (l : Launch) (Z : State) (a0 : Array Value) (w : ∀ (i : Nat) {d : Jvm.Cond}, tables_1[i]? = some d → d.before a0 Z = true) (a : Addr) (b : Addr) (kb : ClassId) (v0 v1 v2 : Int32) (n0 : Nat) (h0 : Heap) (Z0 : n0 ≤ h0.size) (F3 : Fld Z h0 a "com/example/skuld/skuld/htn/Pattern" "slots" "[I" (.ref b)) (V1 : Arv Z h0 b kb .int (3 : Int32) [(.int v0), (.int v1), (.int v2)] (.int (0 : Int32))) :
    Own.Met l Z (⟨"com/example/skuld/skuld/htn/Pattern", "slots", "()[I"⟩ : MethodName) prog_53_method_6_code 8 (some (.array .int)) [] ({ frames := 0, cells := 1, slots := 3, locals := 0 } : Room) #[(.ref a)] h0 (fun v h L => ∃ (r : Addr) (kr : ClassId) (ys : List Int32), v = some (.ref r) ∧ Fr n0 L ∧ Keep h0 h [] ∧ h0.size ≤ r ∧ n0 ≤ r ∧ ys = own_f [v0, v1, v2] ∧ Arv Z h r kr .int (Int32.ofNat ys.length) (ys.map Value.int) (.int (0 : Int32))) := by
  refine Own.Met.of (plainFor_of_name (by first | (simp [plainName, overriddenIn]; done) | decide +kernel)) ?_
  intro p e s m below meth c T0 hx hby hml hown hnm hret hlk hZ X0 e0
  have hown : s.vm.findClass "com/example/skuld/skuld/htn/Pattern" = some m.cls := hown
  have hml : c.maxLocals = 8 := hml
  have hnm : meth.name = "slots" := hnm
  have ef : entryFrame m #[(.ref a)] 8 = mkF m 0 #[.val (.ref a), .unset, .unset, .unset, .unset, .unset, .unset, .unset] [] := by first | (simp [entryFrame, mkF, argsToLocals, Value.category]; done) | rfl
  rw [ef]
  have N0 := Fr.nil n0
  refine Own.iconst 1 X0 hx ((0 : Int32)) (hb hby d4_0) rfl rfl ?_
  refine Own.istoreNV 2 #[.val (.ref a), .val (.int (0 : Int32)), .unset, .unset, .unset, .unset, .unset, .unset] X0 hx (hb hby d4_1) rfl rfl ?_
  refine Own.aloadN 3 X0 hx (hb hby d4_2) rfl rfl rfl ?_
  refine Own.getFld 6 X0 hx hZ hown (host := "") (Or.inl (w 29 rfl)) Via.refl e0 F3 (hb hby d4_3) rfl ?_
  intro T1 X1 e1
  refine Own.astoreN 7 #[.val (.ref a), .val (.int (0 : Int32)), .val (.ref b), .unset, .unset, .unset, .unset, .unset] X1 hx (hb hby d4_6) rfl rfl rfl ?_
  refine Own.aloadN 8 X1 hx (hb hby d4_7) rfl rfl rfl ?_
  refine Own.arrLen 9 X1 hx hZ e1 V1 (hb hby d4_8) rfl ?_
  refine Own.istoreNV 10 #[.val (.ref a), .val (.int (0 : Int32)), .val (.ref b), .val (.int (3 : Int32)), .unset, .unset, .unset, .unset] X1 hx (hb hby d4_9) rfl rfl ?_
  refine Own.iconst 11 X1 hx ((0 : Int32)) (hb hby d4_10) rfl rfl ?_
  refine Own.istoreV 13 #[.val (.ref a), .val (.int (0 : Int32)), .val (.ref b), .val (.int (3 : Int32)), .val (.int (0 : Int32)), .unset, .unset, .unset] X1 hx (hb hby d4_11) rfl rfl ?_
  refine Own.iload 15 X1 hx (hb hby d4_13) rfl rfl ?_
  refine Own.iloadN 16 X1 hx (hb hby d4_15) rfl rfl ?_
  refine Own.icmp_ge 39 19 X1 hx (hb hby d4_16) (by decide) rfl (fun tk => absurd tk (by decide)) (fun tk => ?_)
  refine Own.aloadN 20 X1 hx (hb hby d4_19) rfl rfl rfl ?_
  refine Own.iload 22 X1 hx (hb hby d4_20) rfl rfl ?_
  refine Own.iaload 23 X1 hx hZ e1 (v0) V1 (by decide) rfl (hb hby d4_22) rfl ?_
  refine Own.istoreV 25 #[.val (.ref a), .val (.int (0 : Int32)), .val (.ref b), .val (.int (3 : Int32)), .val (.int (0 : Int32)), .val (.int v0), .unset, .unset] X1 hx (hb hby d4_23) rfl rfl ?_
  refine Own.iload 27 X1 hx (hb hby d4_25) rfl rfl ?_
  refine Own.if_lt 33 30 X1 hx (hb hby d4_27) (by decide) rfl (fun q0 => ?_) (fun q0 => ?_)
  ·
    refine Own.iinc 36 (fun c_2 => #[.val (.ref a), .val (.int (0 : Int32)), .val (.ref b), .val (.int (3 : Int32)), .val (.int c_2), .val (.int v0), .unset, .unset]) X1 hx ((1 : Int32)) (hb hby d4_33) rfl rfl rfl (fun _ => rfl) fun c_2 hc_2 => ?_
    obtain rfl : c_2 = (1 : Int32) := hc_2.trans (by decide)
    refine Own.goto 13 X1 hx (hb hby d4_36) (by decide) ?_
    refine Own.iload 15 X1 hx (hb hby d4_13) rfl rfl ?_
    refine Own.iloadN 16 X1 hx (hb hby d4_15) rfl rfl ?_
    refine Own.icmp_ge 39 19 X1 hx (hb hby d4_16) (by decide) rfl (fun tk => absurd tk (by decide)) (fun tk => ?_)
    refine Own.aloadN 20 X1 hx (hb hby d4_19) rfl rfl rfl ?_
    refine Own.iload 22 X1 hx (hb hby d4_20) rfl rfl ?_
    refine Own.iaload 23 X1 hx hZ e1 (v1) V1 (by decide) rfl (hb hby d4_22) rfl ?_
    refine Own.istoreV 25 #[.val (.ref a), .val (.int (0 : Int32)), .val (.ref b), .val (.int (3 : Int32)), .val (.int (1 : Int32)), .val (.int v1), .unset, .unset] X1 hx (hb hby d4_23) rfl rfl ?_
    refine Own.iload 27 X1 hx (hb hby d4_25) rfl rfl ?_
    refine Own.if_lt 33 30 X1 hx (hb hby d4_27) (by decide) rfl (fun q1 => ?_) (fun q1 => ?_)
    ·
      refine Own.iinc 36 (fun c_3 => #[.val (.ref a), .val (.int (0 : Int32)), .val (.ref b), .val (.int (3 : Int32)), .val (.int c_3), .val (.int v1), .unset, .unset]) X1 hx ((1 : Int32)) (hb hby d4_33) rfl rfl rfl (fun _ => rfl) fun c_3 hc_3 => ?_
      obtain rfl : c_3 = (2 : Int32) := hc_3.trans (by decide)
      refine Own.goto 13 X1 hx (hb hby d4_36) (by decide) ?_
      refine Own.iload 15 X1 hx (hb hby d4_13) rfl rfl ?_
      refine Own.iloadN 16 X1 hx (hb hby d4_15) rfl rfl ?_
      refine Own.icmp_ge 39 19 X1 hx (hb hby d4_16) (by decide) rfl (fun tk => absurd tk (by decide)) (fun tk => ?_)
      refine Own.aloadN 20 X1 hx (hb hby d4_19) rfl rfl rfl ?_
      refine Own.iload 22 X1 hx (hb hby d4_20) rfl rfl ?_
      refine Own.iaload 23 X1 hx hZ e1 (v2) V1 (by decide) rfl (hb hby d4_22) rfl ?_
      refine Own.istoreV 25 #[.val (.ref a), .val (.int (0 : Int32)), .val (.ref b), .val (.int (3 : Int32)), .val (.int (2 : Int32)), .val (.int v2), .unset, .unset] X1 hx (hb hby d4_23) rfl rfl ?_
      refine Own.iload 27 X1 hx (hb hby d4_25) rfl rfl ?_
      refine Own.if_lt 33 30 X1 hx (hb hby d4_27) (by decide) rfl (fun q2 => ?_) (fun q2 => ?_)
      ·
        refine Own.iinc 36 (fun c_4 => #[.val (.ref a), .val (.int (0 : Int32)), .val (.ref b), .val (.int (3 : Int32)), .val (.int c_4), .val (.int v2), .unset, .unset]) X1 hx ((1 : Int32)) (hb hby d4_33) rfl rfl rfl (fun _ => rfl) fun c_4 hc_4 => ?_
        obtain rfl : c_4 = (3 : Int32) := hc_4.trans (by decide)
        refine Own.goto 13 X1 hx (hb hby d4_36) (by decide) ?_
        refine Own.iload 15 X1 hx (hb hby d4_13) rfl rfl ?_
        refine Own.iloadN 16 X1 hx (hb hby d4_15) rfl rfl ?_
        refine Own.icmp_ge 39 19 X1 hx (hb hby d4_16) (by decide) rfl (fun tk => ?_) (fun tk => absurd tk (by decide))
        refine Own.iloadN 40 X1 hx (hb hby d4_39) rfl rfl ?_
        refine Own.newArr 42 0 X1 hx hZ (w 5 rfl) e1 (by decide) (by decide) (by decide) (hb hby d4_40) rfl (by decide) (by decide) ?_
        intro T5 h5 r k5 z5 X5 e5 E5 A5
        have ne_a_r : a ≠ r := Nat.ne_of_lt (Nat.lt_of_lt_of_le F3.lt (Nat.le_of_eq z5.symm))
        have ne_b_r : b ≠ r := Nat.ne_of_lt (Nat.lt_of_lt_of_le V1.lt (Nat.le_of_eq z5.symm))
        have g_r : n0 ≤ r := Nat.le_trans Z0 (Nat.le_of_eq z5.symm)
        have sz_r : h0.size ≤ r := Nat.le_trans (Keep.refl h0 []).1 (Nat.le_of_eq z5.symm)
        have K5 := (Keep.refl h0 []).ext E5
        have Ff_7 := F3.ext E5
        have Vf_8 := V1.ext E5
        have zl5 := Nat.le_trans Z0 E5.1
        have V5 : Arv Z h5 r k5 .int (0 : Int32) [] (.int (0 : Int32)) := A5
        refine Own.astoreN 43 #[.val (.ref a), .val (.int (0 : Int32)), .val (.ref r), .val (.int (3 : Int32)), .val (.int (3 : Int32)), .val (.int v2), .unset, .unset] X5 hx (hb hby d4_42) rfl rfl rfl ?_
        refine Own.iconst 44 X5 hx ((0 : Int32)) (hb hby d4_43) rfl rfl ?_
        refine Own.istoreNV 45 #[.val (.ref a), .val (.int (0 : Int32)), .val (.ref r), .val (.int (0 : Int32)), .val (.int (3 : Int32)), .val (.int v2), .unset, .unset] X5 hx (hb hby d4_44) rfl rfl ?_
        refine Own.aloadN 46 X5 hx (hb hby d4_45) rfl rfl rfl ?_
        refine Own.getFld 49 X5 hx hZ hown (host := "") (Or.inl (w 29 rfl)) Via.refl e5 Ff_7 (hb hby d4_46) rfl ?_
        intro T9 X9 e9
        refine Own.astore 51 #[.val (.ref a), .val (.int (0 : Int32)), .val (.ref r), .val (.int (0 : Int32)), .val (.ref b), .val (.int v2), .unset, .unset] X9 hx (hb hby d4_49) rfl rfl rfl ?_
        refine Own.aload 53 X9 hx (hb hby d4_51) rfl rfl rfl ?_
        refine Own.arrLen 54 X9 hx hZ e9 Vf_8 (hb hby d4_53) rfl ?_
        refine Own.istoreV 56 #[.val (.ref a), .val (.int (0 : Int32)), .val (.ref r), .val (.int (0 : Int32)), .val (.ref b), .val (.int (3 : Int32)), .unset, .unset] X9 hx (hb hby d4_54) rfl rfl ?_
        refine Own.iconst 57 X9 hx ((0 : Int32)) (hb hby d4_56) rfl rfl ?_
        refine Own.istoreV 59 #[.val (.ref a), .val (.int (0 : Int32)), .val (.ref r), .val (.int (0 : Int32)), .val (.ref b), .val (.int (3 : Int32)), .val (.int (0 : Int32)), .unset] X9 hx (hb hby d4_57) rfl rfl ?_
        refine Own.iload 61 X9 hx (hb hby d4_59) rfl rfl ?_
        refine Own.iload 63 X9 hx (hb hby d4_61) rfl rfl ?_
        refine Own.icmp_ge 92 66 X9 hx (hb hby d4_63) (by decide) rfl (fun tk => absurd tk (by decide)) (fun tk => ?_)
        refine Own.aload 68 X9 hx (hb hby d4_66) rfl rfl rfl ?_
        refine Own.iload 70 X9 hx (hb hby d4_68) rfl rfl ?_
        refine Own.iaload 71 X9 hx hZ e9 (v0) Vf_8 (by decide) rfl (hb hby d4_70) rfl ?_
        refine Own.istoreV 73 #[.val (.ref a), .val (.int (0 : Int32)), .val (.ref r), .val (.int (0 : Int32)), .val (.ref b), .val (.int (3 : Int32)), .val (.int (0 : Int32)), .val (.int v0)] X9 hx (hb hby d4_71) rfl rfl ?_
        refine Own.iload 75 X9 hx (hb hby d4_73) rfl rfl ?_
        refine Own.if_lt 86 78 X9 hx (hb hby d4_75) (by decide) rfl (fun tk => ?_) (fun tk => absurd q0 tk)
        refine Own.iinc 89 (fun c_10 => #[.val (.ref a), .val (.int (0 : Int32)), .val (.ref r), .val (.int (0 : Int32)), .val (.ref b), .val (.int (3 : Int32)), .val (.int c_10), .val (.int v0)]) X9 hx ((1 : Int32)) (hb hby d4_86) rfl rfl rfl (fun _ => rfl) fun c_10 hc_10 => ?_
        obtain rfl : c_10 = (1 : Int32) := hc_10.trans (by decide)
        refine Own.goto 59 X9 hx (hb hby d4_89) (by decide) ?_
        refine Own.iload 61 X9 hx (hb hby d4_59) rfl rfl ?_
        refine Own.iload 63 X9 hx (hb hby d4_61) rfl rfl ?_
        refine Own.icmp_ge 92 66 X9 hx (hb hby d4_63) (by decide) rfl (fun tk => absurd tk (by decide)) (fun tk => ?_)
        refine Own.aload 68 X9 hx (hb hby d4_66) rfl rfl rfl ?_
        refine Own.iload 70 X9 hx (hb hby d4_68) rfl rfl ?_
        refine Own.iaload 71 X9 hx hZ e9 (v1) Vf_8 (by decide) rfl (hb hby d4_70) rfl ?_
        refine Own.istoreV 73 #[.val (.ref a), .val (.int (0 : Int32)), .val (.ref r), .val (.int (0 : Int32)), .val (.ref b), .val (.int (3 : Int32)), .val (.int (1 : Int32)), .val (.int v1)] X9 hx (hb hby d4_71) rfl rfl ?_
        refine Own.iload 75 X9 hx (hb hby d4_73) rfl rfl ?_
        refine Own.if_lt 86 78 X9 hx (hb hby d4_75) (by decide) rfl (fun tk => ?_) (fun tk => absurd q1 tk)
        refine Own.iinc 89 (fun c_11 => #[.val (.ref a), .val (.int (0 : Int32)), .val (.ref r), .val (.int (0 : Int32)), .val (.ref b), .val (.int (3 : Int32)), .val (.int c_11), .val (.int v1)]) X9 hx ((1 : Int32)) (hb hby d4_86) rfl rfl rfl (fun _ => rfl) fun c_11 hc_11 => ?_
        obtain rfl : c_11 = (2 : Int32) := hc_11.trans (by decide)
        refine Own.goto 59 X9 hx (hb hby d4_89) (by decide) ?_
        refine Own.iload 61 X9 hx (hb hby d4_59) rfl rfl ?_
        refine Own.iload 63 X9 hx (hb hby d4_61) rfl rfl ?_
        refine Own.icmp_ge 92 66 X9 hx (hb hby d4_63) (by decide) rfl (fun tk => absurd tk (by decide)) (fun tk => ?_)
        refine Own.aload 68 X9 hx (hb hby d4_66) rfl rfl rfl ?_
        refine Own.iload 70 X9 hx (hb hby d4_68) rfl rfl ?_
        refine Own.iaload 71 X9 hx hZ e9 (v2) Vf_8 (by decide) rfl (hb hby d4_70) rfl ?_
        refine Own.istoreV 73 #[.val (.ref a), .val (.int (0 : Int32)), .val (.ref r), .val (.int (0 : Int32)), .val (.ref b), .val (.int (3 : Int32)), .val (.int (2 : Int32)), .val (.int v2)] X9 hx (hb hby d4_71) rfl rfl ?_
        refine Own.iload 75 X9 hx (hb hby d4_73) rfl rfl ?_
        refine Own.if_lt 86 78 X9 hx (hb hby d4_75) (by decide) rfl (fun tk => ?_) (fun tk => absurd q2 tk)
        refine Own.iinc 89 (fun c_12 => #[.val (.ref a), .val (.int (0 : Int32)), .val (.ref r), .val (.int (0 : Int32)), .val (.ref b), .val (.int (3 : Int32)), .val (.int c_12), .val (.int v2)]) X9 hx ((1 : Int32)) (hb hby d4_86) rfl rfl rfl (fun _ => rfl) fun c_12 hc_12 => ?_
        obtain rfl : c_12 = (3 : Int32) := hc_12.trans (by decide)
        refine Own.goto 59 X9 hx (hb hby d4_89) (by decide) ?_
        refine Own.iload 61 X9 hx (hb hby d4_59) rfl rfl ?_
        refine Own.iload 63 X9 hx (hb hby d4_61) rfl rfl ?_
        refine Own.icmp_ge 92 66 X9 hx (hb hby d4_63) (by decide) rfl (fun tk => ?_) (fun tk => absurd tk (by decide))
        refine Own.aloadN 93 X9 hx (hb hby d4_92) rfl rfl rfl ?_
        refine Own.retRef X9 hx hlk rfl hret rfl (hb hby d4_93) (by decide) (by decide) ?_
        rw [e9]
        exact ⟨r, k5, [], rfl, N0, K5, sz_r, g_r, by rw [own_f, List.filter_cons_of_neg (p := fun x => decide (¬ x < 0)) (by rw [decide_eq_true_iff]; exact fun u => u q0), List.filter_cons_of_neg (p := fun x => decide (¬ x < 0)) (by rw [decide_eq_true_iff]; exact fun u => u q1), List.filter_cons_of_neg (p := fun x => decide (¬ x < 0)) (by rw [decide_eq_true_iff]; exact fun u => u q2), List.filter_nil], V5⟩
      ·
        refine Own.iinc 33 (fun c_13 => #[.val (.ref a), .val (.int c_13), .val (.ref b), .val (.int (3 : Int32)), .val (.int (2 : Int32)), .val (.int v2), .unset, .unset]) X1 hx ((1 : Int32)) (hb hby d4_30) rfl rfl rfl (fun _ => rfl) fun c_13 hc_13 => ?_
        obtain rfl : c_13 = (1 : Int32) := hc_13.trans (by decide)
        refine Own.iinc 36 (fun c_14 => #[.val (.ref a), .val (.int (1 : Int32)), .val (.ref b), .val (.int (3 : Int32)), .val (.int c_14), .val (.int v2), .unset, .unset]) X1 hx ((1 : Int32)) (hb hby d4_33) rfl rfl rfl (fun _ => rfl) fun c_14 hc_14 => ?_
        obtain rfl : c_14 = (3 : Int32) := hc_14.trans (by decide)
        refine Own.goto 13 X1 hx (hb hby d4_36) (by decide) ?_
        refine Own.iload 15 X1 hx (hb hby d4_13) rfl rfl ?_
        refine Own.iloadN 16 X1 hx (hb hby d4_15) rfl rfl ?_
        refine Own.icmp_ge 39 19 X1 hx (hb hby d4_16) (by decide) rfl (fun tk => ?_) (fun tk => absurd tk (by decide))
        refine Own.iloadN 40 X1 hx (hb hby d4_39) rfl rfl ?_
        refine Own.newArr 42 1 X1 hx hZ (w 5 rfl) e1 (by decide) (by decide) (by decide) (hb hby d4_40) rfl (by decide) (by decide) ?_
        intro T15 h15 r k15 z15 X15 e15 E15 A15
        have ne_a_r : a ≠ r := Nat.ne_of_lt (Nat.lt_of_lt_of_le F3.lt (Nat.le_of_eq z15.symm))
        have ne_b_r : b ≠ r := Nat.ne_of_lt (Nat.lt_of_lt_of_le V1.lt (Nat.le_of_eq z15.symm))
        have g_r : n0 ≤ r := Nat.le_trans Z0 (Nat.le_of_eq z15.symm)
        have sz_r : h0.size ≤ r := Nat.le_trans (Keep.refl h0 []).1 (Nat.le_of_eq z15.symm)
        have K15 := (Keep.refl h0 []).ext E15
        have Ff_17 := F3.ext E15
        have Vf_18 := V1.ext E15
        have zl15 := Nat.le_trans Z0 E15.1
        have V15 : Arv Z h15 r k15 .int (1 : Int32) [(.int (0 : Int32))] (.int (0 : Int32)) := A15
        refine Own.astoreN 43 #[.val (.ref a), .val (.int (1 : Int32)), .val (.ref r), .val (.int (3 : Int32)), .val (.int (3 : Int32)), .val (.int v2), .unset, .unset] X15 hx (hb hby d4_42) rfl rfl rfl ?_
        refine Own.iconst 44 X15 hx ((0 : Int32)) (hb hby d4_43) rfl rfl ?_
        refine Own.istoreNV 45 #[.val (.ref a), .val (.int (1 : Int32)), .val (.ref r), .val (.int (0 : Int32)), .val (.int (3 : Int32)), .val (.int v2), .unset, .unset] X15 hx (hb hby d4_44) rfl rfl ?_
        refine Own.aloadN 46 X15 hx (hb hby d4_45) rfl rfl rfl ?_
        refine Own.getFld 49 X15 hx hZ hown (host := "") (Or.inl (w 29 rfl)) Via.refl e15 Ff_17 (hb hby d4_46) rfl ?_
        intro T19 X19 e19
        refine Own.astore 51 #[.val (.ref a), .val (.int (1 : Int32)), .val (.ref r), .val (.int (0 : Int32)), .val (.ref b), .val (.int v2), .unset, .unset] X19 hx (hb hby d4_49) rfl rfl rfl ?_
        refine Own.aload 53 X19 hx (hb hby d4_51) rfl rfl rfl ?_
        refine Own.arrLen 54 X19 hx hZ e19 Vf_18 (hb hby d4_53) rfl ?_
        refine Own.istoreV 56 #[.val (.ref a), .val (.int (1 : Int32)), .val (.ref r), .val (.int (0 : Int32)), .val (.ref b), .val (.int (3 : Int32)), .unset, .unset] X19 hx (hb hby d4_54) rfl rfl ?_
        refine Own.iconst 57 X19 hx ((0 : Int32)) (hb hby d4_56) rfl rfl ?_
        refine Own.istoreV 59 #[.val (.ref a), .val (.int (1 : Int32)), .val (.ref r), .val (.int (0 : Int32)), .val (.ref b), .val (.int (3 : Int32)), .val (.int (0 : Int32)), .unset] X19 hx (hb hby d4_57) rfl rfl ?_
        refine Own.iload 61 X19 hx (hb hby d4_59) rfl rfl ?_
        refine Own.iload 63 X19 hx (hb hby d4_61) rfl rfl ?_
        refine Own.icmp_ge 92 66 X19 hx (hb hby d4_63) (by decide) rfl (fun tk => absurd tk (by decide)) (fun tk => ?_)
        refine Own.aload 68 X19 hx (hb hby d4_66) rfl rfl rfl ?_
        refine Own.iload 70 X19 hx (hb hby d4_68) rfl rfl ?_
        refine Own.iaload 71 X19 hx hZ e19 (v0) Vf_18 (by decide) rfl (hb hby d4_70) rfl ?_
        refine Own.istoreV 73 #[.val (.ref a), .val (.int (1 : Int32)), .val (.ref r), .val (.int (0 : Int32)), .val (.ref b), .val (.int (3 : Int32)), .val (.int (0 : Int32)), .val (.int v0)] X19 hx (hb hby d4_71) rfl rfl ?_
        refine Own.iload 75 X19 hx (hb hby d4_73) rfl rfl ?_
        refine Own.if_lt 86 78 X19 hx (hb hby d4_75) (by decide) rfl (fun tk => ?_) (fun tk => absurd q0 tk)
        refine Own.iinc 89 (fun c_20 => #[.val (.ref a), .val (.int (1 : Int32)), .val (.ref r), .val (.int (0 : Int32)), .val (.ref b), .val (.int (3 : Int32)), .val (.int c_20), .val (.int v0)]) X19 hx ((1 : Int32)) (hb hby d4_86) rfl rfl rfl (fun _ => rfl) fun c_20 hc_20 => ?_
        obtain rfl : c_20 = (1 : Int32) := hc_20.trans (by decide)
        refine Own.goto 59 X19 hx (hb hby d4_89) (by decide) ?_
        refine Own.iload 61 X19 hx (hb hby d4_59) rfl rfl ?_
        refine Own.iload 63 X19 hx (hb hby d4_61) rfl rfl ?_
        refine Own.icmp_ge 92 66 X19 hx (hb hby d4_63) (by decide) rfl (fun tk => absurd tk (by decide)) (fun tk => ?_)
        refine Own.aload 68 X19 hx (hb hby d4_66) rfl rfl rfl ?_
        refine Own.iload 70 X19 hx (hb hby d4_68) rfl rfl ?_
        refine Own.iaload 71 X19 hx hZ e19 (v1) Vf_18 (by decide) rfl (hb hby d4_70) rfl ?_
        refine Own.istoreV 73 #[.val (.ref a), .val (.int (1 : Int32)), .val (.ref r), .val (.int (0 : Int32)), .val (.ref b), .val (.int (3 : Int32)), .val (.int (1 : Int32)), .val (.int v1)] X19 hx (hb hby d4_71) rfl rfl ?_
        refine Own.iload 75 X19 hx (hb hby d4_73) rfl rfl ?_
        refine Own.if_lt 86 78 X19 hx (hb hby d4_75) (by decide) rfl (fun tk => ?_) (fun tk => absurd q1 tk)
        refine Own.iinc 89 (fun c_21 => #[.val (.ref a), .val (.int (1 : Int32)), .val (.ref r), .val (.int (0 : Int32)), .val (.ref b), .val (.int (3 : Int32)), .val (.int c_21), .val (.int v1)]) X19 hx ((1 : Int32)) (hb hby d4_86) rfl rfl rfl (fun _ => rfl) fun c_21 hc_21 => ?_
        obtain rfl : c_21 = (2 : Int32) := hc_21.trans (by decide)
        refine Own.goto 59 X19 hx (hb hby d4_89) (by decide) ?_
        refine Own.iload 61 X19 hx (hb hby d4_59) rfl rfl ?_
        refine Own.iload 63 X19 hx (hb hby d4_61) rfl rfl ?_
        refine Own.icmp_ge 92 66 X19 hx (hb hby d4_63) (by decide) rfl (fun tk => absurd tk (by decide)) (fun tk => ?_)
        refine Own.aload 68 X19 hx (hb hby d4_66) rfl rfl rfl ?_
        refine Own.iload 70 X19 hx (hb hby d4_68) rfl rfl ?_
        refine Own.iaload 71 X19 hx hZ e19 (v2) Vf_18 (by decide) rfl (hb hby d4_70) rfl ?_
        refine Own.istoreV 73 #[.val (.ref a), .val (.int (1 : Int32)), .val (.ref r), .val (.int (0 : Int32)), .val (.ref b), .val (.int (3 : Int32)), .val (.int (2 : Int32)), .val (.int v2)] X19 hx (hb hby d4_71) rfl rfl ?_
        refine Own.iload 75 X19 hx (hb hby d4_73) rfl rfl ?_
        refine Own.if_lt 86 78 X19 hx (hb hby d4_75) (by decide) rfl (fun tk => absurd tk q2) (fun tk => ?_)
        refine Own.aloadN 79 X19 hx (hb hby d4_78) rfl rfl rfl ?_
        refine Own.iloadN 80 X19 hx (hb hby d4_79) rfl rfl ?_
        refine Own.iinc 83 (fun c_22 => #[.val (.ref a), .val (.int (1 : Int32)), .val (.ref r), .val (.int c_22), .val (.ref b), .val (.int (3 : Int32)), .val (.int (2 : Int32)), .val (.int v2)]) X19 hx ((1 : Int32)) (hb hby d4_80) rfl rfl rfl (fun _ => rfl) fun c_22 hc_22 => ?_
        obtain rfl : c_22 = (1 : Int32) := hc_22.trans (by decide)
        refine Own.iload 85 X19 hx (hb hby d4_83) rfl rfl ?_
        refine Own.iastore 86 X19 hx hZ e19 V15 (by decide) (Nat.le_of_ble_eq_true rfl) (hb hby d4_85) rfl ?_
        intro T23 h23 X23 e23 W23 A23
        have N23 := Fr.snoc X23 N0 g_r
        have Ff_25 := Ff_17.other W23 (Or.inl ne_a_r)
        have Vf_26 := Vf_18.other W23 ne_b_r
        have zl23 := Nat.le_trans zl15 (Nat.le_of_eq W23.size.symm)
        have K23 := K15.wr W23 (Or.inr sz_r)
        have V23 : Arv Z h23 r k15 .int (1 : Int32) [(.int v2)] (.int (0 : Int32)) := A23
        refine Own.iinc 89 (fun c_28 => #[.val (.ref a), .val (.int (1 : Int32)), .val (.ref r), .val (.int (1 : Int32)), .val (.ref b), .val (.int (3 : Int32)), .val (.int c_28), .val (.int v2)]) X23 hx ((1 : Int32)) (hb hby d4_86) rfl rfl rfl (fun _ => rfl) fun c_28 hc_28 => ?_
        obtain rfl : c_28 = (3 : Int32) := hc_28.trans (by decide)
        refine Own.goto 59 X23 hx (hb hby d4_89) (by decide) ?_
        refine Own.iload 61 X23 hx (hb hby d4_59) rfl rfl ?_
        refine Own.iload 63 X23 hx (hb hby d4_61) rfl rfl ?_
        refine Own.icmp_ge 92 66 X23 hx (hb hby d4_63) (by decide) rfl (fun tk => ?_) (fun tk => absurd tk (by decide))
        refine Own.aloadN 93 X23 hx (hb hby d4_92) rfl rfl rfl ?_
        refine Own.retRef X23 hx hlk rfl hret rfl (hb hby d4_93) (by decide) (by decide) ?_
        rw [e23]
        exact ⟨r, k15, [v2], rfl, N23, K23, sz_r, g_r, by rw [own_f, List.filter_cons_of_neg (p := fun x => decide (¬ x < 0)) (by rw [decide_eq_true_iff]; exact fun u => u q0), List.filter_cons_of_neg (p := fun x => decide (¬ x < 0)) (by rw [decide_eq_true_iff]; exact fun u => u q1), List.filter_cons_of_pos (p := fun x => decide (¬ x < 0)) (decide_eq_true q2), List.filter_nil], V23⟩
    ·
      refine Own.iinc 33 (fun c_29 => #[.val (.ref a), .val (.int c_29), .val (.ref b), .val (.int (3 : Int32)), .val (.int (1 : Int32)), .val (.int v1), .unset, .unset]) X1 hx ((1 : Int32)) (hb hby d4_30) rfl rfl rfl (fun _ => rfl) fun c_29 hc_29 => ?_
      obtain rfl : c_29 = (1 : Int32) := hc_29.trans (by decide)
      refine Own.iinc 36 (fun c_30 => #[.val (.ref a), .val (.int (1 : Int32)), .val (.ref b), .val (.int (3 : Int32)), .val (.int c_30), .val (.int v1), .unset, .unset]) X1 hx ((1 : Int32)) (hb hby d4_33) rfl rfl rfl (fun _ => rfl) fun c_30 hc_30 => ?_
      obtain rfl : c_30 = (2 : Int32) := hc_30.trans (by decide)
      refine Own.goto 13 X1 hx (hb hby d4_36) (by decide) ?_
      refine Own.iload 15 X1 hx (hb hby d4_13) rfl rfl ?_
      refine Own.iloadN 16 X1 hx (hb hby d4_15) rfl rfl ?_
      refine Own.icmp_ge 39 19 X1 hx (hb hby d4_16) (by decide) rfl (fun tk => absurd tk (by decide)) (fun tk => ?_)
      refine Own.aloadN 20 X1 hx (hb hby d4_19) rfl rfl rfl ?_
      refine Own.iload 22 X1 hx (hb hby d4_20) rfl rfl ?_
      refine Own.iaload 23 X1 hx hZ e1 (v2) V1 (by decide) rfl (hb hby d4_22) rfl ?_
      refine Own.istoreV 25 #[.val (.ref a), .val (.int (1 : Int32)), .val (.ref b), .val (.int (3 : Int32)), .val (.int (2 : Int32)), .val (.int v2), .unset, .unset] X1 hx (hb hby d4_23) rfl rfl ?_
      refine Own.iload 27 X1 hx (hb hby d4_25) rfl rfl ?_
      refine Own.if_lt 33 30 X1 hx (hb hby d4_27) (by decide) rfl (fun q2 => ?_) (fun q2 => ?_)
      ·
        refine Own.iinc 36 (fun c_31 => #[.val (.ref a), .val (.int (1 : Int32)), .val (.ref b), .val (.int (3 : Int32)), .val (.int c_31), .val (.int v2), .unset, .unset]) X1 hx ((1 : Int32)) (hb hby d4_33) rfl rfl rfl (fun _ => rfl) fun c_31 hc_31 => ?_
        obtain rfl : c_31 = (3 : Int32) := hc_31.trans (by decide)
        refine Own.goto 13 X1 hx (hb hby d4_36) (by decide) ?_
        refine Own.iload 15 X1 hx (hb hby d4_13) rfl rfl ?_
        refine Own.iloadN 16 X1 hx (hb hby d4_15) rfl rfl ?_
        refine Own.icmp_ge 39 19 X1 hx (hb hby d4_16) (by decide) rfl (fun tk => ?_) (fun tk => absurd tk (by decide))
        refine Own.iloadN 40 X1 hx (hb hby d4_39) rfl rfl ?_
        refine Own.newArr 42 1 X1 hx hZ (w 5 rfl) e1 (by decide) (by decide) (by decide) (hb hby d4_40) rfl (by decide) (by decide) ?_
        intro T32 h32 r k32 z32 X32 e32 E32 A32
        have ne_a_r : a ≠ r := Nat.ne_of_lt (Nat.lt_of_lt_of_le F3.lt (Nat.le_of_eq z32.symm))
        have ne_b_r : b ≠ r := Nat.ne_of_lt (Nat.lt_of_lt_of_le V1.lt (Nat.le_of_eq z32.symm))
        have g_r : n0 ≤ r := Nat.le_trans Z0 (Nat.le_of_eq z32.symm)
        have sz_r : h0.size ≤ r := Nat.le_trans (Keep.refl h0 []).1 (Nat.le_of_eq z32.symm)
        have K32 := (Keep.refl h0 []).ext E32
        have Ff_34 := F3.ext E32
        have Vf_35 := V1.ext E32
        have zl32 := Nat.le_trans Z0 E32.1
        have V32 : Arv Z h32 r k32 .int (1 : Int32) [(.int (0 : Int32))] (.int (0 : Int32)) := A32
        refine Own.astoreN 43 #[.val (.ref a), .val (.int (1 : Int32)), .val (.ref r), .val (.int (3 : Int32)), .val (.int (3 : Int32)), .val (.int v2), .unset, .unset] X32 hx (hb hby d4_42) rfl rfl rfl ?_
        refine Own.iconst 44 X32 hx ((0 : Int32)) (hb hby d4_43) rfl rfl ?_
        refine Own.istoreNV 45 #[.val (.ref a), .val (.int (1 : Int32)), .val (.ref r), .val (.int (0 : Int32)), .val (.int (3 : Int32)), .val (.int v2), .unset, .unset] X32 hx (hb hby d4_44) rfl rfl ?_
        refine Own.aloadN 46 X32 hx (hb hby d4_45) rfl rfl rfl ?_
        refine Own.getFld 49 X32 hx hZ hown (host := "") (Or.inl (w 29 rfl)) Via.refl e32 Ff_34 (hb hby d4_46) rfl ?_
        intro T36 X36 e36
        refine Own.astore 51 #[.val (.ref a), .val (.int (1 : Int32)), .val (.ref r), .val (.int (0 : Int32)), .val (.ref b), .val (.int v2), .unset, .unset] X36 hx (hb hby d4_49) rfl rfl rfl ?_
        refine Own.aload 53 X36 hx (hb hby d4_51) rfl rfl rfl ?_
        refine Own.arrLen 54 X36 hx hZ e36 Vf_35 (hb hby d4_53) rfl ?_
        refine Own.istoreV 56 #[.val (.ref a), .val (.int (1 : Int32)), .val (.ref r), .val (.int (0 : Int32)), .val (.ref b), .val (.int (3 : Int32)), .unset, .unset] X36 hx (hb hby d4_54) rfl rfl ?_
        refine Own.iconst 57 X36 hx ((0 : Int32)) (hb hby d4_56) rfl rfl ?_
        refine Own.istoreV 59 #[.val (.ref a), .val (.int (1 : Int32)), .val (.ref r), .val (.int (0 : Int32)), .val (.ref b), .val (.int (3 : Int32)), .val (.int (0 : Int32)), .unset] X36 hx (hb hby d4_57) rfl rfl ?_
        refine Own.iload 61 X36 hx (hb hby d4_59) rfl rfl ?_
        refine Own.iload 63 X36 hx (hb hby d4_61) rfl rfl ?_
        refine Own.icmp_ge 92 66 X36 hx (hb hby d4_63) (by decide) rfl (fun tk => absurd tk (by decide)) (fun tk => ?_)
        refine Own.aload 68 X36 hx (hb hby d4_66) rfl rfl rfl ?_
        refine Own.iload 70 X36 hx (hb hby d4_68) rfl rfl ?_
        refine Own.iaload 71 X36 hx hZ e36 (v0) Vf_35 (by decide) rfl (hb hby d4_70) rfl ?_
        refine Own.istoreV 73 #[.val (.ref a), .val (.int (1 : Int32)), .val (.ref r), .val (.int (0 : Int32)), .val (.ref b), .val (.int (3 : Int32)), .val (.int (0 : Int32)), .val (.int v0)] X36 hx (hb hby d4_71) rfl rfl ?_
        refine Own.iload 75 X36 hx (hb hby d4_73) rfl rfl ?_
        refine Own.if_lt 86 78 X36 hx (hb hby d4_75) (by decide) rfl (fun tk => ?_) (fun tk => absurd q0 tk)
        refine Own.iinc 89 (fun c_37 => #[.val (.ref a), .val (.int (1 : Int32)), .val (.ref r), .val (.int (0 : Int32)), .val (.ref b), .val (.int (3 : Int32)), .val (.int c_37), .val (.int v0)]) X36 hx ((1 : Int32)) (hb hby d4_86) rfl rfl rfl (fun _ => rfl) fun c_37 hc_37 => ?_
        obtain rfl : c_37 = (1 : Int32) := hc_37.trans (by decide)
        refine Own.goto 59 X36 hx (hb hby d4_89) (by decide) ?_
        refine Own.iload 61 X36 hx (hb hby d4_59) rfl rfl ?_
        refine Own.iload 63 X36 hx (hb hby d4_61) rfl rfl ?_
        refine Own.icmp_ge 92 66 X36 hx (hb hby d4_63) (by decide) rfl (fun tk => absurd tk (by decide)) (fun tk => ?_)
        refine Own.aload 68 X36 hx (hb hby d4_66) rfl rfl rfl ?_
        refine Own.iload 70 X36 hx (hb hby d4_68) rfl rfl ?_
        refine Own.iaload 71 X36 hx hZ e36 (v1) Vf_35 (by decide) rfl (hb hby d4_70) rfl ?_
        refine Own.istoreV 73 #[.val (.ref a), .val (.int (1 : Int32)), .val (.ref r), .val (.int (0 : Int32)), .val (.ref b), .val (.int (3 : Int32)), .val (.int (1 : Int32)), .val (.int v1)] X36 hx (hb hby d4_71) rfl rfl ?_
        refine Own.iload 75 X36 hx (hb hby d4_73) rfl rfl ?_
        refine Own.if_lt 86 78 X36 hx (hb hby d4_75) (by decide) rfl (fun tk => absurd tk q1) (fun tk => ?_)
        refine Own.aloadN 79 X36 hx (hb hby d4_78) rfl rfl rfl ?_
        refine Own.iloadN 80 X36 hx (hb hby d4_79) rfl rfl ?_
        refine Own.iinc 83 (fun c_38 => #[.val (.ref a), .val (.int (1 : Int32)), .val (.ref r), .val (.int c_38), .val (.ref b), .val (.int (3 : Int32)), .val (.int (1 : Int32)), .val (.int v1)]) X36 hx ((1 : Int32)) (hb hby d4_80) rfl rfl rfl (fun _ => rfl) fun c_38 hc_38 => ?_
        obtain rfl : c_38 = (1 : Int32) := hc_38.trans (by decide)
        refine Own.iload 85 X36 hx (hb hby d4_83) rfl rfl ?_
        refine Own.iastore 86 X36 hx hZ e36 V32 (by decide) (Nat.le_of_ble_eq_true rfl) (hb hby d4_85) rfl ?_
        intro T39 h39 X39 e39 W39 A39
        have N39 := Fr.snoc X39 N0 g_r
        have Ff_41 := Ff_34.other W39 (Or.inl ne_a_r)
        have Vf_42 := Vf_35.other W39 ne_b_r
        have zl39 := Nat.le_trans zl32 (Nat.le_of_eq W39.size.symm)
        have K39 := K32.wr W39 (Or.inr sz_r)
        have V39 : Arv Z h39 r k32 .int (1 : Int32) [(.int v1)] (.int (0 : Int32)) := A39
        refine Own.iinc 89 (fun c_44 => #[.val (.ref a), .val (.int (1 : Int32)), .val (.ref r), .val (.int (1 : Int32)), .val (.ref b), .val (.int (3 : Int32)), .val (.int c_44), .val (.int v1)]) X39 hx ((1 : Int32)) (hb hby d4_86) rfl rfl rfl (fun _ => rfl) fun c_44 hc_44 => ?_
        obtain rfl : c_44 = (2 : Int32) := hc_44.trans (by decide)
        refine Own.goto 59 X39 hx (hb hby d4_89) (by decide) ?_
        refine Own.iload 61 X39 hx (hb hby d4_59) rfl rfl ?_
        refine Own.iload 63 X39 hx (hb hby d4_61) rfl rfl ?_
        refine Own.icmp_ge 92 66 X39 hx (hb hby d4_63) (by decide) rfl (fun tk => absurd tk (by decide)) (fun tk => ?_)
        refine Own.aload 68 X39 hx (hb hby d4_66) rfl rfl rfl ?_
        refine Own.iload 70 X39 hx (hb hby d4_68) rfl rfl ?_
        refine Own.iaload 71 X39 hx hZ e39 (v2) Vf_42 (by decide) rfl (hb hby d4_70) rfl ?_
        refine Own.istoreV 73 #[.val (.ref a), .val (.int (1 : Int32)), .val (.ref r), .val (.int (1 : Int32)), .val (.ref b), .val (.int (3 : Int32)), .val (.int (2 : Int32)), .val (.int v2)] X39 hx (hb hby d4_71) rfl rfl ?_
        refine Own.iload 75 X39 hx (hb hby d4_73) rfl rfl ?_
        refine Own.if_lt 86 78 X39 hx (hb hby d4_75) (by decide) rfl (fun tk => ?_) (fun tk => absurd q2 tk)
        refine Own.iinc 89 (fun c_45 => #[.val (.ref a), .val (.int (1 : Int32)), .val (.ref r), .val (.int (1 : Int32)), .val (.ref b), .val (.int (3 : Int32)), .val (.int c_45), .val (.int v2)]) X39 hx ((1 : Int32)) (hb hby d4_86) rfl rfl rfl (fun _ => rfl) fun c_45 hc_45 => ?_
        obtain rfl : c_45 = (3 : Int32) := hc_45.trans (by decide)
        refine Own.goto 59 X39 hx (hb hby d4_89) (by decide) ?_
        refine Own.iload 61 X39 hx (hb hby d4_59) rfl rfl ?_
        refine Own.iload 63 X39 hx (hb hby d4_61) rfl rfl ?_
        refine Own.icmp_ge 92 66 X39 hx (hb hby d4_63) (by decide) rfl (fun tk => ?_) (fun tk => absurd tk (by decide))
        refine Own.aloadN 93 X39 hx (hb hby d4_92) rfl rfl rfl ?_
        refine Own.retRef X39 hx hlk rfl hret rfl (hb hby d4_93) (by decide) (by decide) ?_
        rw [e39]
        exact ⟨r, k32, [v1], rfl, N39, K39, sz_r, g_r, by rw [own_f, List.filter_cons_of_neg (p := fun x => decide (¬ x < 0)) (by rw [decide_eq_true_iff]; exact fun u => u q0), List.filter_cons_of_pos (p := fun x => decide (¬ x < 0)) (decide_eq_true q1), List.filter_cons_of_neg (p := fun x => decide (¬ x < 0)) (by rw [decide_eq_true_iff]; exact fun u => u q2), List.filter_nil], V39⟩
      ·
        refine Own.iinc 33 (fun c_46 => #[.val (.ref a), .val (.int c_46), .val (.ref b), .val (.int (3 : Int32)), .val (.int (2 : Int32)), .val (.int v2), .unset, .unset]) X1 hx ((1 : Int32)) (hb hby d4_30) rfl rfl rfl (fun _ => rfl) fun c_46 hc_46 => ?_
        obtain rfl : c_46 = (2 : Int32) := hc_46.trans (by decide)
        refine Own.iinc 36 (fun c_47 => #[.val (.ref a), .val (.int (2 : Int32)), .val (.ref b), .val (.int (3 : Int32)), .val (.int c_47), .val (.int v2), .unset, .unset]) X1 hx ((1 : Int32)) (hb hby d4_33) rfl rfl rfl (fun _ => rfl) fun c_47 hc_47 => ?_
        obtain rfl : c_47 = (3 : Int32) := hc_47.trans (by decide)
        refine Own.goto 13 X1 hx (hb hby d4_36) (by decide) ?_
        refine Own.iload 15 X1 hx (hb hby d4_13) rfl rfl ?_
        refine Own.iloadN 16 X1 hx (hb hby d4_15) rfl rfl ?_
        refine Own.icmp_ge 39 19 X1 hx (hb hby d4_16) (by decide) rfl (fun tk => ?_) (fun tk => absurd tk (by decide))
        refine Own.iloadN 40 X1 hx (hb hby d4_39) rfl rfl ?_
        refine Own.newArr 42 2 X1 hx hZ (w 5 rfl) e1 (by decide) (by decide) (by decide) (hb hby d4_40) rfl (by decide) (by decide) ?_
        intro T48 h48 r k48 z48 X48 e48 E48 A48
        have ne_a_r : a ≠ r := Nat.ne_of_lt (Nat.lt_of_lt_of_le F3.lt (Nat.le_of_eq z48.symm))
        have ne_b_r : b ≠ r := Nat.ne_of_lt (Nat.lt_of_lt_of_le V1.lt (Nat.le_of_eq z48.symm))
        have g_r : n0 ≤ r := Nat.le_trans Z0 (Nat.le_of_eq z48.symm)
        have sz_r : h0.size ≤ r := Nat.le_trans (Keep.refl h0 []).1 (Nat.le_of_eq z48.symm)
        have K48 := (Keep.refl h0 []).ext E48
        have Ff_50 := F3.ext E48
        have Vf_51 := V1.ext E48
        have zl48 := Nat.le_trans Z0 E48.1
        have V48 : Arv Z h48 r k48 .int (2 : Int32) [(.int (0 : Int32)), (.int (0 : Int32))] (.int (0 : Int32)) := A48
        refine Own.astoreN 43 #[.val (.ref a), .val (.int (2 : Int32)), .val (.ref r), .val (.int (3 : Int32)), .val (.int (3 : Int32)), .val (.int v2), .unset, .unset] X48 hx (hb hby d4_42) rfl rfl rfl ?_
        refine Own.iconst 44 X48 hx ((0 : Int32)) (hb hby d4_43) rfl rfl ?_
        refine Own.istoreNV 45 #[.val (.ref a), .val (.int (2 : Int32)), .val (.ref r), .val (.int (0 : Int32)), .val (.int (3 : Int32)), .val (.int v2), .unset, .unset] X48 hx (hb hby d4_44) rfl rfl ?_
        refine Own.aloadN 46 X48 hx (hb hby d4_45) rfl rfl rfl ?_
        refine Own.getFld 49 X48 hx hZ hown (host := "") (Or.inl (w 29 rfl)) Via.refl e48 Ff_50 (hb hby d4_46) rfl ?_
        intro T52 X52 e52
        refine Own.astore 51 #[.val (.ref a), .val (.int (2 : Int32)), .val (.ref r), .val (.int (0 : Int32)), .val (.ref b), .val (.int v2), .unset, .unset] X52 hx (hb hby d4_49) rfl rfl rfl ?_
        refine Own.aload 53 X52 hx (hb hby d4_51) rfl rfl rfl ?_
        refine Own.arrLen 54 X52 hx hZ e52 Vf_51 (hb hby d4_53) rfl ?_
        refine Own.istoreV 56 #[.val (.ref a), .val (.int (2 : Int32)), .val (.ref r), .val (.int (0 : Int32)), .val (.ref b), .val (.int (3 : Int32)), .unset, .unset] X52 hx (hb hby d4_54) rfl rfl ?_
        refine Own.iconst 57 X52 hx ((0 : Int32)) (hb hby d4_56) rfl rfl ?_
        refine Own.istoreV 59 #[.val (.ref a), .val (.int (2 : Int32)), .val (.ref r), .val (.int (0 : Int32)), .val (.ref b), .val (.int (3 : Int32)), .val (.int (0 : Int32)), .unset] X52 hx (hb hby d4_57) rfl rfl ?_
        refine Own.iload 61 X52 hx (hb hby d4_59) rfl rfl ?_
        refine Own.iload 63 X52 hx (hb hby d4_61) rfl rfl ?_
        refine Own.icmp_ge 92 66 X52 hx (hb hby d4_63) (by decide) rfl (fun tk => absurd tk (by decide)) (fun tk => ?_)
        refine Own.aload 68 X52 hx (hb hby d4_66) rfl rfl rfl ?_
        refine Own.iload 70 X52 hx (hb hby d4_68) rfl rfl ?_
        refine Own.iaload 71 X52 hx hZ e52 (v0) Vf_51 (by decide) rfl (hb hby d4_70) rfl ?_
        refine Own.istoreV 73 #[.val (.ref a), .val (.int (2 : Int32)), .val (.ref r), .val (.int (0 : Int32)), .val (.ref b), .val (.int (3 : Int32)), .val (.int (0 : Int32)), .val (.int v0)] X52 hx (hb hby d4_71) rfl rfl ?_
        refine Own.iload 75 X52 hx (hb hby d4_73) rfl rfl ?_
        refine Own.if_lt 86 78 X52 hx (hb hby d4_75) (by decide) rfl (fun tk => ?_) (fun tk => absurd q0 tk)
        refine Own.iinc 89 (fun c_53 => #[.val (.ref a), .val (.int (2 : Int32)), .val (.ref r), .val (.int (0 : Int32)), .val (.ref b), .val (.int (3 : Int32)), .val (.int c_53), .val (.int v0)]) X52 hx ((1 : Int32)) (hb hby d4_86) rfl rfl rfl (fun _ => rfl) fun c_53 hc_53 => ?_
        obtain rfl : c_53 = (1 : Int32) := hc_53.trans (by decide)
        refine Own.goto 59 X52 hx (hb hby d4_89) (by decide) ?_
        refine Own.iload 61 X52 hx (hb hby d4_59) rfl rfl ?_
        refine Own.iload 63 X52 hx (hb hby d4_61) rfl rfl ?_
        refine Own.icmp_ge 92 66 X52 hx (hb hby d4_63) (by decide) rfl (fun tk => absurd tk (by decide)) (fun tk => ?_)
        refine Own.aload 68 X52 hx (hb hby d4_66) rfl rfl rfl ?_
        refine Own.iload 70 X52 hx (hb hby d4_68) rfl rfl ?_
        refine Own.iaload 71 X52 hx hZ e52 (v1) Vf_51 (by decide) rfl (hb hby d4_70) rfl ?_
        refine Own.istoreV 73 #[.val (.ref a), .val (.int (2 : Int32)), .val (.ref r), .val (.int (0 : Int32)), .val (.ref b), .val (.int (3 : Int32)), .val (.int (1 : Int32)), .val (.int v1)] X52 hx (hb hby d4_71) rfl rfl ?_
        refine Own.iload 75 X52 hx (hb hby d4_73) rfl rfl ?_
        refine Own.if_lt 86 78 X52 hx (hb hby d4_75) (by decide) rfl (fun tk => absurd tk q1) (fun tk => ?_)
        refine Own.aloadN 79 X52 hx (hb hby d4_78) rfl rfl rfl ?_
        refine Own.iloadN 80 X52 hx (hb hby d4_79) rfl rfl ?_
        refine Own.iinc 83 (fun c_54 => #[.val (.ref a), .val (.int (2 : Int32)), .val (.ref r), .val (.int c_54), .val (.ref b), .val (.int (3 : Int32)), .val (.int (1 : Int32)), .val (.int v1)]) X52 hx ((1 : Int32)) (hb hby d4_80) rfl rfl rfl (fun _ => rfl) fun c_54 hc_54 => ?_
        obtain rfl : c_54 = (1 : Int32) := hc_54.trans (by decide)
        refine Own.iload 85 X52 hx (hb hby d4_83) rfl rfl ?_
        refine Own.iastore 86 X52 hx hZ e52 V48 (by decide) (Nat.le_of_ble_eq_true rfl) (hb hby d4_85) rfl ?_
        intro T55 h55 X55 e55 W55 A55
        have N55 := Fr.snoc X55 N0 g_r
        have Ff_57 := Ff_50.other W55 (Or.inl ne_a_r)
        have Vf_58 := Vf_51.other W55 ne_b_r
        have zl55 := Nat.le_trans zl48 (Nat.le_of_eq W55.size.symm)
        have K55 := K48.wr W55 (Or.inr sz_r)
        have V55 : Arv Z h55 r k48 .int (2 : Int32) [(.int v1), (.int (0 : Int32))] (.int (0 : Int32)) := A55
        refine Own.iinc 89 (fun c_60 => #[.val (.ref a), .val (.int (2 : Int32)), .val (.ref r), .val (.int (1 : Int32)), .val (.ref b), .val (.int (3 : Int32)), .val (.int c_60), .val (.int v1)]) X55 hx ((1 : Int32)) (hb hby d4_86) rfl rfl rfl (fun _ => rfl) fun c_60 hc_60 => ?_
        obtain rfl : c_60 = (2 : Int32) := hc_60.trans (by decide)
        refine Own.goto 59 X55 hx (hb hby d4_89) (by decide) ?_
        refine Own.iload 61 X55 hx (hb hby d4_59) rfl rfl ?_
        refine Own.iload 63 X55 hx (hb hby d4_61) rfl rfl ?_
        refine Own.icmp_ge 92 66 X55 hx (hb hby d4_63) (by decide) rfl (fun tk => absurd tk (by decide)) (fun tk => ?_)
        refine Own.aload 68 X55 hx (hb hby d4_66) rfl rfl rfl ?_
        refine Own.iload 70 X55 hx (hb hby d4_68) rfl rfl ?_
        refine Own.iaload 71 X55 hx hZ e55 (v2) Vf_58 (by decide) rfl (hb hby d4_70) rfl ?_
        refine Own.istoreV 73 #[.val (.ref a), .val (.int (2 : Int32)), .val (.ref r), .val (.int (1 : Int32)), .val (.ref b), .val (.int (3 : Int32)), .val (.int (2 : Int32)), .val (.int v2)] X55 hx (hb hby d4_71) rfl rfl ?_
        refine Own.iload 75 X55 hx (hb hby d4_73) rfl rfl ?_
        refine Own.if_lt 86 78 X55 hx (hb hby d4_75) (by decide) rfl (fun tk => absurd tk q2) (fun tk => ?_)
        refine Own.aloadN 79 X55 hx (hb hby d4_78) rfl rfl rfl ?_
        refine Own.iloadN 80 X55 hx (hb hby d4_79) rfl rfl ?_
        refine Own.iinc 83 (fun c_61 => #[.val (.ref a), .val (.int (2 : Int32)), .val (.ref r), .val (.int c_61), .val (.ref b), .val (.int (3 : Int32)), .val (.int (2 : Int32)), .val (.int v2)]) X55 hx ((1 : Int32)) (hb hby d4_80) rfl rfl rfl (fun _ => rfl) fun c_61 hc_61 => ?_
        obtain rfl : c_61 = (2 : Int32) := hc_61.trans (by decide)
        refine Own.iload 85 X55 hx (hb hby d4_83) rfl rfl ?_
        refine Own.iastore 86 X55 hx hZ e55 V55 (by decide) (Nat.le_of_ble_eq_true rfl) (hb hby d4_85) rfl ?_
        intro T62 h62 X62 e62 W62 A62
        have N62 := Fr.snoc X62 N55 g_r
        have Ff_64 := Ff_57.other W62 (Or.inl ne_a_r)
        have Vf_65 := Vf_58.other W62 ne_b_r
        have zl62 := Nat.le_trans zl55 (Nat.le_of_eq W62.size.symm)
        have K62 := K55.wr W62 (Or.inr sz_r)
        have V62 : Arv Z h62 r k48 .int (2 : Int32) [(.int v1), (.int v2)] (.int (0 : Int32)) := A62
        refine Own.iinc 89 (fun c_67 => #[.val (.ref a), .val (.int (2 : Int32)), .val (.ref r), .val (.int (2 : Int32)), .val (.ref b), .val (.int (3 : Int32)), .val (.int c_67), .val (.int v2)]) X62 hx ((1 : Int32)) (hb hby d4_86) rfl rfl rfl (fun _ => rfl) fun c_67 hc_67 => ?_
        obtain rfl : c_67 = (3 : Int32) := hc_67.trans (by decide)
        refine Own.goto 59 X62 hx (hb hby d4_89) (by decide) ?_
        refine Own.iload 61 X62 hx (hb hby d4_59) rfl rfl ?_
        refine Own.iload 63 X62 hx (hb hby d4_61) rfl rfl ?_
        refine Own.icmp_ge 92 66 X62 hx (hb hby d4_63) (by decide) rfl (fun tk => ?_) (fun tk => absurd tk (by decide))
        refine Own.aloadN 93 X62 hx (hb hby d4_92) rfl rfl rfl ?_
        refine Own.retRef X62 hx hlk rfl hret rfl (hb hby d4_93) (by decide) (by decide) ?_
        rw [e62]
        exact ⟨r, k48, [v1, v2], rfl, N62, K62, sz_r, g_r, by rw [own_f, List.filter_cons_of_neg (p := fun x => decide (¬ x < 0)) (by rw [decide_eq_true_iff]; exact fun u => u q0), List.filter_cons_of_pos (p := fun x => decide (¬ x < 0)) (decide_eq_true q1), List.filter_cons_of_pos (p := fun x => decide (¬ x < 0)) (decide_eq_true q2), List.filter_nil], V62⟩
  ·
    refine Own.iinc 33 (fun c_68 => #[.val (.ref a), .val (.int c_68), .val (.ref b), .val (.int (3 : Int32)), .val (.int (0 : Int32)), .val (.int v0), .unset, .unset]) X1 hx ((1 : Int32)) (hb hby d4_30) rfl rfl rfl (fun _ => rfl) fun c_68 hc_68 => ?_
    obtain rfl : c_68 = (1 : Int32) := hc_68.trans (by decide)
    refine Own.iinc 36 (fun c_69 => #[.val (.ref a), .val (.int (1 : Int32)), .val (.ref b), .val (.int (3 : Int32)), .val (.int c_69), .val (.int v0), .unset, .unset]) X1 hx ((1 : Int32)) (hb hby d4_33) rfl rfl rfl (fun _ => rfl) fun c_69 hc_69 => ?_
    obtain rfl : c_69 = (1 : Int32) := hc_69.trans (by decide)
    refine Own.goto 13 X1 hx (hb hby d4_36) (by decide) ?_
    refine Own.iload 15 X1 hx (hb hby d4_13) rfl rfl ?_
    refine Own.iloadN 16 X1 hx (hb hby d4_15) rfl rfl ?_
    refine Own.icmp_ge 39 19 X1 hx (hb hby d4_16) (by decide) rfl (fun tk => absurd tk (by decide)) (fun tk => ?_)
    refine Own.aloadN 20 X1 hx (hb hby d4_19) rfl rfl rfl ?_
    refine Own.iload 22 X1 hx (hb hby d4_20) rfl rfl ?_
    refine Own.iaload 23 X1 hx hZ e1 (v1) V1 (by decide) rfl (hb hby d4_22) rfl ?_
    refine Own.istoreV 25 #[.val (.ref a), .val (.int (1 : Int32)), .val (.ref b), .val (.int (3 : Int32)), .val (.int (1 : Int32)), .val (.int v1), .unset, .unset] X1 hx (hb hby d4_23) rfl rfl ?_
    refine Own.iload 27 X1 hx (hb hby d4_25) rfl rfl ?_
    refine Own.if_lt 33 30 X1 hx (hb hby d4_27) (by decide) rfl (fun q1 => ?_) (fun q1 => ?_)
    ·
      refine Own.iinc 36 (fun c_70 => #[.val (.ref a), .val (.int (1 : Int32)), .val (.ref b), .val (.int (3 : Int32)), .val (.int c_70), .val (.int v1), .unset, .unset]) X1 hx ((1 : Int32)) (hb hby d4_33) rfl rfl rfl (fun _ => rfl) fun c_70 hc_70 => ?_
      obtain rfl : c_70 = (2 : Int32) := hc_70.trans (by decide)
      refine Own.goto 13 X1 hx (hb hby d4_36) (by decide) ?_
      refine Own.iload 15 X1 hx (hb hby d4_13) rfl rfl ?_
      refine Own.iloadN 16 X1 hx (hb hby d4_15) rfl rfl ?_
      refine Own.icmp_ge 39 19 X1 hx (hb hby d4_16) (by decide) rfl (fun tk => absurd tk (by decide)) (fun tk => ?_)
      refine Own.aloadN 20 X1 hx (hb hby d4_19) rfl rfl rfl ?_
      refine Own.iload 22 X1 hx (hb hby d4_20) rfl rfl ?_
      refine Own.iaload 23 X1 hx hZ e1 (v2) V1 (by decide) rfl (hb hby d4_22) rfl ?_
      refine Own.istoreV 25 #[.val (.ref a), .val (.int (1 : Int32)), .val (.ref b), .val (.int (3 : Int32)), .val (.int (2 : Int32)), .val (.int v2), .unset, .unset] X1 hx (hb hby d4_23) rfl rfl ?_
      refine Own.iload 27 X1 hx (hb hby d4_25) rfl rfl ?_
      refine Own.if_lt 33 30 X1 hx (hb hby d4_27) (by decide) rfl (fun q2 => ?_) (fun q2 => ?_)
      ·
        refine Own.iinc 36 (fun c_71 => #[.val (.ref a), .val (.int (1 : Int32)), .val (.ref b), .val (.int (3 : Int32)), .val (.int c_71), .val (.int v2), .unset, .unset]) X1 hx ((1 : Int32)) (hb hby d4_33) rfl rfl rfl (fun _ => rfl) fun c_71 hc_71 => ?_
        obtain rfl : c_71 = (3 : Int32) := hc_71.trans (by decide)
        refine Own.goto 13 X1 hx (hb hby d4_36) (by decide) ?_
        refine Own.iload 15 X1 hx (hb hby d4_13) rfl rfl ?_
        refine Own.iloadN 16 X1 hx (hb hby d4_15) rfl rfl ?_
        refine Own.icmp_ge 39 19 X1 hx (hb hby d4_16) (by decide) rfl (fun tk => ?_) (fun tk => absurd tk (by decide))
        refine Own.iloadN 40 X1 hx (hb hby d4_39) rfl rfl ?_
        refine Own.newArr 42 1 X1 hx hZ (w 5 rfl) e1 (by decide) (by decide) (by decide) (hb hby d4_40) rfl (by decide) (by decide) ?_
        intro T72 h72 r k72 z72 X72 e72 E72 A72
        have ne_a_r : a ≠ r := Nat.ne_of_lt (Nat.lt_of_lt_of_le F3.lt (Nat.le_of_eq z72.symm))
        have ne_b_r : b ≠ r := Nat.ne_of_lt (Nat.lt_of_lt_of_le V1.lt (Nat.le_of_eq z72.symm))
        have g_r : n0 ≤ r := Nat.le_trans Z0 (Nat.le_of_eq z72.symm)
        have sz_r : h0.size ≤ r := Nat.le_trans (Keep.refl h0 []).1 (Nat.le_of_eq z72.symm)
        have K72 := (Keep.refl h0 []).ext E72
        have Ff_74 := F3.ext E72
        have Vf_75 := V1.ext E72
        have zl72 := Nat.le_trans Z0 E72.1
        have V72 : Arv Z h72 r k72 .int (1 : Int32) [(.int (0 : Int32))] (.int (0 : Int32)) := A72
        refine Own.astoreN 43 #[.val (.ref a), .val (.int (1 : Int32)), .val (.ref r), .val (.int (3 : Int32)), .val (.int (3 : Int32)), .val (.int v2), .unset, .unset] X72 hx (hb hby d4_42) rfl rfl rfl ?_
        refine Own.iconst 44 X72 hx ((0 : Int32)) (hb hby d4_43) rfl rfl ?_
        refine Own.istoreNV 45 #[.val (.ref a), .val (.int (1 : Int32)), .val (.ref r), .val (.int (0 : Int32)), .val (.int (3 : Int32)), .val (.int v2), .unset, .unset] X72 hx (hb hby d4_44) rfl rfl ?_
        refine Own.aloadN 46 X72 hx (hb hby d4_45) rfl rfl rfl ?_
        refine Own.getFld 49 X72 hx hZ hown (host := "") (Or.inl (w 29 rfl)) Via.refl e72 Ff_74 (hb hby d4_46) rfl ?_
        intro T76 X76 e76
        refine Own.astore 51 #[.val (.ref a), .val (.int (1 : Int32)), .val (.ref r), .val (.int (0 : Int32)), .val (.ref b), .val (.int v2), .unset, .unset] X76 hx (hb hby d4_49) rfl rfl rfl ?_
        refine Own.aload 53 X76 hx (hb hby d4_51) rfl rfl rfl ?_
        refine Own.arrLen 54 X76 hx hZ e76 Vf_75 (hb hby d4_53) rfl ?_
        refine Own.istoreV 56 #[.val (.ref a), .val (.int (1 : Int32)), .val (.ref r), .val (.int (0 : Int32)), .val (.ref b), .val (.int (3 : Int32)), .unset, .unset] X76 hx (hb hby d4_54) rfl rfl ?_
        refine Own.iconst 57 X76 hx ((0 : Int32)) (hb hby d4_56) rfl rfl ?_
        refine Own.istoreV 59 #[.val (.ref a), .val (.int (1 : Int32)), .val (.ref r), .val (.int (0 : Int32)), .val (.ref b), .val (.int (3 : Int32)), .val (.int (0 : Int32)), .unset] X76 hx (hb hby d4_57) rfl rfl ?_
        refine Own.iload 61 X76 hx (hb hby d4_59) rfl rfl ?_
        refine Own.iload 63 X76 hx (hb hby d4_61) rfl rfl ?_
        refine Own.icmp_ge 92 66 X76 hx (hb hby d4_63) (by decide) rfl (fun tk => absurd tk (by decide)) (fun tk => ?_)
        refine Own.aload 68 X76 hx (hb hby d4_66) rfl rfl rfl ?_
        refine Own.iload 70 X76 hx (hb hby d4_68) rfl rfl ?_
        refine Own.iaload 71 X76 hx hZ e76 (v0) Vf_75 (by decide) rfl (hb hby d4_70) rfl ?_
        refine Own.istoreV 73 #[.val (.ref a), .val (.int (1 : Int32)), .val (.ref r), .val (.int (0 : Int32)), .val (.ref b), .val (.int (3 : Int32)), .val (.int (0 : Int32)), .val (.int v0)] X76 hx (hb hby d4_71) rfl rfl ?_
        refine Own.iload 75 X76 hx (hb hby d4_73) rfl rfl ?_
        refine Own.if_lt 86 78 X76 hx (hb hby d4_75) (by decide) rfl (fun tk => absurd tk q0) (fun tk => ?_)
        refine Own.aloadN 79 X76 hx (hb hby d4_78) rfl rfl rfl ?_
        refine Own.iloadN 80 X76 hx (hb hby d4_79) rfl rfl ?_
        refine Own.iinc 83 (fun c_77 => #[.val (.ref a), .val (.int (1 : Int32)), .val (.ref r), .val (.int c_77), .val (.ref b), .val (.int (3 : Int32)), .val (.int (0 : Int32)), .val (.int v0)]) X76 hx ((1 : Int32)) (hb hby d4_80) rfl rfl rfl (fun _ => rfl) fun c_77 hc_77 => ?_
        obtain rfl : c_77 = (1 : Int32) := hc_77.trans (by decide)
        refine Own.iload 85 X76 hx (hb hby d4_83) rfl rfl ?_
        refine Own.iastore 86 X76 hx hZ e76 V72 (by decide) (Nat.le_of_ble_eq_true rfl) (hb hby d4_85) rfl ?_
        intro T78 h78 X78 e78 W78 A78
        have N78 := Fr.snoc X78 N0 g_r
        have Ff_80 := Ff_74.other W78 (Or.inl ne_a_r)
        have Vf_81 := Vf_75.other W78 ne_b_r
        have zl78 := Nat.le_trans zl72 (Nat.le_of_eq W78.size.symm)
        have K78 := K72.wr W78 (Or.inr sz_r)
        have V78 : Arv Z h78 r k72 .int (1 : Int32) [(.int v0)] (.int (0 : Int32)) := A78
        refine Own.iinc 89 (fun c_83 => #[.val (.ref a), .val (.int (1 : Int32)), .val (.ref r), .val (.int (1 : Int32)), .val (.ref b), .val (.int (3 : Int32)), .val (.int c_83), .val (.int v0)]) X78 hx ((1 : Int32)) (hb hby d4_86) rfl rfl rfl (fun _ => rfl) fun c_83 hc_83 => ?_
        obtain rfl : c_83 = (1 : Int32) := hc_83.trans (by decide)
        refine Own.goto 59 X78 hx (hb hby d4_89) (by decide) ?_
        refine Own.iload 61 X78 hx (hb hby d4_59) rfl rfl ?_
        refine Own.iload 63 X78 hx (hb hby d4_61) rfl rfl ?_
        refine Own.icmp_ge 92 66 X78 hx (hb hby d4_63) (by decide) rfl (fun tk => absurd tk (by decide)) (fun tk => ?_)
        refine Own.aload 68 X78 hx (hb hby d4_66) rfl rfl rfl ?_
        refine Own.iload 70 X78 hx (hb hby d4_68) rfl rfl ?_
        refine Own.iaload 71 X78 hx hZ e78 (v1) Vf_81 (by decide) rfl (hb hby d4_70) rfl ?_
        refine Own.istoreV 73 #[.val (.ref a), .val (.int (1 : Int32)), .val (.ref r), .val (.int (1 : Int32)), .val (.ref b), .val (.int (3 : Int32)), .val (.int (1 : Int32)), .val (.int v1)] X78 hx (hb hby d4_71) rfl rfl ?_
        refine Own.iload 75 X78 hx (hb hby d4_73) rfl rfl ?_
        refine Own.if_lt 86 78 X78 hx (hb hby d4_75) (by decide) rfl (fun tk => ?_) (fun tk => absurd q1 tk)
        refine Own.iinc 89 (fun c_84 => #[.val (.ref a), .val (.int (1 : Int32)), .val (.ref r), .val (.int (1 : Int32)), .val (.ref b), .val (.int (3 : Int32)), .val (.int c_84), .val (.int v1)]) X78 hx ((1 : Int32)) (hb hby d4_86) rfl rfl rfl (fun _ => rfl) fun c_84 hc_84 => ?_
        obtain rfl : c_84 = (2 : Int32) := hc_84.trans (by decide)
        refine Own.goto 59 X78 hx (hb hby d4_89) (by decide) ?_
        refine Own.iload 61 X78 hx (hb hby d4_59) rfl rfl ?_
        refine Own.iload 63 X78 hx (hb hby d4_61) rfl rfl ?_
        refine Own.icmp_ge 92 66 X78 hx (hb hby d4_63) (by decide) rfl (fun tk => absurd tk (by decide)) (fun tk => ?_)
        refine Own.aload 68 X78 hx (hb hby d4_66) rfl rfl rfl ?_
        refine Own.iload 70 X78 hx (hb hby d4_68) rfl rfl ?_
        refine Own.iaload 71 X78 hx hZ e78 (v2) Vf_81 (by decide) rfl (hb hby d4_70) rfl ?_
        refine Own.istoreV 73 #[.val (.ref a), .val (.int (1 : Int32)), .val (.ref r), .val (.int (1 : Int32)), .val (.ref b), .val (.int (3 : Int32)), .val (.int (2 : Int32)), .val (.int v2)] X78 hx (hb hby d4_71) rfl rfl ?_
        refine Own.iload 75 X78 hx (hb hby d4_73) rfl rfl ?_
        refine Own.if_lt 86 78 X78 hx (hb hby d4_75) (by decide) rfl (fun tk => ?_) (fun tk => absurd q2 tk)
        refine Own.iinc 89 (fun c_85 => #[.val (.ref a), .val (.int (1 : Int32)), .val (.ref r), .val (.int (1 : Int32)), .val (.ref b), .val (.int (3 : Int32)), .val (.int c_85), .val (.int v2)]) X78 hx ((1 : Int32)) (hb hby d4_86) rfl rfl rfl (fun _ => rfl) fun c_85 hc_85 => ?_
        obtain rfl : c_85 = (3 : Int32) := hc_85.trans (by decide)
        refine Own.goto 59 X78 hx (hb hby d4_89) (by decide) ?_
        refine Own.iload 61 X78 hx (hb hby d4_59) rfl rfl ?_
        refine Own.iload 63 X78 hx (hb hby d4_61) rfl rfl ?_
        refine Own.icmp_ge 92 66 X78 hx (hb hby d4_63) (by decide) rfl (fun tk => ?_) (fun tk => absurd tk (by decide))
        refine Own.aloadN 93 X78 hx (hb hby d4_92) rfl rfl rfl ?_
        refine Own.retRef X78 hx hlk rfl hret rfl (hb hby d4_93) (by decide) (by decide) ?_
        rw [e78]
        exact ⟨r, k72, [v0], rfl, N78, K78, sz_r, g_r, by rw [own_f, List.filter_cons_of_pos (p := fun x => decide (¬ x < 0)) (decide_eq_true q0), List.filter_cons_of_neg (p := fun x => decide (¬ x < 0)) (by rw [decide_eq_true_iff]; exact fun u => u q1), List.filter_cons_of_neg (p := fun x => decide (¬ x < 0)) (by rw [decide_eq_true_iff]; exact fun u => u q2), List.filter_nil], V78⟩
      ·
        refine Own.iinc 33 (fun c_86 => #[.val (.ref a), .val (.int c_86), .val (.ref b), .val (.int (3 : Int32)), .val (.int (2 : Int32)), .val (.int v2), .unset, .unset]) X1 hx ((1 : Int32)) (hb hby d4_30) rfl rfl rfl (fun _ => rfl) fun c_86 hc_86 => ?_
        obtain rfl : c_86 = (2 : Int32) := hc_86.trans (by decide)
        refine Own.iinc 36 (fun c_87 => #[.val (.ref a), .val (.int (2 : Int32)), .val (.ref b), .val (.int (3 : Int32)), .val (.int c_87), .val (.int v2), .unset, .unset]) X1 hx ((1 : Int32)) (hb hby d4_33) rfl rfl rfl (fun _ => rfl) fun c_87 hc_87 => ?_
        obtain rfl : c_87 = (3 : Int32) := hc_87.trans (by decide)
        refine Own.goto 13 X1 hx (hb hby d4_36) (by decide) ?_
        refine Own.iload 15 X1 hx (hb hby d4_13) rfl rfl ?_
        refine Own.iloadN 16 X1 hx (hb hby d4_15) rfl rfl ?_
        refine Own.icmp_ge 39 19 X1 hx (hb hby d4_16) (by decide) rfl (fun tk => ?_) (fun tk => absurd tk (by decide))
        refine Own.iloadN 40 X1 hx (hb hby d4_39) rfl rfl ?_
        refine Own.newArr 42 2 X1 hx hZ (w 5 rfl) e1 (by decide) (by decide) (by decide) (hb hby d4_40) rfl (by decide) (by decide) ?_
        intro T88 h88 r k88 z88 X88 e88 E88 A88
        have ne_a_r : a ≠ r := Nat.ne_of_lt (Nat.lt_of_lt_of_le F3.lt (Nat.le_of_eq z88.symm))
        have ne_b_r : b ≠ r := Nat.ne_of_lt (Nat.lt_of_lt_of_le V1.lt (Nat.le_of_eq z88.symm))
        have g_r : n0 ≤ r := Nat.le_trans Z0 (Nat.le_of_eq z88.symm)
        have sz_r : h0.size ≤ r := Nat.le_trans (Keep.refl h0 []).1 (Nat.le_of_eq z88.symm)
        have K88 := (Keep.refl h0 []).ext E88
        have Ff_90 := F3.ext E88
        have Vf_91 := V1.ext E88
        have zl88 := Nat.le_trans Z0 E88.1
        have V88 : Arv Z h88 r k88 .int (2 : Int32) [(.int (0 : Int32)), (.int (0 : Int32))] (.int (0 : Int32)) := A88
        refine Own.astoreN 43 #[.val (.ref a), .val (.int (2 : Int32)), .val (.ref r), .val (.int (3 : Int32)), .val (.int (3 : Int32)), .val (.int v2), .unset, .unset] X88 hx (hb hby d4_42) rfl rfl rfl ?_
        refine Own.iconst 44 X88 hx ((0 : Int32)) (hb hby d4_43) rfl rfl ?_
        refine Own.istoreNV 45 #[.val (.ref a), .val (.int (2 : Int32)), .val (.ref r), .val (.int (0 : Int32)), .val (.int (3 : Int32)), .val (.int v2), .unset, .unset] X88 hx (hb hby d4_44) rfl rfl ?_
        refine Own.aloadN 46 X88 hx (hb hby d4_45) rfl rfl rfl ?_
        refine Own.getFld 49 X88 hx hZ hown (host := "") (Or.inl (w 29 rfl)) Via.refl e88 Ff_90 (hb hby d4_46) rfl ?_
        intro T92 X92 e92
        refine Own.astore 51 #[.val (.ref a), .val (.int (2 : Int32)), .val (.ref r), .val (.int (0 : Int32)), .val (.ref b), .val (.int v2), .unset, .unset] X92 hx (hb hby d4_49) rfl rfl rfl ?_
        refine Own.aload 53 X92 hx (hb hby d4_51) rfl rfl rfl ?_
        refine Own.arrLen 54 X92 hx hZ e92 Vf_91 (hb hby d4_53) rfl ?_
        refine Own.istoreV 56 #[.val (.ref a), .val (.int (2 : Int32)), .val (.ref r), .val (.int (0 : Int32)), .val (.ref b), .val (.int (3 : Int32)), .unset, .unset] X92 hx (hb hby d4_54) rfl rfl ?_
        refine Own.iconst 57 X92 hx ((0 : Int32)) (hb hby d4_56) rfl rfl ?_
        refine Own.istoreV 59 #[.val (.ref a), .val (.int (2 : Int32)), .val (.ref r), .val (.int (0 : Int32)), .val (.ref b), .val (.int (3 : Int32)), .val (.int (0 : Int32)), .unset] X92 hx (hb hby d4_57) rfl rfl ?_
        refine Own.iload 61 X92 hx (hb hby d4_59) rfl rfl ?_
        refine Own.iload 63 X92 hx (hb hby d4_61) rfl rfl ?_
        refine Own.icmp_ge 92 66 X92 hx (hb hby d4_63) (by decide) rfl (fun tk => absurd tk (by decide)) (fun tk => ?_)
        refine Own.aload 68 X92 hx (hb hby d4_66) rfl rfl rfl ?_
        refine Own.iload 70 X92 hx (hb hby d4_68) rfl rfl ?_
        refine Own.iaload 71 X92 hx hZ e92 (v0) Vf_91 (by decide) rfl (hb hby d4_70) rfl ?_
        refine Own.istoreV 73 #[.val (.ref a), .val (.int (2 : Int32)), .val (.ref r), .val (.int (0 : Int32)), .val (.ref b), .val (.int (3 : Int32)), .val (.int (0 : Int32)), .val (.int v0)] X92 hx (hb hby d4_71) rfl rfl ?_
        refine Own.iload 75 X92 hx (hb hby d4_73) rfl rfl ?_
        refine Own.if_lt 86 78 X92 hx (hb hby d4_75) (by decide) rfl (fun tk => absurd tk q0) (fun tk => ?_)
        refine Own.aloadN 79 X92 hx (hb hby d4_78) rfl rfl rfl ?_
        refine Own.iloadN 80 X92 hx (hb hby d4_79) rfl rfl ?_
        refine Own.iinc 83 (fun c_93 => #[.val (.ref a), .val (.int (2 : Int32)), .val (.ref r), .val (.int c_93), .val (.ref b), .val (.int (3 : Int32)), .val (.int (0 : Int32)), .val (.int v0)]) X92 hx ((1 : Int32)) (hb hby d4_80) rfl rfl rfl (fun _ => rfl) fun c_93 hc_93 => ?_
        obtain rfl : c_93 = (1 : Int32) := hc_93.trans (by decide)
        refine Own.iload 85 X92 hx (hb hby d4_83) rfl rfl ?_
        refine Own.iastore 86 X92 hx hZ e92 V88 (by decide) (Nat.le_of_ble_eq_true rfl) (hb hby d4_85) rfl ?_
        intro T94 h94 X94 e94 W94 A94
        have N94 := Fr.snoc X94 N0 g_r
        have Ff_96 := Ff_90.other W94 (Or.inl ne_a_r)
        have Vf_97 := Vf_91.other W94 ne_b_r
        have zl94 := Nat.le_trans zl88 (Nat.le_of_eq W94.size.symm)
        have K94 := K88.wr W94 (Or.inr sz_r)
        have V94 : Arv Z h94 r k88 .int (2 : Int32) [(.int v0), (.int (0 : Int32))] (.int (0 : Int32)) := A94
        refine Own.iinc 89 (fun c_99 => #[.val (.ref a), .val (.int (2 : Int32)), .val (.ref r), .val (.int (1 : Int32)), .val (.ref b), .val (.int (3 : Int32)), .val (.int c_99), .val (.int v0)]) X94 hx ((1 : Int32)) (hb hby d4_86) rfl rfl rfl (fun _ => rfl) fun c_99 hc_99 => ?_
        obtain rfl : c_99 = (1 : Int32) := hc_99.trans (by decide)
        refine Own.goto 59 X94 hx (hb hby d4_89) (by decide) ?_
        refine Own.iload 61 X94 hx (hb hby d4_59) rfl rfl ?_
        refine Own.iload 63 X94 hx (hb hby d4_61) rfl rfl ?_
        refine Own.icmp_ge 92 66 X94 hx (hb hby d4_63) (by decide) rfl (fun tk => absurd tk (by decide)) (fun tk => ?_)
        refine Own.aload 68 X94 hx (hb hby d4_66) rfl rfl rfl ?_
        refine Own.iload 70 X94 hx (hb hby d4_68) rfl rfl ?_
        refine Own.iaload 71 X94 hx hZ e94 (v1) Vf_97 (by decide) rfl (hb hby d4_70) rfl ?_
        refine Own.istoreV 73 #[.val (.ref a), .val (.int (2 : Int32)), .val (.ref r), .val (.int (1 : Int32)), .val (.ref b), .val (.int (3 : Int32)), .val (.int (1 : Int32)), .val (.int v1)] X94 hx (hb hby d4_71) rfl rfl ?_
        refine Own.iload 75 X94 hx (hb hby d4_73) rfl rfl ?_
        refine Own.if_lt 86 78 X94 hx (hb hby d4_75) (by decide) rfl (fun tk => ?_) (fun tk => absurd q1 tk)
        refine Own.iinc 89 (fun c_100 => #[.val (.ref a), .val (.int (2 : Int32)), .val (.ref r), .val (.int (1 : Int32)), .val (.ref b), .val (.int (3 : Int32)), .val (.int c_100), .val (.int v1)]) X94 hx ((1 : Int32)) (hb hby d4_86) rfl rfl rfl (fun _ => rfl) fun c_100 hc_100 => ?_
        obtain rfl : c_100 = (2 : Int32) := hc_100.trans (by decide)
        refine Own.goto 59 X94 hx (hb hby d4_89) (by decide) ?_
        refine Own.iload 61 X94 hx (hb hby d4_59) rfl rfl ?_
        refine Own.iload 63 X94 hx (hb hby d4_61) rfl rfl ?_
        refine Own.icmp_ge 92 66 X94 hx (hb hby d4_63) (by decide) rfl (fun tk => absurd tk (by decide)) (fun tk => ?_)
        refine Own.aload 68 X94 hx (hb hby d4_66) rfl rfl rfl ?_
        refine Own.iload 70 X94 hx (hb hby d4_68) rfl rfl ?_
        refine Own.iaload 71 X94 hx hZ e94 (v2) Vf_97 (by decide) rfl (hb hby d4_70) rfl ?_
        refine Own.istoreV 73 #[.val (.ref a), .val (.int (2 : Int32)), .val (.ref r), .val (.int (1 : Int32)), .val (.ref b), .val (.int (3 : Int32)), .val (.int (2 : Int32)), .val (.int v2)] X94 hx (hb hby d4_71) rfl rfl ?_
        refine Own.iload 75 X94 hx (hb hby d4_73) rfl rfl ?_
        refine Own.if_lt 86 78 X94 hx (hb hby d4_75) (by decide) rfl (fun tk => absurd tk q2) (fun tk => ?_)
        refine Own.aloadN 79 X94 hx (hb hby d4_78) rfl rfl rfl ?_
        refine Own.iloadN 80 X94 hx (hb hby d4_79) rfl rfl ?_
        refine Own.iinc 83 (fun c_101 => #[.val (.ref a), .val (.int (2 : Int32)), .val (.ref r), .val (.int c_101), .val (.ref b), .val (.int (3 : Int32)), .val (.int (2 : Int32)), .val (.int v2)]) X94 hx ((1 : Int32)) (hb hby d4_80) rfl rfl rfl (fun _ => rfl) fun c_101 hc_101 => ?_
        obtain rfl : c_101 = (2 : Int32) := hc_101.trans (by decide)
        refine Own.iload 85 X94 hx (hb hby d4_83) rfl rfl ?_
        refine Own.iastore 86 X94 hx hZ e94 V94 (by decide) (Nat.le_of_ble_eq_true rfl) (hb hby d4_85) rfl ?_
        intro T102 h102 X102 e102 W102 A102
        have N102 := Fr.snoc X102 N94 g_r
        have Ff_104 := Ff_96.other W102 (Or.inl ne_a_r)
        have Vf_105 := Vf_97.other W102 ne_b_r
        have zl102 := Nat.le_trans zl94 (Nat.le_of_eq W102.size.symm)
        have K102 := K94.wr W102 (Or.inr sz_r)
        have V102 : Arv Z h102 r k88 .int (2 : Int32) [(.int v0), (.int v2)] (.int (0 : Int32)) := A102
        refine Own.iinc 89 (fun c_107 => #[.val (.ref a), .val (.int (2 : Int32)), .val (.ref r), .val (.int (2 : Int32)), .val (.ref b), .val (.int (3 : Int32)), .val (.int c_107), .val (.int v2)]) X102 hx ((1 : Int32)) (hb hby d4_86) rfl rfl rfl (fun _ => rfl) fun c_107 hc_107 => ?_
        obtain rfl : c_107 = (3 : Int32) := hc_107.trans (by decide)
        refine Own.goto 59 X102 hx (hb hby d4_89) (by decide) ?_
        refine Own.iload 61 X102 hx (hb hby d4_59) rfl rfl ?_
        refine Own.iload 63 X102 hx (hb hby d4_61) rfl rfl ?_
        refine Own.icmp_ge 92 66 X102 hx (hb hby d4_63) (by decide) rfl (fun tk => ?_) (fun tk => absurd tk (by decide))
        refine Own.aloadN 93 X102 hx (hb hby d4_92) rfl rfl rfl ?_
        refine Own.retRef X102 hx hlk rfl hret rfl (hb hby d4_93) (by decide) (by decide) ?_
        rw [e102]
        exact ⟨r, k88, [v0, v2], rfl, N102, K102, sz_r, g_r, by rw [own_f, List.filter_cons_of_pos (p := fun x => decide (¬ x < 0)) (decide_eq_true q0), List.filter_cons_of_neg (p := fun x => decide (¬ x < 0)) (by rw [decide_eq_true_iff]; exact fun u => u q1), List.filter_cons_of_pos (p := fun x => decide (¬ x < 0)) (decide_eq_true q2), List.filter_nil], V102⟩
    ·
      refine Own.iinc 33 (fun c_108 => #[.val (.ref a), .val (.int c_108), .val (.ref b), .val (.int (3 : Int32)), .val (.int (1 : Int32)), .val (.int v1), .unset, .unset]) X1 hx ((1 : Int32)) (hb hby d4_30) rfl rfl rfl (fun _ => rfl) fun c_108 hc_108 => ?_
      obtain rfl : c_108 = (2 : Int32) := hc_108.trans (by decide)
      refine Own.iinc 36 (fun c_109 => #[.val (.ref a), .val (.int (2 : Int32)), .val (.ref b), .val (.int (3 : Int32)), .val (.int c_109), .val (.int v1), .unset, .unset]) X1 hx ((1 : Int32)) (hb hby d4_33) rfl rfl rfl (fun _ => rfl) fun c_109 hc_109 => ?_
      obtain rfl : c_109 = (2 : Int32) := hc_109.trans (by decide)
      refine Own.goto 13 X1 hx (hb hby d4_36) (by decide) ?_
      refine Own.iload 15 X1 hx (hb hby d4_13) rfl rfl ?_
      refine Own.iloadN 16 X1 hx (hb hby d4_15) rfl rfl ?_
      refine Own.icmp_ge 39 19 X1 hx (hb hby d4_16) (by decide) rfl (fun tk => absurd tk (by decide)) (fun tk => ?_)
      refine Own.aloadN 20 X1 hx (hb hby d4_19) rfl rfl rfl ?_
      refine Own.iload 22 X1 hx (hb hby d4_20) rfl rfl ?_
      refine Own.iaload 23 X1 hx hZ e1 (v2) V1 (by decide) rfl (hb hby d4_22) rfl ?_
      refine Own.istoreV 25 #[.val (.ref a), .val (.int (2 : Int32)), .val (.ref b), .val (.int (3 : Int32)), .val (.int (2 : Int32)), .val (.int v2), .unset, .unset] X1 hx (hb hby d4_23) rfl rfl ?_
      refine Own.iload 27 X1 hx (hb hby d4_25) rfl rfl ?_
      refine Own.if_lt 33 30 X1 hx (hb hby d4_27) (by decide) rfl (fun q2 => ?_) (fun q2 => ?_)
      ·
        refine Own.iinc 36 (fun c_110 => #[.val (.ref a), .val (.int (2 : Int32)), .val (.ref b), .val (.int (3 : Int32)), .val (.int c_110), .val (.int v2), .unset, .unset]) X1 hx ((1 : Int32)) (hb hby d4_33) rfl rfl rfl (fun _ => rfl) fun c_110 hc_110 => ?_
        obtain rfl : c_110 = (3 : Int32) := hc_110.trans (by decide)
        refine Own.goto 13 X1 hx (hb hby d4_36) (by decide) ?_
        refine Own.iload 15 X1 hx (hb hby d4_13) rfl rfl ?_
        refine Own.iloadN 16 X1 hx (hb hby d4_15) rfl rfl ?_
        refine Own.icmp_ge 39 19 X1 hx (hb hby d4_16) (by decide) rfl (fun tk => ?_) (fun tk => absurd tk (by decide))
        refine Own.iloadN 40 X1 hx (hb hby d4_39) rfl rfl ?_
        refine Own.newArr 42 2 X1 hx hZ (w 5 rfl) e1 (by decide) (by decide) (by decide) (hb hby d4_40) rfl (by decide) (by decide) ?_
        intro T111 h111 r k111 z111 X111 e111 E111 A111
        have ne_a_r : a ≠ r := Nat.ne_of_lt (Nat.lt_of_lt_of_le F3.lt (Nat.le_of_eq z111.symm))
        have ne_b_r : b ≠ r := Nat.ne_of_lt (Nat.lt_of_lt_of_le V1.lt (Nat.le_of_eq z111.symm))
        have g_r : n0 ≤ r := Nat.le_trans Z0 (Nat.le_of_eq z111.symm)
        have sz_r : h0.size ≤ r := Nat.le_trans (Keep.refl h0 []).1 (Nat.le_of_eq z111.symm)
        have K111 := (Keep.refl h0 []).ext E111
        have Ff_113 := F3.ext E111
        have Vf_114 := V1.ext E111
        have zl111 := Nat.le_trans Z0 E111.1
        have V111 : Arv Z h111 r k111 .int (2 : Int32) [(.int (0 : Int32)), (.int (0 : Int32))] (.int (0 : Int32)) := A111
        refine Own.astoreN 43 #[.val (.ref a), .val (.int (2 : Int32)), .val (.ref r), .val (.int (3 : Int32)), .val (.int (3 : Int32)), .val (.int v2), .unset, .unset] X111 hx (hb hby d4_42) rfl rfl rfl ?_
        refine Own.iconst 44 X111 hx ((0 : Int32)) (hb hby d4_43) rfl rfl ?_
        refine Own.istoreNV 45 #[.val (.ref a), .val (.int (2 : Int32)), .val (.ref r), .val (.int (0 : Int32)), .val (.int (3 : Int32)), .val (.int v2), .unset, .unset] X111 hx (hb hby d4_44) rfl rfl ?_
        refine Own.aloadN 46 X111 hx (hb hby d4_45) rfl rfl rfl ?_
        refine Own.getFld 49 X111 hx hZ hown (host := "") (Or.inl (w 29 rfl)) Via.refl e111 Ff_113 (hb hby d4_46) rfl ?_
        intro T115 X115 e115
        refine Own.astore 51 #[.val (.ref a), .val (.int (2 : Int32)), .val (.ref r), .val (.int (0 : Int32)), .val (.ref b), .val (.int v2), .unset, .unset] X115 hx (hb hby d4_49) rfl rfl rfl ?_
        refine Own.aload 53 X115 hx (hb hby d4_51) rfl rfl rfl ?_
        refine Own.arrLen 54 X115 hx hZ e115 Vf_114 (hb hby d4_53) rfl ?_
        refine Own.istoreV 56 #[.val (.ref a), .val (.int (2 : Int32)), .val (.ref r), .val (.int (0 : Int32)), .val (.ref b), .val (.int (3 : Int32)), .unset, .unset] X115 hx (hb hby d4_54) rfl rfl ?_
        refine Own.iconst 57 X115 hx ((0 : Int32)) (hb hby d4_56) rfl rfl ?_
        refine Own.istoreV 59 #[.val (.ref a), .val (.int (2 : Int32)), .val (.ref r), .val (.int (0 : Int32)), .val (.ref b), .val (.int (3 : Int32)), .val (.int (0 : Int32)), .unset] X115 hx (hb hby d4_57) rfl rfl ?_
        refine Own.iload 61 X115 hx (hb hby d4_59) rfl rfl ?_
        refine Own.iload 63 X115 hx (hb hby d4_61) rfl rfl ?_
        refine Own.icmp_ge 92 66 X115 hx (hb hby d4_63) (by decide) rfl (fun tk => absurd tk (by decide)) (fun tk => ?_)
        refine Own.aload 68 X115 hx (hb hby d4_66) rfl rfl rfl ?_
        refine Own.iload 70 X115 hx (hb hby d4_68) rfl rfl ?_
        refine Own.iaload 71 X115 hx hZ e115 (v0) Vf_114 (by decide) rfl (hb hby d4_70) rfl ?_
        refine Own.istoreV 73 #[.val (.ref a), .val (.int (2 : Int32)), .val (.ref r), .val (.int (0 : Int32)), .val (.ref b), .val (.int (3 : Int32)), .val (.int (0 : Int32)), .val (.int v0)] X115 hx (hb hby d4_71) rfl rfl ?_
        refine Own.iload 75 X115 hx (hb hby d4_73) rfl rfl ?_
        refine Own.if_lt 86 78 X115 hx (hb hby d4_75) (by decide) rfl (fun tk => absurd tk q0) (fun tk => ?_)
        refine Own.aloadN 79 X115 hx (hb hby d4_78) rfl rfl rfl ?_
        refine Own.iloadN 80 X115 hx (hb hby d4_79) rfl rfl ?_
        refine Own.iinc 83 (fun c_116 => #[.val (.ref a), .val (.int (2 : Int32)), .val (.ref r), .val (.int c_116), .val (.ref b), .val (.int (3 : Int32)), .val (.int (0 : Int32)), .val (.int v0)]) X115 hx ((1 : Int32)) (hb hby d4_80) rfl rfl rfl (fun _ => rfl) fun c_116 hc_116 => ?_
        obtain rfl : c_116 = (1 : Int32) := hc_116.trans (by decide)
        refine Own.iload 85 X115 hx (hb hby d4_83) rfl rfl ?_
        refine Own.iastore 86 X115 hx hZ e115 V111 (by decide) (Nat.le_of_ble_eq_true rfl) (hb hby d4_85) rfl ?_
        intro T117 h117 X117 e117 W117 A117
        have N117 := Fr.snoc X117 N0 g_r
        have Ff_119 := Ff_113.other W117 (Or.inl ne_a_r)
        have Vf_120 := Vf_114.other W117 ne_b_r
        have zl117 := Nat.le_trans zl111 (Nat.le_of_eq W117.size.symm)
        have K117 := K111.wr W117 (Or.inr sz_r)
        have V117 : Arv Z h117 r k111 .int (2 : Int32) [(.int v0), (.int (0 : Int32))] (.int (0 : Int32)) := A117
        refine Own.iinc 89 (fun c_122 => #[.val (.ref a), .val (.int (2 : Int32)), .val (.ref r), .val (.int (1 : Int32)), .val (.ref b), .val (.int (3 : Int32)), .val (.int c_122), .val (.int v0)]) X117 hx ((1 : Int32)) (hb hby d4_86) rfl rfl rfl (fun _ => rfl) fun c_122 hc_122 => ?_
        obtain rfl : c_122 = (1 : Int32) := hc_122.trans (by decide)
        refine Own.goto 59 X117 hx (hb hby d4_89) (by decide) ?_
        refine Own.iload 61 X117 hx (hb hby d4_59) rfl rfl ?_
        refine Own.iload 63 X117 hx (hb hby d4_61) rfl rfl ?_
        refine Own.icmp_ge 92 66 X117 hx (hb hby d4_63) (by decide) rfl (fun tk => absurd tk (by decide)) (fun tk => ?_)
        refine Own.aload 68 X117 hx (hb hby d4_66) rfl rfl rfl ?_
        refine Own.iload 70 X117 hx (hb hby d4_68) rfl rfl ?_
        refine Own.iaload 71 X117 hx hZ e117 (v1) Vf_120 (by decide) rfl (hb hby d4_70) rfl ?_
        refine Own.istoreV 73 #[.val (.ref a), .val (.int (2 : Int32)), .val (.ref r), .val (.int (1 : Int32)), .val (.ref b), .val (.int (3 : Int32)), .val (.int (1 : Int32)), .val (.int v1)] X117 hx (hb hby d4_71) rfl rfl ?_
        refine Own.iload 75 X117 hx (hb hby d4_73) rfl rfl ?_
        refine Own.if_lt 86 78 X117 hx (hb hby d4_75) (by decide) rfl (fun tk => absurd tk q1) (fun tk => ?_)
        refine Own.aloadN 79 X117 hx (hb hby d4_78) rfl rfl rfl ?_
        refine Own.iloadN 80 X117 hx (hb hby d4_79) rfl rfl ?_
        refine Own.iinc 83 (fun c_123 => #[.val (.ref a), .val (.int (2 : Int32)), .val (.ref r), .val (.int c_123), .val (.ref b), .val (.int (3 : Int32)), .val (.int (1 : Int32)), .val (.int v1)]) X117 hx ((1 : Int32)) (hb hby d4_80) rfl rfl rfl (fun _ => rfl) fun c_123 hc_123 => ?_
        obtain rfl : c_123 = (2 : Int32) := hc_123.trans (by decide)
        refine Own.iload 85 X117 hx (hb hby d4_83) rfl rfl ?_
        refine Own.iastore 86 X117 hx hZ e117 V117 (by decide) (Nat.le_of_ble_eq_true rfl) (hb hby d4_85) rfl ?_
        intro T124 h124 X124 e124 W124 A124
        have N124 := Fr.snoc X124 N117 g_r
        have Ff_126 := Ff_119.other W124 (Or.inl ne_a_r)
        have Vf_127 := Vf_120.other W124 ne_b_r
        have zl124 := Nat.le_trans zl117 (Nat.le_of_eq W124.size.symm)
        have K124 := K117.wr W124 (Or.inr sz_r)
        have V124 : Arv Z h124 r k111 .int (2 : Int32) [(.int v0), (.int v1)] (.int (0 : Int32)) := A124
        refine Own.iinc 89 (fun c_129 => #[.val (.ref a), .val (.int (2 : Int32)), .val (.ref r), .val (.int (2 : Int32)), .val (.ref b), .val (.int (3 : Int32)), .val (.int c_129), .val (.int v1)]) X124 hx ((1 : Int32)) (hb hby d4_86) rfl rfl rfl (fun _ => rfl) fun c_129 hc_129 => ?_
        obtain rfl : c_129 = (2 : Int32) := hc_129.trans (by decide)
        refine Own.goto 59 X124 hx (hb hby d4_89) (by decide) ?_
        refine Own.iload 61 X124 hx (hb hby d4_59) rfl rfl ?_
        refine Own.iload 63 X124 hx (hb hby d4_61) rfl rfl ?_
        refine Own.icmp_ge 92 66 X124 hx (hb hby d4_63) (by decide) rfl (fun tk => absurd tk (by decide)) (fun tk => ?_)
        refine Own.aload 68 X124 hx (hb hby d4_66) rfl rfl rfl ?_
        refine Own.iload 70 X124 hx (hb hby d4_68) rfl rfl ?_
        refine Own.iaload 71 X124 hx hZ e124 (v2) Vf_127 (by decide) rfl (hb hby d4_70) rfl ?_
        refine Own.istoreV 73 #[.val (.ref a), .val (.int (2 : Int32)), .val (.ref r), .val (.int (2 : Int32)), .val (.ref b), .val (.int (3 : Int32)), .val (.int (2 : Int32)), .val (.int v2)] X124 hx (hb hby d4_71) rfl rfl ?_
        refine Own.iload 75 X124 hx (hb hby d4_73) rfl rfl ?_
        refine Own.if_lt 86 78 X124 hx (hb hby d4_75) (by decide) rfl (fun tk => ?_) (fun tk => absurd q2 tk)
        refine Own.iinc 89 (fun c_130 => #[.val (.ref a), .val (.int (2 : Int32)), .val (.ref r), .val (.int (2 : Int32)), .val (.ref b), .val (.int (3 : Int32)), .val (.int c_130), .val (.int v2)]) X124 hx ((1 : Int32)) (hb hby d4_86) rfl rfl rfl (fun _ => rfl) fun c_130 hc_130 => ?_
        obtain rfl : c_130 = (3 : Int32) := hc_130.trans (by decide)
        refine Own.goto 59 X124 hx (hb hby d4_89) (by decide) ?_
        refine Own.iload 61 X124 hx (hb hby d4_59) rfl rfl ?_
        refine Own.iload 63 X124 hx (hb hby d4_61) rfl rfl ?_
        refine Own.icmp_ge 92 66 X124 hx (hb hby d4_63) (by decide) rfl (fun tk => ?_) (fun tk => absurd tk (by decide))
        refine Own.aloadN 93 X124 hx (hb hby d4_92) rfl rfl rfl ?_
        refine Own.retRef X124 hx hlk rfl hret rfl (hb hby d4_93) (by decide) (by decide) ?_
        rw [e124]
        exact ⟨r, k111, [v0, v1], rfl, N124, K124, sz_r, g_r, by rw [own_f, List.filter_cons_of_pos (p := fun x => decide (¬ x < 0)) (decide_eq_true q0), List.filter_cons_of_pos (p := fun x => decide (¬ x < 0)) (decide_eq_true q1), List.filter_cons_of_neg (p := fun x => decide (¬ x < 0)) (by rw [decide_eq_true_iff]; exact fun u => u q2), List.filter_nil], V124⟩
      ·
        refine Own.iinc 33 (fun c_131 => #[.val (.ref a), .val (.int c_131), .val (.ref b), .val (.int (3 : Int32)), .val (.int (2 : Int32)), .val (.int v2), .unset, .unset]) X1 hx ((1 : Int32)) (hb hby d4_30) rfl rfl rfl (fun _ => rfl) fun c_131 hc_131 => ?_
        obtain rfl : c_131 = (3 : Int32) := hc_131.trans (by decide)
        refine Own.iinc 36 (fun c_132 => #[.val (.ref a), .val (.int (3 : Int32)), .val (.ref b), .val (.int (3 : Int32)), .val (.int c_132), .val (.int v2), .unset, .unset]) X1 hx ((1 : Int32)) (hb hby d4_33) rfl rfl rfl (fun _ => rfl) fun c_132 hc_132 => ?_
        obtain rfl : c_132 = (3 : Int32) := hc_132.trans (by decide)
        refine Own.goto 13 X1 hx (hb hby d4_36) (by decide) ?_
        refine Own.iload 15 X1 hx (hb hby d4_13) rfl rfl ?_
        refine Own.iloadN 16 X1 hx (hb hby d4_15) rfl rfl ?_
        refine Own.icmp_ge 39 19 X1 hx (hb hby d4_16) (by decide) rfl (fun tk => ?_) (fun tk => absurd tk (by decide))
        refine Own.iloadN 40 X1 hx (hb hby d4_39) rfl rfl ?_
        refine Own.newArr 42 3 X1 hx hZ (w 5 rfl) e1 (by decide) (by decide) (by decide) (hb hby d4_40) rfl (by decide) (by decide) ?_
        intro T133 h133 r k133 z133 X133 e133 E133 A133
        have ne_a_r : a ≠ r := Nat.ne_of_lt (Nat.lt_of_lt_of_le F3.lt (Nat.le_of_eq z133.symm))
        have ne_b_r : b ≠ r := Nat.ne_of_lt (Nat.lt_of_lt_of_le V1.lt (Nat.le_of_eq z133.symm))
        have g_r : n0 ≤ r := Nat.le_trans Z0 (Nat.le_of_eq z133.symm)
        have sz_r : h0.size ≤ r := Nat.le_trans (Keep.refl h0 []).1 (Nat.le_of_eq z133.symm)
        have K133 := (Keep.refl h0 []).ext E133
        have Ff_135 := F3.ext E133
        have Vf_136 := V1.ext E133
        have zl133 := Nat.le_trans Z0 E133.1
        have V133 : Arv Z h133 r k133 .int (3 : Int32) [(.int (0 : Int32)), (.int (0 : Int32)), (.int (0 : Int32))] (.int (0 : Int32)) := A133
        refine Own.astoreN 43 #[.val (.ref a), .val (.int (3 : Int32)), .val (.ref r), .val (.int (3 : Int32)), .val (.int (3 : Int32)), .val (.int v2), .unset, .unset] X133 hx (hb hby d4_42) rfl rfl rfl ?_
        refine Own.iconst 44 X133 hx ((0 : Int32)) (hb hby d4_43) rfl rfl ?_
        refine Own.istoreNV 45 #[.val (.ref a), .val (.int (3 : Int32)), .val (.ref r), .val (.int (0 : Int32)), .val (.int (3 : Int32)), .val (.int v2), .unset, .unset] X133 hx (hb hby d4_44) rfl rfl ?_
        refine Own.aloadN 46 X133 hx (hb hby d4_45) rfl rfl rfl ?_
        refine Own.getFld 49 X133 hx hZ hown (host := "") (Or.inl (w 29 rfl)) Via.refl e133 Ff_135 (hb hby d4_46) rfl ?_
        intro T137 X137 e137
        refine Own.astore 51 #[.val (.ref a), .val (.int (3 : Int32)), .val (.ref r), .val (.int (0 : Int32)), .val (.ref b), .val (.int v2), .unset, .unset] X137 hx (hb hby d4_49) rfl rfl rfl ?_
        refine Own.aload 53 X137 hx (hb hby d4_51) rfl rfl rfl ?_
        refine Own.arrLen 54 X137 hx hZ e137 Vf_136 (hb hby d4_53) rfl ?_
        refine Own.istoreV 56 #[.val (.ref a), .val (.int (3 : Int32)), .val (.ref r), .val (.int (0 : Int32)), .val (.ref b), .val (.int (3 : Int32)), .unset, .unset] X137 hx (hb hby d4_54) rfl rfl ?_
        refine Own.iconst 57 X137 hx ((0 : Int32)) (hb hby d4_56) rfl rfl ?_
        refine Own.istoreV 59 #[.val (.ref a), .val (.int (3 : Int32)), .val (.ref r), .val (.int (0 : Int32)), .val (.ref b), .val (.int (3 : Int32)), .val (.int (0 : Int32)), .unset] X137 hx (hb hby d4_57) rfl rfl ?_
        refine Own.iload 61 X137 hx (hb hby d4_59) rfl rfl ?_
        refine Own.iload 63 X137 hx (hb hby d4_61) rfl rfl ?_
        refine Own.icmp_ge 92 66 X137 hx (hb hby d4_63) (by decide) rfl (fun tk => absurd tk (by decide)) (fun tk => ?_)
        refine Own.aload 68 X137 hx (hb hby d4_66) rfl rfl rfl ?_
        refine Own.iload 70 X137 hx (hb hby d4_68) rfl rfl ?_
        refine Own.iaload 71 X137 hx hZ e137 (v0) Vf_136 (by decide) rfl (hb hby d4_70) rfl ?_
        refine Own.istoreV 73 #[.val (.ref a), .val (.int (3 : Int32)), .val (.ref r), .val (.int (0 : Int32)), .val (.ref b), .val (.int (3 : Int32)), .val (.int (0 : Int32)), .val (.int v0)] X137 hx (hb hby d4_71) rfl rfl ?_
        refine Own.iload 75 X137 hx (hb hby d4_73) rfl rfl ?_
        refine Own.if_lt 86 78 X137 hx (hb hby d4_75) (by decide) rfl (fun tk => absurd tk q0) (fun tk => ?_)
        refine Own.aloadN 79 X137 hx (hb hby d4_78) rfl rfl rfl ?_
        refine Own.iloadN 80 X137 hx (hb hby d4_79) rfl rfl ?_
        refine Own.iinc 83 (fun c_138 => #[.val (.ref a), .val (.int (3 : Int32)), .val (.ref r), .val (.int c_138), .val (.ref b), .val (.int (3 : Int32)), .val (.int (0 : Int32)), .val (.int v0)]) X137 hx ((1 : Int32)) (hb hby d4_80) rfl rfl rfl (fun _ => rfl) fun c_138 hc_138 => ?_
        obtain rfl : c_138 = (1 : Int32) := hc_138.trans (by decide)
        refine Own.iload 85 X137 hx (hb hby d4_83) rfl rfl ?_
        refine Own.iastore 86 X137 hx hZ e137 V133 (by decide) (Nat.le_of_ble_eq_true rfl) (hb hby d4_85) rfl ?_
        intro T139 h139 X139 e139 W139 A139
        have N139 := Fr.snoc X139 N0 g_r
        have Ff_141 := Ff_135.other W139 (Or.inl ne_a_r)
        have Vf_142 := Vf_136.other W139 ne_b_r
        have zl139 := Nat.le_trans zl133 (Nat.le_of_eq W139.size.symm)
        have K139 := K133.wr W139 (Or.inr sz_r)
        have V139 : Arv Z h139 r k133 .int (3 : Int32) [(.int v0), (.int (0 : Int32)), (.int (0 : Int32))] (.int (0 : Int32)) := A139
        refine Own.iinc 89 (fun c_144 => #[.val (.ref a), .val (.int (3 : Int32)), .val (.ref r), .val (.int (1 : Int32)), .val (.ref b), .val (.int (3 : Int32)), .val (.int c_144), .val (.int v0)]) X139 hx ((1 : Int32)) (hb hby d4_86) rfl rfl rfl (fun _ => rfl) fun c_144 hc_144 => ?_
        obtain rfl : c_144 = (1 : Int32) := hc_144.trans (by decide)
        refine Own.goto 59 X139 hx (hb hby d4_89) (by decide) ?_
        refine Own.iload 61 X139 hx (hb hby d4_59) rfl rfl ?_
        refine Own.iload 63 X139 hx (hb hby d4_61) rfl rfl ?_
        refine Own.icmp_ge 92 66 X139 hx (hb hby d4_63) (by decide) rfl (fun tk => absurd tk (by decide)) (fun tk => ?_)
        refine Own.aload 68 X139 hx (hb hby d4_66) rfl rfl rfl ?_
        refine Own.iload 70 X139 hx (hb hby d4_68) rfl rfl ?_
        refine Own.iaload 71 X139 hx hZ e139 (v1) Vf_142 (by decide) rfl (hb hby d4_70) rfl ?_
        refine Own.istoreV 73 #[.val (.ref a), .val (.int (3 : Int32)), .val (.ref r), .val (.int (1 : Int32)), .val (.ref b), .val (.int (3 : Int32)), .val (.int (1 : Int32)), .val (.int v1)] X139 hx (hb hby d4_71) rfl rfl ?_
        refine Own.iload 75 X139 hx (hb hby d4_73) rfl rfl ?_
        refine Own.if_lt 86 78 X139 hx (hb hby d4_75) (by decide) rfl (fun tk => absurd tk q1) (fun tk => ?_)
        refine Own.aloadN 79 X139 hx (hb hby d4_78) rfl rfl rfl ?_
        refine Own.iloadN 80 X139 hx (hb hby d4_79) rfl rfl ?_
        refine Own.iinc 83 (fun c_145 => #[.val (.ref a), .val (.int (3 : Int32)), .val (.ref r), .val (.int c_145), .val (.ref b), .val (.int (3 : Int32)), .val (.int (1 : Int32)), .val (.int v1)]) X139 hx ((1 : Int32)) (hb hby d4_80) rfl rfl rfl (fun _ => rfl) fun c_145 hc_145 => ?_
        obtain rfl : c_145 = (2 : Int32) := hc_145.trans (by decide)
        refine Own.iload 85 X139 hx (hb hby d4_83) rfl rfl ?_
        refine Own.iastore 86 X139 hx hZ e139 V139 (by decide) (Nat.le_of_ble_eq_true rfl) (hb hby d4_85) rfl ?_
        intro T146 h146 X146 e146 W146 A146
        have N146 := Fr.snoc X146 N139 g_r
        have Ff_148 := Ff_141.other W146 (Or.inl ne_a_r)
        have Vf_149 := Vf_142.other W146 ne_b_r
        have zl146 := Nat.le_trans zl139 (Nat.le_of_eq W146.size.symm)
        have K146 := K139.wr W146 (Or.inr sz_r)
        have V146 : Arv Z h146 r k133 .int (3 : Int32) [(.int v0), (.int v1), (.int (0 : Int32))] (.int (0 : Int32)) := A146
        refine Own.iinc 89 (fun c_151 => #[.val (.ref a), .val (.int (3 : Int32)), .val (.ref r), .val (.int (2 : Int32)), .val (.ref b), .val (.int (3 : Int32)), .val (.int c_151), .val (.int v1)]) X146 hx ((1 : Int32)) (hb hby d4_86) rfl rfl rfl (fun _ => rfl) fun c_151 hc_151 => ?_
        obtain rfl : c_151 = (2 : Int32) := hc_151.trans (by decide)
        refine Own.goto 59 X146 hx (hb hby d4_89) (by decide) ?_
        refine Own.iload 61 X146 hx (hb hby d4_59) rfl rfl ?_
        refine Own.iload 63 X146 hx (hb hby d4_61) rfl rfl ?_
        refine Own.icmp_ge 92 66 X146 hx (hb hby d4_63) (by decide) rfl (fun tk => absurd tk (by decide)) (fun tk => ?_)
        refine Own.aload 68 X146 hx (hb hby d4_66) rfl rfl rfl ?_
        refine Own.iload 70 X146 hx (hb hby d4_68) rfl rfl ?_
        refine Own.iaload 71 X146 hx hZ e146 (v2) Vf_149 (by decide) rfl (hb hby d4_70) rfl ?_
        refine Own.istoreV 73 #[.val (.ref a), .val (.int (3 : Int32)), .val (.ref r), .val (.int (2 : Int32)), .val (.ref b), .val (.int (3 : Int32)), .val (.int (2 : Int32)), .val (.int v2)] X146 hx (hb hby d4_71) rfl rfl ?_
        refine Own.iload 75 X146 hx (hb hby d4_73) rfl rfl ?_
        refine Own.if_lt 86 78 X146 hx (hb hby d4_75) (by decide) rfl (fun tk => absurd tk q2) (fun tk => ?_)
        refine Own.aloadN 79 X146 hx (hb hby d4_78) rfl rfl rfl ?_
        refine Own.iloadN 80 X146 hx (hb hby d4_79) rfl rfl ?_
        refine Own.iinc 83 (fun c_152 => #[.val (.ref a), .val (.int (3 : Int32)), .val (.ref r), .val (.int c_152), .val (.ref b), .val (.int (3 : Int32)), .val (.int (2 : Int32)), .val (.int v2)]) X146 hx ((1 : Int32)) (hb hby d4_80) rfl rfl rfl (fun _ => rfl) fun c_152 hc_152 => ?_
        obtain rfl : c_152 = (3 : Int32) := hc_152.trans (by decide)
        refine Own.iload 85 X146 hx (hb hby d4_83) rfl rfl ?_
        refine Own.iastore 86 X146 hx hZ e146 V146 (by decide) (Nat.le_of_ble_eq_true rfl) (hb hby d4_85) rfl ?_
        intro T153 h153 X153 e153 W153 A153
        have N153 := Fr.snoc X153 N146 g_r
        have Ff_155 := Ff_148.other W153 (Or.inl ne_a_r)
        have Vf_156 := Vf_149.other W153 ne_b_r
        have zl153 := Nat.le_trans zl146 (Nat.le_of_eq W153.size.symm)
        have K153 := K146.wr W153 (Or.inr sz_r)
        have V153 : Arv Z h153 r k133 .int (3 : Int32) [(.int v0), (.int v1), (.int v2)] (.int (0 : Int32)) := A153
        refine Own.iinc 89 (fun c_158 => #[.val (.ref a), .val (.int (3 : Int32)), .val (.ref r), .val (.int (3 : Int32)), .val (.ref b), .val (.int (3 : Int32)), .val (.int c_158), .val (.int v2)]) X153 hx ((1 : Int32)) (hb hby d4_86) rfl rfl rfl (fun _ => rfl) fun c_158 hc_158 => ?_
        obtain rfl : c_158 = (3 : Int32) := hc_158.trans (by decide)
        refine Own.goto 59 X153 hx (hb hby d4_89) (by decide) ?_
        refine Own.iload 61 X153 hx (hb hby d4_59) rfl rfl ?_
        refine Own.iload 63 X153 hx (hb hby d4_61) rfl rfl ?_
        refine Own.icmp_ge 92 66 X153 hx (hb hby d4_63) (by decide) rfl (fun tk => ?_) (fun tk => absurd tk (by decide))
        refine Own.aloadN 93 X153 hx (hb hby d4_92) rfl rfl rfl ?_
        refine Own.retRef X153 hx hlk rfl hret rfl (hb hby d4_93) (by decide) (by decide) ?_
        rw [e153]
        exact ⟨r, k133, [v0, v1, v2], rfl, N153, K153, sz_r, g_r, by rw [own_f, List.filter_cons_of_pos (p := fun x => decide (¬ x < 0)) (decide_eq_true q0), List.filter_cons_of_pos (p := fun x => decide (¬ x < 0)) (decide_eq_true q1), List.filter_cons_of_pos (p := fun x => decide (¬ x < 0)) (decide_eq_true q2), List.filter_nil], V153⟩
set_option maxRecDepth 65536 in
set_option maxHeartbeats 40000000 in
theorem m4_4 (l : Launch) (Z : State) (a0 : Array Value) (w : ∀ (i : Nat) {d : Jvm.Cond}, tables_1[i]? = some d → d.before a0 Z = true) (a : Addr) (b : Addr) (kb : ClassId) (v0 v1 v2 v3 : Int32) (n0 : Nat) (h0 : Heap) (Z0 : n0 ≤ h0.size) (F3 : Fld Z h0 a "com/example/skuld/skuld/htn/Pattern" "slots" "[I" (.ref b)) (V1 : Arv Z h0 b kb .int (4 : Int32) [(.int v0), (.int v1), (.int v2), (.int v3)] (.int (0 : Int32))) :
    Own.Met l Z (⟨"com/example/skuld/skuld/htn/Pattern", "slots", "()[I"⟩ : MethodName) prog_53_method_6_code 8 (some (.array .int)) [] ({ frames := 0, cells := 1, slots := 4, locals := 0 } : Room) #[(.ref a)] h0 (fun v h L => ∃ (r : Addr) (kr : ClassId) (ys : List Int32), v = some (.ref r) ∧ Fr n0 L ∧ Keep h0 h [] ∧ h0.size ≤ r ∧ n0 ≤ r ∧ ys = own_f [v0, v1, v2, v3] ∧ Arv Z h r kr .int (Int32.ofNat ys.length) (ys.map Value.int) (.int (0 : Int32))) := by
  refine Own.Met.of (plainFor_of_name (by first | (simp [plainName, overriddenIn]; done) | decide +kernel)) ?_
  intro p e s m below meth c T0 hx hby hml hown hnm hret hlk hZ X0 e0
  have hown : s.vm.findClass "com/example/skuld/skuld/htn/Pattern" = some m.cls := hown
  have hml : c.maxLocals = 8 := hml
  have hnm : meth.name = "slots" := hnm
  have ef : entryFrame m #[(.ref a)] 8 = mkF m 0 #[.val (.ref a), .unset, .unset, .unset, .unset, .unset, .unset, .unset] [] := by first | (simp [entryFrame, mkF, argsToLocals, Value.category]; done) | rfl
  rw [ef]
  have N0 := Fr.nil n0
  refine Own.iconst 1 X0 hx ((0 : Int32)) (hb hby d4_0) rfl rfl ?_
  refine Own.istoreNV 2 #[.val (.ref a), .val (.int (0 : Int32)), .unset, .unset, .unset, .unset, .unset, .unset] X0 hx (hb hby d4_1) rfl rfl ?_
  refine Own.aloadN 3 X0 hx (hb hby d4_2) rfl rfl rfl ?_
  refine Own.getFld 6 X0 hx hZ hown (host := "") (Or.inl (w 29 rfl)) Via.refl e0 F3 (hb hby d4_3) rfl ?_
  intro T1 X1 e1
  refine Own.astoreN 7 #[.val (.ref a), .val (.int (0 : Int32)), .val (.ref b), .unset, .unset, .unset, .unset, .unset] X1 hx (hb hby d4_6) rfl rfl rfl ?_
  refine Own.aloadN 8 X1 hx (hb hby d4_7) rfl rfl rfl ?_
  refine Own.arrLen 9 X1 hx hZ e1 V1 (hb hby d4_8) rfl ?_
  refine Own.istoreNV 10 #[.val (.ref a), .val (.int (0 : Int32)), .val (.ref b), .val (.int (4 : Int32)), .unset, .unset, .unset, .unset] X1 hx (hb hby d4_9) rfl rfl ?_
  refine Own.iconst 11 X1 hx ((0 : Int32)) (hb hby d4_10) rfl rfl ?_
  refine Own.istoreV 13 #[.val (.ref a), .val (.int (0 : Int32)), .val (.ref b), .val (.int (4 : Int32)), .val (.int (0 : Int32)), .unset, .unset, .unset] X1 hx (hb hby d4_11) rfl rfl ?_
  refine Own.iload 15 X1 hx (hb hby d4_13) rfl rfl ?_
  refine Own.iloadN 16 X1 hx (hb hby d4_15) rfl rfl ?_
  refine Own.icmp_ge 39 19 X1 hx (hb hby d4_16) (by decide) rfl (fun tk => absurd tk (by decide)) (fun tk => ?_)
  refine Own.aloadN 20 X1 hx (hb hby d4_19) rfl rfl rfl ?_
  refine Own.iload 22 X1 hx (hb hby d4_20) rfl rfl ?_
  refine Own.iaload 23 X1 hx hZ e1 (v0) V1 (by decide) rfl (hb hby d4_22) rfl ?_
  refine Own.istoreV 25 #[.val (.ref a), .val (.int (0 : Int32)), .val (.ref b), .val (.int (4 : Int32)), .val (.int (0 : Int32)), .val (.int v0), .unset, .unset] X1 hx (hb hby d4_23) rfl rfl ?_
  refine Own.iload 27 X1 hx (hb hby d4_25) rfl rfl ?_
  refine Own.if_lt 33 30 X1 hx (hb hby d4_27) (by decide) rfl (fun q0 => ?_) (fun q0 => ?_)
  ·
    refine Own.iinc 36 (fun c_2 => #[.val (.ref a), .val (.int (0 : Int32)), .val (.ref b), .val (.int (4 : Int32)), .val (.int c_2), .val (.int v0), .unset, .unset]) X1 hx ((1 : Int32)) (hb hby d4_33) rfl rfl rfl (fun _ => rfl) fun c_2 hc_2 => ?_
    obtain rfl : c_2 = (1 : Int32) := hc_2.trans (by decide)
    refine Own.goto 13 X1 hx (hb hby d4_36) (by decide) ?_
    refine Own.iload 15 X1 hx (hb hby d4_13) rfl rfl ?_
    refine Own.iloadN 16 X1 hx (hb hby d4_15) rfl rfl ?_
    refine Own.icmp_ge 39 19 X1 hx (hb hby d4_16) (by decide) rfl (fun tk => absurd tk (by decide)) (fun tk => ?_)
    refine Own.aloadN 20 X1 hx (hb hby d4_19) rfl rfl rfl ?_
    refine Own.iload 22 X1 hx (hb hby d4_20) rfl rfl ?_
    refine Own.iaload 23 X1 hx hZ e1 (v1) V1 (by decide) rfl (hb hby d4_22) rfl ?_
    refine Own.istoreV 25 #[.val (.ref a), .val (.int (0 : Int32)), .val (.ref b), .val (.int (4 : Int32)), .val (.int (1 : Int32)), .val (.int v1), .unset, .unset] X1 hx (hb hby d4_23) rfl rfl ?_
    refine Own.iload 27 X1 hx (hb hby d4_25) rfl rfl ?_
    refine Own.if_lt 33 30 X1 hx (hb hby d4_27) (by decide) rfl (fun q1 => ?_) (fun q1 => ?_)
    ·
      refine Own.iinc 36 (fun c_3 => #[.val (.ref a), .val (.int (0 : Int32)), .val (.ref b), .val (.int (4 : Int32)), .val (.int c_3), .val (.int v1), .unset, .unset]) X1 hx ((1 : Int32)) (hb hby d4_33) rfl rfl rfl (fun _ => rfl) fun c_3 hc_3 => ?_
      obtain rfl : c_3 = (2 : Int32) := hc_3.trans (by decide)
      refine Own.goto 13 X1 hx (hb hby d4_36) (by decide) ?_
      refine Own.iload 15 X1 hx (hb hby d4_13) rfl rfl ?_
      refine Own.iloadN 16 X1 hx (hb hby d4_15) rfl rfl ?_
      refine Own.icmp_ge 39 19 X1 hx (hb hby d4_16) (by decide) rfl (fun tk => absurd tk (by decide)) (fun tk => ?_)
      refine Own.aloadN 20 X1 hx (hb hby d4_19) rfl rfl rfl ?_
      refine Own.iload 22 X1 hx (hb hby d4_20) rfl rfl ?_
      refine Own.iaload 23 X1 hx hZ e1 (v2) V1 (by decide) rfl (hb hby d4_22) rfl ?_
      refine Own.istoreV 25 #[.val (.ref a), .val (.int (0 : Int32)), .val (.ref b), .val (.int (4 : Int32)), .val (.int (2 : Int32)), .val (.int v2), .unset, .unset] X1 hx (hb hby d4_23) rfl rfl ?_
      refine Own.iload 27 X1 hx (hb hby d4_25) rfl rfl ?_
      refine Own.if_lt 33 30 X1 hx (hb hby d4_27) (by decide) rfl (fun q2 => ?_) (fun q2 => ?_)
      ·
        refine Own.iinc 36 (fun c_4 => #[.val (.ref a), .val (.int (0 : Int32)), .val (.ref b), .val (.int (4 : Int32)), .val (.int c_4), .val (.int v2), .unset, .unset]) X1 hx ((1 : Int32)) (hb hby d4_33) rfl rfl rfl (fun _ => rfl) fun c_4 hc_4 => ?_
        obtain rfl : c_4 = (3 : Int32) := hc_4.trans (by decide)
        refine Own.goto 13 X1 hx (hb hby d4_36) (by decide) ?_
        refine Own.iload 15 X1 hx (hb hby d4_13) rfl rfl ?_
        refine Own.iloadN 16 X1 hx (hb hby d4_15) rfl rfl ?_
        refine Own.icmp_ge 39 19 X1 hx (hb hby d4_16) (by decide) rfl (fun tk => absurd tk (by decide)) (fun tk => ?_)
        refine Own.aloadN 20 X1 hx (hb hby d4_19) rfl rfl rfl ?_
        refine Own.iload 22 X1 hx (hb hby d4_20) rfl rfl ?_
        refine Own.iaload 23 X1 hx hZ e1 (v3) V1 (by decide) rfl (hb hby d4_22) rfl ?_
        refine Own.istoreV 25 #[.val (.ref a), .val (.int (0 : Int32)), .val (.ref b), .val (.int (4 : Int32)), .val (.int (3 : Int32)), .val (.int v3), .unset, .unset] X1 hx (hb hby d4_23) rfl rfl ?_
        refine Own.iload 27 X1 hx (hb hby d4_25) rfl rfl ?_
        refine Own.if_lt 33 30 X1 hx (hb hby d4_27) (by decide) rfl (fun q3 => ?_) (fun q3 => ?_)
        ·
          refine Own.iinc 36 (fun c_5 => #[.val (.ref a), .val (.int (0 : Int32)), .val (.ref b), .val (.int (4 : Int32)), .val (.int c_5), .val (.int v3), .unset, .unset]) X1 hx ((1 : Int32)) (hb hby d4_33) rfl rfl rfl (fun _ => rfl) fun c_5 hc_5 => ?_
          obtain rfl : c_5 = (4 : Int32) := hc_5.trans (by decide)
          refine Own.goto 13 X1 hx (hb hby d4_36) (by decide) ?_
          refine Own.iload 15 X1 hx (hb hby d4_13) rfl rfl ?_
          refine Own.iloadN 16 X1 hx (hb hby d4_15) rfl rfl ?_
          refine Own.icmp_ge 39 19 X1 hx (hb hby d4_16) (by decide) rfl (fun tk => ?_) (fun tk => absurd tk (by decide))
          refine Own.iloadN 40 X1 hx (hb hby d4_39) rfl rfl ?_
          refine Own.newArr 42 0 X1 hx hZ (w 5 rfl) e1 (by decide) (by decide) (by decide) (hb hby d4_40) rfl (by decide) (by decide) ?_
          intro T6 h6 r k6 z6 X6 e6 E6 A6
          have ne_a_r : a ≠ r := Nat.ne_of_lt (Nat.lt_of_lt_of_le F3.lt (Nat.le_of_eq z6.symm))
          have ne_b_r : b ≠ r := Nat.ne_of_lt (Nat.lt_of_lt_of_le V1.lt (Nat.le_of_eq z6.symm))
          have g_r : n0 ≤ r := Nat.le_trans Z0 (Nat.le_of_eq z6.symm)
          have sz_r : h0.size ≤ r := Nat.le_trans (Keep.refl h0 []).1 (Nat.le_of_eq z6.symm)
          have K6 := (Keep.refl h0 []).ext E6
          have Ff_8 := F3.ext E6
          have Vf_9 := V1.ext E6
          have zl6 := Nat.le_trans Z0 E6.1
          have V6 : Arv Z h6 r k6 .int (0 : Int32) [] (.int (0 : Int32)) := A6
          refine Own.astoreN 43 #[.val (.ref a), .val (.int (0 : Int32)), .val (.ref r), .val (.int (4 : Int32)), .val (.int (4 : Int32)), .val (.int v3), .unset, .unset] X6 hx (hb hby d4_42) rfl rfl rfl ?_
          refine Own.iconst 44 X6 hx ((0 : Int32)) (hb hby d4_43) rfl rfl ?_
          refine Own.istoreNV 45 #[.val (.ref a), .val (.int (0 : Int32)), .val (.ref r), .val (.int (0 : Int32)), .val (.int (4 : Int32)), .val (.int v3), .unset, .unset] X6 hx (hb hby d4_44) rfl rfl ?_
          refine Own.aloadN 46 X6 hx (hb hby d4_45) rfl rfl rfl ?_
          refine Own.getFld 49 X6 hx hZ hown (host := "") (Or.inl (w 29 rfl)) Via.refl e6 Ff_8 (hb hby d4_46) rfl ?_
          intro T10 X10 e10
          refine Own.astore 51 #[.val (.ref a), .val (.int (0 : Int32)), .val (.ref r), .val (.int (0 : Int32)), .val (.ref b), .val (.int v3), .unset, .unset] X10 hx (hb hby d4_49) rfl rfl rfl ?_
          refine Own.aload 53 X10 hx (hb hby d4_51) rfl rfl rfl ?_
          refine Own.arrLen 54 X10 hx hZ e10 Vf_9 (hb hby d4_53) rfl ?_
          refine Own.istoreV 56 #[.val (.ref a), .val (.int (0 : Int32)), .val (.ref r), .val (.int (0 : Int32)), .val (.ref b), .val (.int (4 : Int32)), .unset, .unset] X10 hx (hb hby d4_54) rfl rfl ?_
          refine Own.iconst 57 X10 hx ((0 : Int32)) (hb hby d4_56) rfl rfl ?_
          refine Own.istoreV 59 #[.val (.ref a), .val (.int (0 : Int32)), .val (.ref r), .val (.int (0 : Int32)), .val (.ref b), .val (.int (4 : Int32)), .val (.int (0 : Int32)), .unset] X10 hx (hb hby d4_57) rfl rfl ?_
          refine Own.iload 61 X10 hx (hb hby d4_59) rfl rfl ?_
          refine Own.iload 63 X10 hx (hb hby d4_61) rfl rfl ?_
          refine Own.icmp_ge 92 66 X10 hx (hb hby d4_63) (by decide) rfl (fun tk => absurd tk (by decide)) (fun tk => ?_)
          refine Own.aload 68 X10 hx (hb hby d4_66) rfl rfl rfl ?_
          refine Own.iload 70 X10 hx (hb hby d4_68) rfl rfl ?_
          refine Own.iaload 71 X10 hx hZ e10 (v0) Vf_9 (by decide) rfl (hb hby d4_70) rfl ?_
          refine Own.istoreV 73 #[.val (.ref a), .val (.int (0 : Int32)), .val (.ref r), .val (.int (0 : Int32)), .val (.ref b), .val (.int (4 : Int32)), .val (.int (0 : Int32)), .val (.int v0)] X10 hx (hb hby d4_71) rfl rfl ?_
          refine Own.iload 75 X10 hx (hb hby d4_73) rfl rfl ?_
          refine Own.if_lt 86 78 X10 hx (hb hby d4_75) (by decide) rfl (fun tk => ?_) (fun tk => absurd q0 tk)
          refine Own.iinc 89 (fun c_11 => #[.val (.ref a), .val (.int (0 : Int32)), .val (.ref r), .val (.int (0 : Int32)), .val (.ref b), .val (.int (4 : Int32)), .val (.int c_11), .val (.int v0)]) X10 hx ((1 : Int32)) (hb hby d4_86) rfl rfl rfl (fun _ => rfl) fun c_11 hc_11 => ?_
          obtain rfl : c_11 = (1 : Int32) := hc_11.trans (by decide)
          refine Own.goto 59 X10 hx (hb hby d4_89) (by decide) ?_
          refine Own.iload 61 X10 hx (hb hby d4_59) rfl rfl ?_
          refine Own.iload 63 X10 hx (hb hby d4_61) rfl rfl ?_
          refine Own.icmp_ge 92 66 X10 hx (hb hby d4_63) (by decide) rfl (fun tk => absurd tk (by decide)) (fun tk => ?_)
          refine Own.aload 68 X10 hx (hb hby d4_66) rfl rfl rfl ?_
          refine Own.iload 70 X10 hx (hb hby d4_68) rfl rfl ?_
          refine Own.iaload 71 X10 hx hZ e10 (v1) Vf_9 (by decide) rfl (hb hby d4_70) rfl ?_
          refine Own.istoreV 73 #[.val (.ref a), .val (.int (0 : Int32)), .val (.ref r), .val (.int (0 : Int32)), .val (.ref b), .val (.int (4 : Int32)), .val (.int (1 : Int32)), .val (.int v1)] X10 hx (hb hby d4_71) rfl rfl ?_
          refine Own.iload 75 X10 hx (hb hby d4_73) rfl rfl ?_
          refine Own.if_lt 86 78 X10 hx (hb hby d4_75) (by decide) rfl (fun tk => ?_) (fun tk => absurd q1 tk)
          refine Own.iinc 89 (fun c_12 => #[.val (.ref a), .val (.int (0 : Int32)), .val (.ref r), .val (.int (0 : Int32)), .val (.ref b), .val (.int (4 : Int32)), .val (.int c_12), .val (.int v1)]) X10 hx ((1 : Int32)) (hb hby d4_86) rfl rfl rfl (fun _ => rfl) fun c_12 hc_12 => ?_
          obtain rfl : c_12 = (2 : Int32) := hc_12.trans (by decide)
          refine Own.goto 59 X10 hx (hb hby d4_89) (by decide) ?_
          refine Own.iload 61 X10 hx (hb hby d4_59) rfl rfl ?_
          refine Own.iload 63 X10 hx (hb hby d4_61) rfl rfl ?_
          refine Own.icmp_ge 92 66 X10 hx (hb hby d4_63) (by decide) rfl (fun tk => absurd tk (by decide)) (fun tk => ?_)
          refine Own.aload 68 X10 hx (hb hby d4_66) rfl rfl rfl ?_
          refine Own.iload 70 X10 hx (hb hby d4_68) rfl rfl ?_
          refine Own.iaload 71 X10 hx hZ e10 (v2) Vf_9 (by decide) rfl (hb hby d4_70) rfl ?_
          refine Own.istoreV 73 #[.val (.ref a), .val (.int (0 : Int32)), .val (.ref r), .val (.int (0 : Int32)), .val (.ref b), .val (.int (4 : Int32)), .val (.int (2 : Int32)), .val (.int v2)] X10 hx (hb hby d4_71) rfl rfl ?_
          refine Own.iload 75 X10 hx (hb hby d4_73) rfl rfl ?_
          refine Own.if_lt 86 78 X10 hx (hb hby d4_75) (by decide) rfl (fun tk => ?_) (fun tk => absurd q2 tk)
          refine Own.iinc 89 (fun c_13 => #[.val (.ref a), .val (.int (0 : Int32)), .val (.ref r), .val (.int (0 : Int32)), .val (.ref b), .val (.int (4 : Int32)), .val (.int c_13), .val (.int v2)]) X10 hx ((1 : Int32)) (hb hby d4_86) rfl rfl rfl (fun _ => rfl) fun c_13 hc_13 => ?_
          obtain rfl : c_13 = (3 : Int32) := hc_13.trans (by decide)
          refine Own.goto 59 X10 hx (hb hby d4_89) (by decide) ?_
          refine Own.iload 61 X10 hx (hb hby d4_59) rfl rfl ?_
          refine Own.iload 63 X10 hx (hb hby d4_61) rfl rfl ?_
          refine Own.icmp_ge 92 66 X10 hx (hb hby d4_63) (by decide) rfl (fun tk => absurd tk (by decide)) (fun tk => ?_)
          refine Own.aload 68 X10 hx (hb hby d4_66) rfl rfl rfl ?_
          refine Own.iload 70 X10 hx (hb hby d4_68) rfl rfl ?_
          refine Own.iaload 71 X10 hx hZ e10 (v3) Vf_9 (by decide) rfl (hb hby d4_70) rfl ?_
          refine Own.istoreV 73 #[.val (.ref a), .val (.int (0 : Int32)), .val (.ref r), .val (.int (0 : Int32)), .val (.ref b), .val (.int (4 : Int32)), .val (.int (3 : Int32)), .val (.int v3)] X10 hx (hb hby d4_71) rfl rfl ?_
          refine Own.iload 75 X10 hx (hb hby d4_73) rfl rfl ?_
          refine Own.if_lt 86 78 X10 hx (hb hby d4_75) (by decide) rfl (fun tk => ?_) (fun tk => absurd q3 tk)
          refine Own.iinc 89 (fun c_14 => #[.val (.ref a), .val (.int (0 : Int32)), .val (.ref r), .val (.int (0 : Int32)), .val (.ref b), .val (.int (4 : Int32)), .val (.int c_14), .val (.int v3)]) X10 hx ((1 : Int32)) (hb hby d4_86) rfl rfl rfl (fun _ => rfl) fun c_14 hc_14 => ?_
          obtain rfl : c_14 = (4 : Int32) := hc_14.trans (by decide)
          refine Own.goto 59 X10 hx (hb hby d4_89) (by decide) ?_
          refine Own.iload 61 X10 hx (hb hby d4_59) rfl rfl ?_
          refine Own.iload 63 X10 hx (hb hby d4_61) rfl rfl ?_
          refine Own.icmp_ge 92 66 X10 hx (hb hby d4_63) (by decide) rfl (fun tk => ?_) (fun tk => absurd tk (by decide))
          refine Own.aloadN 93 X10 hx (hb hby d4_92) rfl rfl rfl ?_
          refine Own.retRef X10 hx hlk rfl hret rfl (hb hby d4_93) (by decide) (by decide) ?_
          rw [e10]
          exact ⟨r, k6, [], rfl, N0, K6, sz_r, g_r, by rw [own_f, List.filter_cons_of_neg (p := fun x => decide (¬ x < 0)) (by rw [decide_eq_true_iff]; exact fun u => u q0), List.filter_cons_of_neg (p := fun x => decide (¬ x < 0)) (by rw [decide_eq_true_iff]; exact fun u => u q1), List.filter_cons_of_neg (p := fun x => decide (¬ x < 0)) (by rw [decide_eq_true_iff]; exact fun u => u q2), List.filter_cons_of_neg (p := fun x => decide (¬ x < 0)) (by rw [decide_eq_true_iff]; exact fun u => u q3), List.filter_nil], V6⟩
        ·
          refine Own.iinc 33 (fun c_15 => #[.val (.ref a), .val (.int c_15), .val (.ref b), .val (.int (4 : Int32)), .val (.int (3 : Int32)), .val (.int v3), .unset, .unset]) X1 hx ((1 : Int32)) (hb hby d4_30) rfl rfl rfl (fun _ => rfl) fun c_15 hc_15 => ?_
          obtain rfl : c_15 = (1 : Int32) := hc_15.trans (by decide)
          refine Own.iinc 36 (fun c_16 => #[.val (.ref a), .val (.int (1 : Int32)), .val (.ref b), .val (.int (4 : Int32)), .val (.int c_16), .val (.int v3), .unset, .unset]) X1 hx ((1 : Int32)) (hb hby d4_33) rfl rfl rfl (fun _ => rfl) fun c_16 hc_16 => ?_
          obtain rfl : c_16 = (4 : Int32) := hc_16.trans (by decide)
          refine Own.goto 13 X1 hx (hb hby d4_36) (by decide) ?_
          refine Own.iload 15 X1 hx (hb hby d4_13) rfl rfl ?_
          refine Own.iloadN 16 X1 hx (hb hby d4_15) rfl rfl ?_
          refine Own.icmp_ge 39 19 X1 hx (hb hby d4_16) (by decide) rfl (fun tk => ?_) (fun tk => absurd tk (by decide))
          refine Own.iloadN 40 X1 hx (hb hby d4_39) rfl rfl ?_
          refine Own.newArr 42 1 X1 hx hZ (w 5 rfl) e1 (by decide) (by decide) (by decide) (hb hby d4_40) rfl (by decide) (by decide) ?_
          intro T17 h17 r k17 z17 X17 e17 E17 A17
          have ne_a_r : a ≠ r := Nat.ne_of_lt (Nat.lt_of_lt_of_le F3.lt (Nat.le_of_eq z17.symm))
          have ne_b_r : b ≠ r := Nat.ne_of_lt (Nat.lt_of_lt_of_le V1.lt (Nat.le_of_eq z17.symm))
          have g_r : n0 ≤ r := Nat.le_trans Z0 (Nat.le_of_eq z17.symm)
          have sz_r : h0.size ≤ r := Nat.le_trans (Keep.refl h0 []).1 (Nat.le_of_eq z17.symm)
          have K17 := (Keep.refl h0 []).ext E17
          have Ff_19 := F3.ext E17
          have Vf_20 := V1.ext E17
          have zl17 := Nat.le_trans Z0 E17.1
          have V17 : Arv Z h17 r k17 .int (1 : Int32) [(.int (0 : Int32))] (.int (0 : Int32)) := A17
          refine Own.astoreN 43 #[.val (.ref a), .val (.int (1 : Int32)), .val (.ref r), .val (.int (4 : Int32)), .val (.int (4 : Int32)), .val (.int v3), .unset, .unset] X17 hx (hb hby d4_42) rfl rfl rfl ?_
          refine Own.iconst 44 X17 hx ((0 : Int32)) (hb hby d4_43) rfl rfl ?_
          refine Own.istoreNV 45 #[.val (.ref a), .val (.int (1 : Int32)), .val (.ref r), .val (.int (0 : Int32)), .val (.int (4 : Int32)), .val (.int v3), .unset, .unset] X17 hx (hb hby d4_44) rfl rfl ?_
          refine Own.aloadN 46 X17 hx (hb hby d4_45) rfl rfl rfl ?_
          refine Own.getFld 49 X17 hx hZ hown (host := "") (Or.inl (w 29 rfl)) Via.refl e17 Ff_19 (hb hby d4_46) rfl ?_
          intro T21 X21 e21
          refine Own.astore 51 #[.val (.ref a), .val (.int (1 : Int32)), .val (.ref r), .val (.int (0 : Int32)), .val (.ref b), .val (.int v3), .unset, .unset] X21 hx (hb hby d4_49) rfl rfl rfl ?_
          refine Own.aload 53 X21 hx (hb hby d4_51) rfl rfl rfl ?_
          refine Own.arrLen 54 X21 hx hZ e21 Vf_20 (hb hby d4_53) rfl ?_
          refine Own.istoreV 56 #[.val (.ref a), .val (.int (1 : Int32)), .val (.ref r), .val (.int (0 : Int32)), .val (.ref b), .val (.int (4 : Int32)), .unset, .unset] X21 hx (hb hby d4_54) rfl rfl ?_
          refine Own.iconst 57 X21 hx ((0 : Int32)) (hb hby d4_56) rfl rfl ?_
          refine Own.istoreV 59 #[.val (.ref a), .val (.int (1 : Int32)), .val (.ref r), .val (.int (0 : Int32)), .val (.ref b), .val (.int (4 : Int32)), .val (.int (0 : Int32)), .unset] X21 hx (hb hby d4_57) rfl rfl ?_
          refine Own.iload 61 X21 hx (hb hby d4_59) rfl rfl ?_
          refine Own.iload 63 X21 hx (hb hby d4_61) rfl rfl ?_
          refine Own.icmp_ge 92 66 X21 hx (hb hby d4_63) (by decide) rfl (fun tk => absurd tk (by decide)) (fun tk => ?_)
          refine Own.aload 68 X21 hx (hb hby d4_66) rfl rfl rfl ?_
          refine Own.iload 70 X21 hx (hb hby d4_68) rfl rfl ?_
          refine Own.iaload 71 X21 hx hZ e21 (v0) Vf_20 (by decide) rfl (hb hby d4_70) rfl ?_
          refine Own.istoreV 73 #[.val (.ref a), .val (.int (1 : Int32)), .val (.ref r), .val (.int (0 : Int32)), .val (.ref b), .val (.int (4 : Int32)), .val (.int (0 : Int32)), .val (.int v0)] X21 hx (hb hby d4_71) rfl rfl ?_
          refine Own.iload 75 X21 hx (hb hby d4_73) rfl rfl ?_
          refine Own.if_lt 86 78 X21 hx (hb hby d4_75) (by decide) rfl (fun tk => ?_) (fun tk => absurd q0 tk)
          refine Own.iinc 89 (fun c_22 => #[.val (.ref a), .val (.int (1 : Int32)), .val (.ref r), .val (.int (0 : Int32)), .val (.ref b), .val (.int (4 : Int32)), .val (.int c_22), .val (.int v0)]) X21 hx ((1 : Int32)) (hb hby d4_86) rfl rfl rfl (fun _ => rfl) fun c_22 hc_22 => ?_
          obtain rfl : c_22 = (1 : Int32) := hc_22.trans (by decide)
          refine Own.goto 59 X21 hx (hb hby d4_89) (by decide) ?_
          refine Own.iload 61 X21 hx (hb hby d4_59) rfl rfl ?_
          refine Own.iload 63 X21 hx (hb hby d4_61) rfl rfl ?_
          refine Own.icmp_ge 92 66 X21 hx (hb hby d4_63) (by decide) rfl (fun tk => absurd tk (by decide)) (fun tk => ?_)
          refine Own.aload 68 X21 hx (hb hby d4_66) rfl rfl rfl ?_
          refine Own.iload 70 X21 hx (hb hby d4_68) rfl rfl ?_
          refine Own.iaload 71 X21 hx hZ e21 (v1) Vf_20 (by decide) rfl (hb hby d4_70) rfl ?_
          refine Own.istoreV 73 #[.val (.ref a), .val (.int (1 : Int32)), .val (.ref r), .val (.int (0 : Int32)), .val (.ref b), .val (.int (4 : Int32)), .val (.int (1 : Int32)), .val (.int v1)] X21 hx (hb hby d4_71) rfl rfl ?_
          refine Own.iload 75 X21 hx (hb hby d4_73) rfl rfl ?_
          refine Own.if_lt 86 78 X21 hx (hb hby d4_75) (by decide) rfl (fun tk => ?_) (fun tk => absurd q1 tk)
          refine Own.iinc 89 (fun c_23 => #[.val (.ref a), .val (.int (1 : Int32)), .val (.ref r), .val (.int (0 : Int32)), .val (.ref b), .val (.int (4 : Int32)), .val (.int c_23), .val (.int v1)]) X21 hx ((1 : Int32)) (hb hby d4_86) rfl rfl rfl (fun _ => rfl) fun c_23 hc_23 => ?_
          obtain rfl : c_23 = (2 : Int32) := hc_23.trans (by decide)
          refine Own.goto 59 X21 hx (hb hby d4_89) (by decide) ?_
          refine Own.iload 61 X21 hx (hb hby d4_59) rfl rfl ?_
          refine Own.iload 63 X21 hx (hb hby d4_61) rfl rfl ?_
          refine Own.icmp_ge 92 66 X21 hx (hb hby d4_63) (by decide) rfl (fun tk => absurd tk (by decide)) (fun tk => ?_)
          refine Own.aload 68 X21 hx (hb hby d4_66) rfl rfl rfl ?_
          refine Own.iload 70 X21 hx (hb hby d4_68) rfl rfl ?_
          refine Own.iaload 71 X21 hx hZ e21 (v2) Vf_20 (by decide) rfl (hb hby d4_70) rfl ?_
          refine Own.istoreV 73 #[.val (.ref a), .val (.int (1 : Int32)), .val (.ref r), .val (.int (0 : Int32)), .val (.ref b), .val (.int (4 : Int32)), .val (.int (2 : Int32)), .val (.int v2)] X21 hx (hb hby d4_71) rfl rfl ?_
          refine Own.iload 75 X21 hx (hb hby d4_73) rfl rfl ?_
          refine Own.if_lt 86 78 X21 hx (hb hby d4_75) (by decide) rfl (fun tk => ?_) (fun tk => absurd q2 tk)
          refine Own.iinc 89 (fun c_24 => #[.val (.ref a), .val (.int (1 : Int32)), .val (.ref r), .val (.int (0 : Int32)), .val (.ref b), .val (.int (4 : Int32)), .val (.int c_24), .val (.int v2)]) X21 hx ((1 : Int32)) (hb hby d4_86) rfl rfl rfl (fun _ => rfl) fun c_24 hc_24 => ?_
          obtain rfl : c_24 = (3 : Int32) := hc_24.trans (by decide)
          refine Own.goto 59 X21 hx (hb hby d4_89) (by decide) ?_
          refine Own.iload 61 X21 hx (hb hby d4_59) rfl rfl ?_
          refine Own.iload 63 X21 hx (hb hby d4_61) rfl rfl ?_
          refine Own.icmp_ge 92 66 X21 hx (hb hby d4_63) (by decide) rfl (fun tk => absurd tk (by decide)) (fun tk => ?_)
          refine Own.aload 68 X21 hx (hb hby d4_66) rfl rfl rfl ?_
          refine Own.iload 70 X21 hx (hb hby d4_68) rfl rfl ?_
          refine Own.iaload 71 X21 hx hZ e21 (v3) Vf_20 (by decide) rfl (hb hby d4_70) rfl ?_
          refine Own.istoreV 73 #[.val (.ref a), .val (.int (1 : Int32)), .val (.ref r), .val (.int (0 : Int32)), .val (.ref b), .val (.int (4 : Int32)), .val (.int (3 : Int32)), .val (.int v3)] X21 hx (hb hby d4_71) rfl rfl ?_
          refine Own.iload 75 X21 hx (hb hby d4_73) rfl rfl ?_
          refine Own.if_lt 86 78 X21 hx (hb hby d4_75) (by decide) rfl (fun tk => absurd tk q3) (fun tk => ?_)
          refine Own.aloadN 79 X21 hx (hb hby d4_78) rfl rfl rfl ?_
          refine Own.iloadN 80 X21 hx (hb hby d4_79) rfl rfl ?_
          refine Own.iinc 83 (fun c_25 => #[.val (.ref a), .val (.int (1 : Int32)), .val (.ref r), .val (.int c_25), .val (.ref b), .val (.int (4 : Int32)), .val (.int (3 : Int32)), .val (.int v3)]) X21 hx ((1 : Int32)) (hb hby d4_80) rfl rfl rfl (fun _ => rfl) fun c_25 hc_25 => ?_
          obtain rfl : c_25 = (1 : Int32) := hc_25.trans (by decide)
          refine Own.iload 85 X21 hx (hb hby d4_83) rfl rfl ?_
          refine Own.iastore 86 X21 hx hZ e21 V17 (by decide) (Nat.le_of_ble_eq_true rfl) (hb hby d4_85) rfl ?_
          intro T26 h26 X26 e26 W26 A26
          have N26 := Fr.snoc X26 N0 g_r
          have Ff_28 := Ff_19.other W26 (Or.inl ne_a_r)
          have Vf_29 := Vf_20.other W26 ne_b_r
          have zl26 := Nat.le_trans zl17 (Nat.le_of_eq W26.size.symm)
          have K26 := K17.wr W26 (Or.inr sz_r)
          have V26 : Arv Z h26 r k17 .int (1 : Int32) [(.int v3)] (.int (0 : Int32)) := A26
          refine Own.iinc 89 (fun c_31 => #[.val (.ref a), .val (.int (1 : Int32)), .val (.ref r), .val (.int (1 : Int32)), .val (.ref b), .val (.int (4 : Int32)), .val (.int c_31), .val (.int v3)]) X26 hx ((1 : Int32)) (hb hby d4_86) rfl rfl rfl (fun _ => rfl) fun c_31 hc_31 => ?_
          obtain rfl : c_31 = (4 : Int32) := hc_31.trans (by decide)
          refine Own.goto 59 X26 hx (hb hby d4_89) (by decide) ?_
          refine Own.iload 61 X26 hx (hb hby d4_59) rfl rfl ?_
          refine Own.iload 63 X26 hx (hb hby d4_61) rfl rfl ?_
          refine Own.icmp_ge 92 66 X26 hx (hb hby d4_63) (by decide) rfl (fun tk => ?_) (fun tk => absurd tk (by decide))
          refine Own.aloadN 93 X26 hx (hb hby d4_92) rfl rfl rfl ?_
          refine Own.retRef X26 hx hlk rfl hret rfl (hb hby d4_93) (by decide) (by decide) ?_
          rw [e26]
          exact ⟨r, k17, [v3], rfl, N26, K26, sz_r, g_r, by rw [own_f, List.filter_cons_of_neg (p := fun x => decide (¬ x < 0)) (by rw [decide_eq_true_iff]; exact fun u => u q0), List.filter_cons_of_neg (p := fun x => decide (¬ x < 0)) (by rw [decide_eq_true_iff]; exact fun u => u q1), List.filter_cons_of_neg (p := fun x => decide (¬ x < 0)) (by rw [decide_eq_true_iff]; exact fun u => u q2), List.filter_cons_of_pos (p := fun x => decide (¬ x < 0)) (decide_eq_true q3), List.filter_nil], V26⟩
      ·
        refine Own.iinc 33 (fun c_32 => #[.val (.ref a), .val (.int c_32), .val (.ref b), .val (.int (4 : Int32)), .val (.int (2 : Int32)), .val (.int v2), .unset, .unset]) X1 hx ((1 : Int32)) (hb hby d4_30) rfl rfl rfl (fun _ => rfl) fun c_32 hc_32 => ?_
        obtain rfl : c_32 = (1 : Int32) := hc_32.trans (by decide)
        refine Own.iinc 36 (fun c_33 => #[.val (.ref a), .val (.int (1 : Int32)), .val (.ref b), .val (.int (4 : Int32)), .val (.int c_33), .val (.int v2), .unset, .unset]) X1 hx ((1 : Int32)) (hb hby d4_33) rfl rfl rfl (fun _ => rfl) fun c_33 hc_33 => ?_
        obtain rfl : c_33 = (3 : Int32) := hc_33.trans (by decide)
        refine Own.goto 13 X1 hx (hb hby d4_36) (by decide) ?_
        refine Own.iload 15 X1 hx (hb hby d4_13) rfl rfl ?_
        refine Own.iloadN 16 X1 hx (hb hby d4_15) rfl rfl ?_
        refine Own.icmp_ge 39 19 X1 hx (hb hby d4_16) (by decide) rfl (fun tk => absurd tk (by decide)) (fun tk => ?_)
        refine Own.aloadN 20 X1 hx (hb hby d4_19) rfl rfl rfl ?_
        refine Own.iload 22 X1 hx (hb hby d4_20) rfl rfl ?_
        refine Own.iaload 23 X1 hx hZ e1 (v3) V1 (by decide) rfl (hb hby d4_22) rfl ?_
        refine Own.istoreV 25 #[.val (.ref a), .val (.int (1 : Int32)), .val (.ref b), .val (.int (4 : Int32)), .val (.int (3 : Int32)), .val (.int v3), .unset, .unset] X1 hx (hb hby d4_23) rfl rfl ?_
        refine Own.iload 27 X1 hx (hb hby d4_25) rfl rfl ?_
        refine Own.if_lt 33 30 X1 hx (hb hby d4_27) (by decide) rfl (fun q3 => ?_) (fun q3 => ?_)
        ·
          refine Own.iinc 36 (fun c_34 => #[.val (.ref a), .val (.int (1 : Int32)), .val (.ref b), .val (.int (4 : Int32)), .val (.int c_34), .val (.int v3), .unset, .unset]) X1 hx ((1 : Int32)) (hb hby d4_33) rfl rfl rfl (fun _ => rfl) fun c_34 hc_34 => ?_
          obtain rfl : c_34 = (4 : Int32) := hc_34.trans (by decide)
          refine Own.goto 13 X1 hx (hb hby d4_36) (by decide) ?_
          refine Own.iload 15 X1 hx (hb hby d4_13) rfl rfl ?_
          refine Own.iloadN 16 X1 hx (hb hby d4_15) rfl rfl ?_
          refine Own.icmp_ge 39 19 X1 hx (hb hby d4_16) (by decide) rfl (fun tk => ?_) (fun tk => absurd tk (by decide))
          refine Own.iloadN 40 X1 hx (hb hby d4_39) rfl rfl ?_
          refine Own.newArr 42 1 X1 hx hZ (w 5 rfl) e1 (by decide) (by decide) (by decide) (hb hby d4_40) rfl (by decide) (by decide) ?_
          intro T35 h35 r k35 z35 X35 e35 E35 A35
          have ne_a_r : a ≠ r := Nat.ne_of_lt (Nat.lt_of_lt_of_le F3.lt (Nat.le_of_eq z35.symm))
          have ne_b_r : b ≠ r := Nat.ne_of_lt (Nat.lt_of_lt_of_le V1.lt (Nat.le_of_eq z35.symm))
          have g_r : n0 ≤ r := Nat.le_trans Z0 (Nat.le_of_eq z35.symm)
          have sz_r : h0.size ≤ r := Nat.le_trans (Keep.refl h0 []).1 (Nat.le_of_eq z35.symm)
          have K35 := (Keep.refl h0 []).ext E35
          have Ff_37 := F3.ext E35
          have Vf_38 := V1.ext E35
          have zl35 := Nat.le_trans Z0 E35.1
          have V35 : Arv Z h35 r k35 .int (1 : Int32) [(.int (0 : Int32))] (.int (0 : Int32)) := A35
          refine Own.astoreN 43 #[.val (.ref a), .val (.int (1 : Int32)), .val (.ref r), .val (.int (4 : Int32)), .val (.int (4 : Int32)), .val (.int v3), .unset, .unset] X35 hx (hb hby d4_42) rfl rfl rfl ?_
          refine Own.iconst 44 X35 hx ((0 : Int32)) (hb hby d4_43) rfl rfl ?_
          refine Own.istoreNV 45 #[.val (.ref a), .val (.int (1 : Int32)), .val (.ref r), .val (.int (0 : Int32)), .val (.int (4 : Int32)), .val (.int v3), .unset, .unset] X35 hx (hb hby d4_44) rfl rfl ?_
          refine Own.aloadN 46 X35 hx (hb hby d4_45) rfl rfl rfl ?_
          refine Own.getFld 49 X35 hx hZ hown (host := "") (Or.inl (w 29 rfl)) Via.refl e35 Ff_37 (hb hby d4_46) rfl ?_
          intro T39 X39 e39
          refine Own.astore 51 #[.val (.ref a), .val (.int (1 : Int32)), .val (.ref r), .val (.int (0 : Int32)), .val (.ref b), .val (.int v3), .unset, .unset] X39 hx (hb hby d4_49) rfl rfl rfl ?_
          refine Own.aload 53 X39 hx (hb hby d4_51) rfl rfl rfl ?_
          refine Own.arrLen 54 X39 hx hZ e39 Vf_38 (hb hby d4_53) rfl ?_
          refine Own.istoreV 56 #[.val (.ref a), .val (.int (1 : Int32)), .val (.ref r), .val (.int (0 : Int32)), .val (.ref b), .val (.int (4 : Int32)), .unset, .unset] X39 hx (hb hby d4_54) rfl rfl ?_
          refine Own.iconst 57 X39 hx ((0 : Int32)) (hb hby d4_56) rfl rfl ?_
          refine Own.istoreV 59 #[.val (.ref a), .val (.int (1 : Int32)), .val (.ref r), .val (.int (0 : Int32)), .val (.ref b), .val (.int (4 : Int32)), .val (.int (0 : Int32)), .unset] X39 hx (hb hby d4_57) rfl rfl ?_
          refine Own.iload 61 X39 hx (hb hby d4_59) rfl rfl ?_
          refine Own.iload 63 X39 hx (hb hby d4_61) rfl rfl ?_
          refine Own.icmp_ge 92 66 X39 hx (hb hby d4_63) (by decide) rfl (fun tk => absurd tk (by decide)) (fun tk => ?_)
          refine Own.aload 68 X39 hx (hb hby d4_66) rfl rfl rfl ?_
          refine Own.iload 70 X39 hx (hb hby d4_68) rfl rfl ?_
          refine Own.iaload 71 X39 hx hZ e39 (v0) Vf_38 (by decide) rfl (hb hby d4_70) rfl ?_
          refine Own.istoreV 73 #[.val (.ref a), .val (.int (1 : Int32)), .val (.ref r), .val (.int (0 : Int32)), .val (.ref b), .val (.int (4 : Int32)), .val (.int (0 : Int32)), .val (.int v0)] X39 hx (hb hby d4_71) rfl rfl ?_
          refine Own.iload 75 X39 hx (hb hby d4_73) rfl rfl ?_
          refine Own.if_lt 86 78 X39 hx (hb hby d4_75) (by decide) rfl (fun tk => ?_) (fun tk => absurd q0 tk)
          refine Own.iinc 89 (fun c_40 => #[.val (.ref a), .val (.int (1 : Int32)), .val (.ref r), .val (.int (0 : Int32)), .val (.ref b), .val (.int (4 : Int32)), .val (.int c_40), .val (.int v0)]) X39 hx ((1 : Int32)) (hb hby d4_86) rfl rfl rfl (fun _ => rfl) fun c_40 hc_40 => ?_
          obtain rfl : c_40 = (1 : Int32) := hc_40.trans (by decide)
          refine Own.goto 59 X39 hx (hb hby d4_89) (by decide) ?_
          refine Own.iload 61 X39 hx (hb hby d4_59) rfl rfl ?_
          refine Own.iload 63 X39 hx (hb hby d4_61) rfl rfl ?_
          refine Own.icmp_ge 92 66 X39 hx (hb hby d4_63) (by decide) rfl (fun tk => absurd tk (by decide)) (fun tk => ?_)
          refine Own.aload 68 X39 hx (hb hby d4_66) rfl rfl rfl ?_
          refine Own.iload 70 X39 hx (hb hby d4_68) rfl rfl ?_
          refine Own.iaload 71 X39 hx hZ e39 (v1) Vf_38 (by decide) rfl (hb hby d4_70) rfl ?_
          refine Own.istoreV 73 #[.val (.ref a), .val (.int (1 : Int32)), .val (.ref r), .val (.int (0 : Int32)), .val (.ref b), .val (.int (4 : Int32)), .val (.int (1 : Int32)), .val (.int v1)] X39 hx (hb hby d4_71) rfl rfl ?_
          refine Own.iload 75 X39 hx (hb hby d4_73) rfl rfl ?_
          refine Own.if_lt 86 78 X39 hx (hb hby d4_75) (by decide) rfl (fun tk => ?_) (fun tk => absurd q1 tk)
          refine Own.iinc 89 (fun c_41 => #[.val (.ref a), .val (.int (1 : Int32)), .val (.ref r), .val (.int (0 : Int32)), .val (.ref b), .val (.int (4 : Int32)), .val (.int c_41), .val (.int v1)]) X39 hx ((1 : Int32)) (hb hby d4_86) rfl rfl rfl (fun _ => rfl) fun c_41 hc_41 => ?_
          obtain rfl : c_41 = (2 : Int32) := hc_41.trans (by decide)
          refine Own.goto 59 X39 hx (hb hby d4_89) (by decide) ?_
          refine Own.iload 61 X39 hx (hb hby d4_59) rfl rfl ?_
          refine Own.iload 63 X39 hx (hb hby d4_61) rfl rfl ?_
          refine Own.icmp_ge 92 66 X39 hx (hb hby d4_63) (by decide) rfl (fun tk => absurd tk (by decide)) (fun tk => ?_)
          refine Own.aload 68 X39 hx (hb hby d4_66) rfl rfl rfl ?_
          refine Own.iload 70 X39 hx (hb hby d4_68) rfl rfl ?_
          refine Own.iaload 71 X39 hx hZ e39 (v2) Vf_38 (by decide) rfl (hb hby d4_70) rfl ?_
          refine Own.istoreV 73 #[.val (.ref a), .val (.int (1 : Int32)), .val (.ref r), .val (.int (0 : Int32)), .val (.ref b), .val (.int (4 : Int32)), .val (.int (2 : Int32)), .val (.int v2)] X39 hx (hb hby d4_71) rfl rfl ?_
          refine Own.iload 75 X39 hx (hb hby d4_73) rfl rfl ?_
          refine Own.if_lt 86 78 X39 hx (hb hby d4_75) (by decide) rfl (fun tk => absurd tk q2) (fun tk => ?_)
          refine Own.aloadN 79 X39 hx (hb hby d4_78) rfl rfl rfl ?_
          refine Own.iloadN 80 X39 hx (hb hby d4_79) rfl rfl ?_
          refine Own.iinc 83 (fun c_42 => #[.val (.ref a), .val (.int (1 : Int32)), .val (.ref r), .val (.int c_42), .val (.ref b), .val (.int (4 : Int32)), .val (.int (2 : Int32)), .val (.int v2)]) X39 hx ((1 : Int32)) (hb hby d4_80) rfl rfl rfl (fun _ => rfl) fun c_42 hc_42 => ?_
          obtain rfl : c_42 = (1 : Int32) := hc_42.trans (by decide)
          refine Own.iload 85 X39 hx (hb hby d4_83) rfl rfl ?_
          refine Own.iastore 86 X39 hx hZ e39 V35 (by decide) (Nat.le_of_ble_eq_true rfl) (hb hby d4_85) rfl ?_
          intro T43 h43 X43 e43 W43 A43
          have N43 := Fr.snoc X43 N0 g_r
          have Ff_45 := Ff_37.other W43 (Or.inl ne_a_r)
          have Vf_46 := Vf_38.other W43 ne_b_r
          have zl43 := Nat.le_trans zl35 (Nat.le_of_eq W43.size.symm)
          have K43 := K35.wr W43 (Or.inr sz_r)
          have V43 : Arv Z h43 r k35 .int (1 : Int32) [(.int v2)] (.int (0 : Int32)) := A43
          refine Own.iinc 89 (fun c_48 => #[.val (.ref a), .val (.int (1 : Int32)), .val (.ref r), .val (.int (1 : Int32)), .val (.ref b), .val (.int (4 : Int32)), .val (.int c_48), .val (.int v2)]) X43 hx ((1 : Int32)) (hb hby d4_86) rfl rfl rfl (fun _ => rfl) fun c_48 hc_48 => ?_
          obtain rfl : c_48 = (3 : Int32) := hc_48.trans (by decide)
          refine Own.goto 59 X43 hx (hb hby d4_89) (by decide) ?_
          refine Own.iload 61 X43 hx (hb hby d4_59) rfl rfl ?_
          refine Own.iload 63 X43 hx (hb hby d4_61) rfl rfl ?_
          refine Own.icmp_ge 92 66 X43 hx (hb hby d4_63) (by decide) rfl (fun tk => absurd tk (by decide)) (fun tk => ?_)
          refine Own.aload 68 X43 hx (hb hby d4_66) rfl rfl rfl ?_
          refine Own.iload 70 X43 hx (hb hby d4_68) rfl rfl ?_
          refine Own.iaload 71 X43 hx hZ e43 (v3) Vf_46 (by decide) rfl (hb hby d4_70) rfl ?_
          refine Own.istoreV 73 #[.val (.ref a), .val (.int (1 : Int32)), .val (.ref r), .val (.int (1 : Int32)), .val (.ref b), .val (.int (4 : Int32)), .val (.int (3 : Int32)), .val (.int v3)] X43 hx (hb hby d4_71) rfl rfl ?_
          refine Own.iload 75 X43 hx (hb hby d4_73) rfl rfl ?_
          refine Own.if_lt 86 78 X43 hx (hb hby d4_75) (by decide) rfl (fun tk => ?_) (fun tk => absurd q3 tk)
          refine Own.iinc 89 (fun c_49 => #[.val (.ref a), .val (.int (1 : Int32)), .val (.ref r), .val (.int (1 : Int32)), .val (.ref b), .val (.int (4 : Int32)), .val (.int c_49), .val (.int v3)]) X43 hx ((1 : Int32)) (hb hby d4_86) rfl rfl rfl (fun _ => rfl) fun c_49 hc_49 => ?_
          obtain rfl : c_49 = (4 : Int32) := hc_49.trans (by decide)
          refine Own.goto 59 X43 hx (hb hby d4_89) (by decide) ?_
          refine Own.iload 61 X43 hx (hb hby d4_59) rfl rfl ?_
          refine Own.iload 63 X43 hx (hb hby d4_61) rfl rfl ?_
          refine Own.icmp_ge 92 66 X43 hx (hb hby d4_63) (by decide) rfl (fun tk => ?_) (fun tk => absurd tk (by decide))
          refine Own.aloadN 93 X43 hx (hb hby d4_92) rfl rfl rfl ?_
          refine Own.retRef X43 hx hlk rfl hret rfl (hb hby d4_93) (by decide) (by decide) ?_
          rw [e43]
          exact ⟨r, k35, [v2], rfl, N43, K43, sz_r, g_r, by rw [own_f, List.filter_cons_of_neg (p := fun x => decide (¬ x < 0)) (by rw [decide_eq_true_iff]; exact fun u => u q0), List.filter_cons_of_neg (p := fun x => decide (¬ x < 0)) (by rw [decide_eq_true_iff]; exact fun u => u q1), List.filter_cons_of_pos (p := fun x => decide (¬ x < 0)) (decide_eq_true q2), List.filter_cons_of_neg (p := fun x => decide (¬ x < 0)) (by rw [decide_eq_true_iff]; exact fun u => u q3), List.filter_nil], V43⟩
        ·
          refine Own.iinc 33 (fun c_50 => #[.val (.ref a), .val (.int c_50), .val (.ref b), .val (.int (4 : Int32)), .val (.int (3 : Int32)), .val (.int v3), .unset, .unset]) X1 hx ((1 : Int32)) (hb hby d4_30) rfl rfl rfl (fun _ => rfl) fun c_50 hc_50 => ?_
          obtain rfl : c_50 = (2 : Int32) := hc_50.trans (by decide)
          refine Own.iinc 36 (fun c_51 => #[.val (.ref a), .val (.int (2 : Int32)), .val (.ref b), .val (.int (4 : Int32)), .val (.int c_51), .val (.int v3), .unset, .unset]) X1 hx ((1 : Int32)) (hb hby d4_33) rfl rfl rfl (fun _ => rfl) fun c_51 hc_51 => ?_
          obtain rfl : c_51 = (4 : Int32) := hc_51.trans (by decide)
          refine Own.goto 13 X1 hx (hb hby d4_36) (by decide) ?_
          refine Own.iload 15 X1 hx (hb hby d4_13) rfl rfl ?_
          refine Own.iloadN 16 X1 hx (hb hby d4_15) rfl rfl ?_
          refine Own.icmp_ge 39 19 X1 hx (hb hby d4_16) (by decide) rfl (fun tk => ?_) (fun tk => absurd tk (by decide))
          refine Own.iloadN 40 X1 hx (hb hby d4_39) rfl rfl ?_
          refine Own.newArr 42 2 X1 hx hZ (w 5 rfl) e1 (by decide) (by decide) (by decide) (hb hby d4_40) rfl (by decide) (by decide) ?_
          intro T52 h52 r k52 z52 X52 e52 E52 A52
          have ne_a_r : a ≠ r := Nat.ne_of_lt (Nat.lt_of_lt_of_le F3.lt (Nat.le_of_eq z52.symm))
          have ne_b_r : b ≠ r := Nat.ne_of_lt (Nat.lt_of_lt_of_le V1.lt (Nat.le_of_eq z52.symm))
          have g_r : n0 ≤ r := Nat.le_trans Z0 (Nat.le_of_eq z52.symm)
          have sz_r : h0.size ≤ r := Nat.le_trans (Keep.refl h0 []).1 (Nat.le_of_eq z52.symm)
          have K52 := (Keep.refl h0 []).ext E52
          have Ff_54 := F3.ext E52
          have Vf_55 := V1.ext E52
          have zl52 := Nat.le_trans Z0 E52.1
          have V52 : Arv Z h52 r k52 .int (2 : Int32) [(.int (0 : Int32)), (.int (0 : Int32))] (.int (0 : Int32)) := A52
          refine Own.astoreN 43 #[.val (.ref a), .val (.int (2 : Int32)), .val (.ref r), .val (.int (4 : Int32)), .val (.int (4 : Int32)), .val (.int v3), .unset, .unset] X52 hx (hb hby d4_42) rfl rfl rfl ?_
          refine Own.iconst 44 X52 hx ((0 : Int32)) (hb hby d4_43) rfl rfl ?_
          refine Own.istoreNV 45 #[.val (.ref a), .val (.int (2 : Int32)), .val (.ref r), .val (.int (0 : Int32)), .val (.int (4 : Int32)), .val (.int v3), .unset, .unset] X52 hx (hb hby d4_44) rfl rfl ?_
          refine Own.aloadN 46 X52 hx (hb hby d4_45) rfl rfl rfl ?_
          refine Own.getFld 49 X52 hx hZ hown (host := "") (Or.inl (w 29 rfl)) Via.refl e52 Ff_54 (hb hby d4_46) rfl ?_
          intro T56 X56 e56
          refine Own.astore 51 #[.val (.ref a), .val (.int (2 : Int32)), .val (.ref r), .val (.int (0 : Int32)), .val (.ref b), .val (.int v3), .unset, .unset] X56 hx (hb hby d4_49) rfl rfl rfl ?_
          refine Own.aload 53 X56 hx (hb hby d4_51) rfl rfl rfl ?_
          refine Own.arrLen 54 X56 hx hZ e56 Vf_55 (hb hby d4_53) rfl ?_
          refine Own.istoreV 56 #[.val (.ref a), .val (.int (2 : Int32)), .val (.ref r), .val (.int (0 : Int32)), .val (.ref b), .val (.int (4 : Int32)), .unset, .unset] X56 hx (hb hby d4_54) rfl rfl ?_
          refine Own.iconst 57 X56 hx ((0 : Int32)) (hb hby d4_56) rfl rfl ?_
          refine Own.istoreV 59 #[.val (.ref a), .val (.int (2 : Int32)), .val (.ref r), .val (.int (0 : Int32)), .val (.ref b), .val (.int (4 : Int32)), .val (.int (0 : Int32)), .unset] X56 hx (hb hby d4_57) rfl rfl ?_
          refine Own.iload 61 X56 hx (hb hby d4_59) rfl rfl ?_
          refine Own.iload 63 X56 hx (hb hby d4_61) rfl rfl ?_
          refine Own.icmp_ge 92 66 X56 hx (hb hby d4_63) (by decide) rfl (fun tk => absurd tk (by decide)) (fun tk => ?_)
          refine Own.aload 68 X56 hx (hb hby d4_66) rfl rfl rfl ?_
          refine Own.iload 70 X56 hx (hb hby d4_68) rfl rfl ?_
          refine Own.iaload 71 X56 hx hZ e56 (v0) Vf_55 (by decide) rfl (hb hby d4_70) rfl ?_
          refine Own.istoreV 73 #[.val (.ref a), .val (.int (2 : Int32)), .val (.ref r), .val (.int (0 : Int32)), .val (.ref b), .val (.int (4 : Int32)), .val (.int (0 : Int32)), .val (.int v0)] X56 hx (hb hby d4_71) rfl rfl ?_
          refine Own.iload 75 X56 hx (hb hby d4_73) rfl rfl ?_
          refine Own.if_lt 86 78 X56 hx (hb hby d4_75) (by decide) rfl (fun tk => ?_) (fun tk => absurd q0 tk)
          refine Own.iinc 89 (fun c_57 => #[.val (.ref a), .val (.int (2 : Int32)), .val (.ref r), .val (.int (0 : Int32)), .val (.ref b), .val (.int (4 : Int32)), .val (.int c_57), .val (.int v0)]) X56 hx ((1 : Int32)) (hb hby d4_86) rfl rfl rfl (fun _ => rfl) fun c_57 hc_57 => ?_
          obtain rfl : c_57 = (1 : Int32) := hc_57.trans (by decide)
          refine Own.goto 59 X56 hx (hb hby d4_89) (by decide) ?_
          refine Own.iload 61 X56 hx (hb hby d4_59) rfl rfl ?_
          refine Own.iload 63 X56 hx (hb hby d4_61) rfl rfl ?_
          refine Own.icmp_ge 92 66 X56 hx (hb hby d4_63) (by decide) rfl (fun tk => absurd tk (by decide)) (fun tk => ?_)
          refine Own.aload 68 X56 hx (hb hby d4_66) rfl rfl rfl ?_
          refine Own.iload 70 X56 hx (hb hby d4_68) rfl rfl ?_
          refine Own.iaload 71 X56 hx hZ e56 (v1) Vf_55 (by decide) rfl (hb hby d4_70) rfl ?_
          refine Own.istoreV 73 #[.val (.ref a), .val (.int (2 : Int32)), .val (.ref r), .val (.int (0 : Int32)), .val (.ref b), .val (.int (4 : Int32)), .val (.int (1 : Int32)), .val (.int v1)] X56 hx (hb hby d4_71) rfl rfl ?_
          refine Own.iload 75 X56 hx (hb hby d4_73) rfl rfl ?_
          refine Own.if_lt 86 78 X56 hx (hb hby d4_75) (by decide) rfl (fun tk => ?_) (fun tk => absurd q1 tk)
          refine Own.iinc 89 (fun c_58 => #[.val (.ref a), .val (.int (2 : Int32)), .val (.ref r), .val (.int (0 : Int32)), .val (.ref b), .val (.int (4 : Int32)), .val (.int c_58), .val (.int v1)]) X56 hx ((1 : Int32)) (hb hby d4_86) rfl rfl rfl (fun _ => rfl) fun c_58 hc_58 => ?_
          obtain rfl : c_58 = (2 : Int32) := hc_58.trans (by decide)
          refine Own.goto 59 X56 hx (hb hby d4_89) (by decide) ?_
          refine Own.iload 61 X56 hx (hb hby d4_59) rfl rfl ?_
          refine Own.iload 63 X56 hx (hb hby d4_61) rfl rfl ?_
          refine Own.icmp_ge 92 66 X56 hx (hb hby d4_63) (by decide) rfl (fun tk => absurd tk (by decide)) (fun tk => ?_)
          refine Own.aload 68 X56 hx (hb hby d4_66) rfl rfl rfl ?_
          refine Own.iload 70 X56 hx (hb hby d4_68) rfl rfl ?_
          refine Own.iaload 71 X56 hx hZ e56 (v2) Vf_55 (by decide) rfl (hb hby d4_70) rfl ?_
          refine Own.istoreV 73 #[.val (.ref a), .val (.int (2 : Int32)), .val (.ref r), .val (.int (0 : Int32)), .val (.ref b), .val (.int (4 : Int32)), .val (.int (2 : Int32)), .val (.int v2)] X56 hx (hb hby d4_71) rfl rfl ?_
          refine Own.iload 75 X56 hx (hb hby d4_73) rfl rfl ?_
          refine Own.if_lt 86 78 X56 hx (hb hby d4_75) (by decide) rfl (fun tk => absurd tk q2) (fun tk => ?_)
          refine Own.aloadN 79 X56 hx (hb hby d4_78) rfl rfl rfl ?_
          refine Own.iloadN 80 X56 hx (hb hby d4_79) rfl rfl ?_
          refine Own.iinc 83 (fun c_59 => #[.val (.ref a), .val (.int (2 : Int32)), .val (.ref r), .val (.int c_59), .val (.ref b), .val (.int (4 : Int32)), .val (.int (2 : Int32)), .val (.int v2)]) X56 hx ((1 : Int32)) (hb hby d4_80) rfl rfl rfl (fun _ => rfl) fun c_59 hc_59 => ?_
          obtain rfl : c_59 = (1 : Int32) := hc_59.trans (by decide)
          refine Own.iload 85 X56 hx (hb hby d4_83) rfl rfl ?_
          refine Own.iastore 86 X56 hx hZ e56 V52 (by decide) (Nat.le_of_ble_eq_true rfl) (hb hby d4_85) rfl ?_
          intro T60 h60 X60 e60 W60 A60
          have N60 := Fr.snoc X60 N0 g_r
          have Ff_62 := Ff_54.other W60 (Or.inl ne_a_r)
          have Vf_63 := Vf_55.other W60 ne_b_r
          have zl60 := Nat.le_trans zl52 (Nat.le_of_eq W60.size.symm)
          have K60 := K52.wr W60 (Or.inr sz_r)
          have V60 : Arv Z h60 r k52 .int (2 : Int32) [(.int v2), (.int (0 : Int32))] (.int (0 : Int32)) := A60
          refine Own.iinc 89 (fun c_65 => #[.val (.ref a), .val (.int (2 : Int32)), .val (.ref r), .val (.int (1 : Int32)), .val (.ref b), .val (.int (4 : Int32)), .val (.int c_65), .val (.int v2)]) X60 hx ((1 : Int32)) (hb hby d4_86) rfl rfl rfl (fun _ => rfl) fun c_65 hc_65 => ?_
          obtain rfl : c_65 = (3 : Int32) := hc_65.trans (by decide)
          refine Own.goto 59 X60 hx (hb hby d4_89) (by decide) ?_
          refine Own.iload 61 X60 hx (hb hby d4_59) rfl rfl ?_
          refine Own.iload 63 X60 hx (hb hby d4_61) rfl rfl ?_
          refine Own.icmp_ge 92 66 X60 hx (hb hby d4_63) (by decide) rfl (fun tk => absurd tk (by decide)) (fun tk => ?_)
          refine Own.aload 68 X60 hx (hb hby d4_66) rfl rfl rfl ?_
          refine Own.iload 70 X60 hx (hb hby d4_68) rfl rfl ?_
          refine Own.iaload 71 X60 hx hZ e60 (v3) Vf_63 (by decide) rfl (hb hby d4_70) rfl ?_
          refine Own.istoreV 73 #[.val (.ref a), .val (.int (2 : Int32)), .val (.ref r), .val (.int (1 : Int32)), .val (.ref b), .val (.int (4 : Int32)), .val (.int (3 : Int32)), .val (.int v3)] X60 hx (hb hby d4_71) rfl rfl ?_
          refine Own.iload 75 X60 hx (hb hby d4_73) rfl rfl ?_
          refine Own.if_lt 86 78 X60 hx (hb hby d4_75) (by decide) rfl (fun tk => absurd tk q3) (fun tk => ?_)
          refine Own.aloadN 79 X60 hx (hb hby d4_78) rfl rfl rfl ?_
          refine Own.iloadN 80 X60 hx (hb hby d4_79) rfl rfl ?_
          refine Own.iinc 83 (fun c_66 => #[.val (.ref a), .val (.int (2 : Int32)), .val (.ref r), .val (.int c_66), .val (.ref b), .val (.int (4 : Int32)), .val (.int (3 : Int32)), .val (.int v3)]) X60 hx ((1 : Int32)) (hb hby d4_80) rfl rfl rfl (fun _ => rfl) fun c_66 hc_66 => ?_
          obtain rfl : c_66 = (2 : Int32) := hc_66.trans (by decide)
          refine Own.iload 85 X60 hx (hb hby d4_83) rfl rfl ?_
          refine Own.iastore 86 X60 hx hZ e60 V60 (by decide) (Nat.le_of_ble_eq_true rfl) (hb hby d4_85) rfl ?_
          intro T67 h67 X67 e67 W67 A67
          have N67 := Fr.snoc X67 N60 g_r
          have Ff_69 := Ff_62.other W67 (Or.inl ne_a_r)
          have Vf_70 := Vf_63.other W67 ne_b_r
          have zl67 := Nat.le_trans zl60 (Nat.le_of_eq W67.size.symm)
          have K67 := K60.wr W67 (Or.inr sz_r)
          have V67 : Arv Z h67 r k52 .int (2 : Int32) [(.int v2), (.int v3)] (.int (0 : Int32)) := A67
          refine Own.iinc 89 (fun c_72 => #[.val (.ref a), .val (.int (2 : Int32)), .val (.ref r), .val (.int (2 : Int32)), .val (.ref b), .val (.int (4 : Int32)), .val (.int c_72), .val (.int v3)]) X67 hx ((1 : Int32)) (hb hby d4_86) rfl rfl rfl (fun _ => rfl) fun c_72 hc_72 => ?_
          obtain rfl : c_72 = (4 : Int32) := hc_72.trans (by decide)
          refine Own.goto 59 X67 hx (hb hby d4_89) (by decide) ?_
          refine Own.iload 61 X67 hx (hb hby d4_59) rfl rfl ?_
          refine Own.iload 63 X67 hx (hb hby d4_61) rfl rfl ?_
          refine Own.icmp_ge 92 66 X67 hx (hb hby d4_63) (by decide) rfl (fun tk => ?_) (fun tk => absurd tk (by decide))
          refine Own.aloadN 93 X67 hx (hb hby d4_92) rfl rfl rfl ?_
          refine Own.retRef X67 hx hlk rfl hret rfl (hb hby d4_93) (by decide) (by decide) ?_
          rw [e67]
          exact ⟨r, k52, [v2, v3], rfl, N67, K67, sz_r, g_r, by rw [own_f, List.filter_cons_of_neg (p := fun x => decide (¬ x < 0)) (by rw [decide_eq_true_iff]; exact fun u => u q0), List.filter_cons_of_neg (p := fun x => decide (¬ x < 0)) (by rw [decide_eq_true_iff]; exact fun u => u q1), List.filter_cons_of_pos (p := fun x => decide (¬ x < 0)) (decide_eq_true q2), List.filter_cons_of_pos (p := fun x => decide (¬ x < 0)) (decide_eq_true q3), List.filter_nil], V67⟩
    ·
      refine Own.iinc 33 (fun c_73 => #[.val (.ref a), .val (.int c_73), .val (.ref b), .val (.int (4 : Int32)), .val (.int (1 : Int32)), .val (.int v1), .unset, .unset]) X1 hx ((1 : Int32)) (hb hby d4_30) rfl rfl rfl (fun _ => rfl) fun c_73 hc_73 => ?_
      obtain rfl : c_73 = (1 : Int32) := hc_73.trans (by decide)
      refine Own.iinc 36 (fun c_74 => #[.val (.ref a), .val (.int (1 : Int32)), .val (.ref b), .val (.int (4 : Int32)), .val (.int c_74), .val (.int v1), .unset, .unset]) X1 hx ((1 : Int32)) (hb hby d4_33) rfl rfl rfl (fun _ => rfl) fun c_74 hc_74 => ?_
      obtain rfl : c_74 = (2 : Int32) := hc_74.trans (by decide)
      refine Own.goto 13 X1 hx (hb hby d4_36) (by decide) ?_
      refine Own.iload 15 X1 hx (hb hby d4_13) rfl rfl ?_
      refine Own.iloadN 16 X1 hx (hb hby d4_15) rfl rfl ?_
      refine Own.icmp_ge 39 19 X1 hx (hb hby d4_16) (by decide) rfl (fun tk => absurd tk (by decide)) (fun tk => ?_)
      refine Own.aloadN 20 X1 hx (hb hby d4_19) rfl rfl rfl ?_
      refine Own.iload 22 X1 hx (hb hby d4_20) rfl rfl ?_
      refine Own.iaload 23 X1 hx hZ e1 (v2) V1 (by decide) rfl (hb hby d4_22) rfl ?_
      refine Own.istoreV 25 #[.val (.ref a), .val (.int (1 : Int32)), .val (.ref b), .val (.int (4 : Int32)), .val (.int (2 : Int32)), .val (.int v2), .unset, .unset] X1 hx (hb hby d4_23) rfl rfl ?_
      refine Own.iload 27 X1 hx (hb hby d4_25) rfl rfl ?_
      refine Own.if_lt 33 30 X1 hx (hb hby d4_27) (by decide) rfl (fun q2 => ?_) (fun q2 => ?_)
      ·
        refine Own.iinc 36 (fun c_75 => #[.val (.ref a), .val (.int (1 : Int32)), .val (.ref b), .val (.int (4 : Int32)), .val (.int c_75), .val (.int v2), .unset, .unset]) X1 hx ((1 : Int32)) (hb hby d4_33) rfl rfl rfl (fun _ => rfl) fun c_75 hc_75 => ?_
        obtain rfl : c_75 = (3 : Int32) := hc_75.trans (by decide)
        refine Own.goto 13 X1 hx (hb hby d4_36) (by decide) ?_
        refine Own.iload 15 X1 hx (hb hby d4_13) rfl rfl ?_
        refine Own.iloadN 16 X1 hx (hb hby d4_15) rfl rfl ?_
        refine Own.icmp_ge 39 19 X1 hx (hb hby d4_16) (by decide) rfl (fun tk => absurd tk (by decide)) (fun tk => ?_)
        refine Own.aloadN 20 X1 hx (hb hby d4_19) rfl rfl rfl ?_
        refine Own.iload 22 X1 hx (hb hby d4_20) rfl rfl ?_
        refine Own.iaload 23 X1 hx hZ e1 (v3) V1 (by decide) rfl (hb hby d4_22) rfl ?_
        refine Own.istoreV 25 #[.val (.ref a), .val (.int (1 : Int32)), .val (.ref b), .val (.int (4 : Int32)), .val (.int (3 : Int32)), .val (.int v3), .unset, .unset] X1 hx (hb hby d4_23) rfl rfl ?_
        refine Own.iload 27 X1 hx (hb hby d4_25) rfl rfl ?_
        refine Own.if_lt 33 30 X1 hx (hb hby d4_27) (by decide) rfl (fun q3 => ?_) (fun q3 => ?_)
        ·
          refine Own.iinc 36 (fun c_76 => #[.val (.ref a), .val (.int (1 : Int32)), .val (.ref b), .val (.int (4 : Int32)), .val (.int c_76), .val (.int v3), .unset, .unset]) X1 hx ((1 : Int32)) (hb hby d4_33) rfl rfl rfl (fun _ => rfl) fun c_76 hc_76 => ?_
          obtain rfl : c_76 = (4 : Int32) := hc_76.trans (by decide)
          refine Own.goto 13 X1 hx (hb hby d4_36) (by decide) ?_
          refine Own.iload 15 X1 hx (hb hby d4_13) rfl rfl ?_
          refine Own.iloadN 16 X1 hx (hb hby d4_15) rfl rfl ?_
          refine Own.icmp_ge 39 19 X1 hx (hb hby d4_16) (by decide) rfl (fun tk => ?_) (fun tk => absurd tk (by decide))
          refine Own.iloadN 40 X1 hx (hb hby d4_39) rfl rfl ?_
          refine Own.newArr 42 1 X1 hx hZ (w 5 rfl) e1 (by decide) (by decide) (by decide) (hb hby d4_40) rfl (by decide) (by decide) ?_
          intro T77 h77 r k77 z77 X77 e77 E77 A77
          have ne_a_r : a ≠ r := Nat.ne_of_lt (Nat.lt_of_lt_of_le F3.lt (Nat.le_of_eq z77.symm))
          have ne_b_r : b ≠ r := Nat.ne_of_lt (Nat.lt_of_lt_of_le V1.lt (Nat.le_of_eq z77.symm))
          have g_r : n0 ≤ r := Nat.le_trans Z0 (Nat.le_of_eq z77.symm)
          have sz_r : h0.size ≤ r := Nat.le_trans (Keep.refl h0 []).1 (Nat.le_of_eq z77.symm)
          have K77 := (Keep.refl h0 []).ext E77
          have Ff_79 := F3.ext E77
          have Vf_80 := V1.ext E77
          have zl77 := Nat.le_trans Z0 E77.1
          have V77 : Arv Z h77 r k77 .int (1 : Int32) [(.int (0 : Int32))] (.int (0 : Int32)) := A77
          refine Own.astoreN 43 #[.val (.ref a), .val (.int (1 : Int32)), .val (.ref r), .val (.int (4 : Int32)), .val (.int (4 : Int32)), .val (.int v3), .unset, .unset] X77 hx (hb hby d4_42) rfl rfl rfl ?_
          refine Own.iconst 44 X77 hx ((0 : Int32)) (hb hby d4_43) rfl rfl ?_
          refine Own.istoreNV 45 #[.val (.ref a), .val (.int (1 : Int32)), .val (.ref r), .val (.int (0 : Int32)), .val (.int (4 : Int32)), .val (.int v3), .unset, .unset] X77 hx (hb hby d4_44) rfl rfl ?_
          refine Own.aloadN 46 X77 hx (hb hby d4_45) rfl rfl rfl ?_
          refine Own.getFld 49 X77 hx hZ hown (host := "") (Or.inl (w 29 rfl)) Via.refl e77 Ff_79 (hb hby d4_46) rfl ?_
          intro T81 X81 e81
          refine Own.astore 51 #[.val (.ref a), .val (.int (1 : Int32)), .val (.ref r), .val (.int (0 : Int32)), .val (.ref b), .val (.int v3), .unset, .unset] X81 hx (hb hby d4_49) rfl rfl rfl ?_
          refine Own.aload 53 X81 hx (hb hby d4_51) rfl rfl rfl ?_
          refine Own.arrLen 54 X81 hx hZ e81 Vf_80 (hb hby d4_53) rfl ?_
          refine Own.istoreV 56 #[.val (.ref a), .val (.int (1 : Int32)), .val (.ref r), .val (.int (0 : Int32)), .val (.ref b), .val (.int (4 : Int32)), .unset, .unset] X81 hx (hb hby d4_54) rfl rfl ?_
          refine Own.iconst 57 X81 hx ((0 : Int32)) (hb hby d4_56) rfl rfl ?_
          refine Own.istoreV 59 #[.val (.ref a), .val (.int (1 : Int32)), .val (.ref r), .val (.int (0 : Int32)), .val (.ref b), .val (.int (4 : Int32)), .val (.int (0 : Int32)), .unset] X81 hx (hb hby d4_57) rfl rfl ?_
          refine Own.iload 61 X81 hx (hb hby d4_59) rfl rfl ?_
          refine Own.iload 63 X81 hx (hb hby d4_61) rfl rfl ?_
          refine Own.icmp_ge 92 66 X81 hx (hb hby d4_63) (by decide) rfl (fun tk => absurd tk (by decide)) (fun tk => ?_)
          refine Own.aload 68 X81 hx (hb hby d4_66) rfl rfl rfl ?_
          refine Own.iload 70 X81 hx (hb hby d4_68) rfl rfl ?_
          refine Own.iaload 71 X81 hx hZ e81 (v0) Vf_80 (by decide) rfl (hb hby d4_70) rfl ?_
          refine Own.istoreV 73 #[.val (.ref a), .val (.int (1 : Int32)), .val (.ref r), .val (.int (0 : Int32)), .val (.ref b), .val (.int (4 : Int32)), .val (.int (0 : Int32)), .val (.int v0)] X81 hx (hb hby d4_71) rfl rfl ?_
          refine Own.iload 75 X81 hx (hb hby d4_73) rfl rfl ?_
          refine Own.if_lt 86 78 X81 hx (hb hby d4_75) (by decide) rfl (fun tk => ?_) (fun tk => absurd q0 tk)
          refine Own.iinc 89 (fun c_82 => #[.val (.ref a), .val (.int (1 : Int32)), .val (.ref r), .val (.int (0 : Int32)), .val (.ref b), .val (.int (4 : Int32)), .val (.int c_82), .val (.int v0)]) X81 hx ((1 : Int32)) (hb hby d4_86) rfl rfl rfl (fun _ => rfl) fun c_82 hc_82 => ?_
          obtain rfl : c_82 = (1 : Int32) := hc_82.trans (by decide)
          refine Own.goto 59 X81 hx (hb hby d4_89) (by decide) ?_
          refine Own.iload 61 X81 hx (hb hby d4_59) rfl rfl ?_
          refine Own.iload 63 X81 hx (hb hby d4_61) rfl rfl ?_
          refine Own.icmp_ge 92 66 X81 hx (hb hby d4_63) (by decide) rfl (fun tk => absurd tk (by decide)) (fun tk => ?_)
          refine Own.aload 68 X81 hx (hb hby d4_66) rfl rfl rfl ?_
          refine Own.iload 70 X81 hx (hb hby d4_68) rfl rfl ?_
          refine Own.iaload 71 X81 hx hZ e81 (v1) Vf_80 (by decide) rfl (hb hby d4_70) rfl ?_
          refine Own.istoreV 73 #[.val (.ref a), .val (.int (1 : Int32)), .val (.ref r), .val (.int (0 : Int32)), .val (.ref b), .val (.int (4 : Int32)), .val (.int (1 : Int32)), .val (.int v1)] X81 hx (hb hby d4_71) rfl rfl ?_
          refine Own.iload 75 X81 hx (hb hby d4_73) rfl rfl ?_
          refine Own.if_lt 86 78 X81 hx (hb hby d4_75) (by decide) rfl (fun tk => absurd tk q1) (fun tk => ?_)
          refine Own.aloadN 79 X81 hx (hb hby d4_78) rfl rfl rfl ?_
          refine Own.iloadN 80 X81 hx (hb hby d4_79) rfl rfl ?_
          refine Own.iinc 83 (fun c_83 => #[.val (.ref a), .val (.int (1 : Int32)), .val (.ref r), .val (.int c_83), .val (.ref b), .val (.int (4 : Int32)), .val (.int (1 : Int32)), .val (.int v1)]) X81 hx ((1 : Int32)) (hb hby d4_80) rfl rfl rfl (fun _ => rfl) fun c_83 hc_83 => ?_
          obtain rfl : c_83 = (1 : Int32) := hc_83.trans (by decide)
          refine Own.iload 85 X81 hx (hb hby d4_83) rfl rfl ?_
          refine Own.iastore 86 X81 hx hZ e81 V77 (by decide) (Nat.le_of_ble_eq_true rfl) (hb hby d4_85) rfl ?_
          intro T84 h84 X84 e84 W84 A84
          have N84 := Fr.snoc X84 N0 g_r
          have Ff_86 := Ff_79.other W84 (Or.inl ne_a_r)
          have Vf_87 := Vf_80.other W84 ne_b_r
          have zl84 := Nat.le_trans zl77 (Nat.le_of_eq W84.size.symm)
          have K84 := K77.wr W84 (Or.inr sz_r)
          have V84 : Arv Z h84 r k77 .int (1 : Int32) [(.int v1)] (.int (0 : Int32)) := A84
          refine Own.iinc 89 (fun c_89 => #[.val (.ref a), .val (.int (1 : Int32)), .val (.ref r), .val (.int (1 : Int32)), .val (.ref b), .val (.int (4 : Int32)), .val (.int c_89), .val (.int v1)]) X84 hx ((1 : Int32)) (hb hby d4_86) rfl rfl rfl (fun _ => rfl) fun c_89 hc_89 => ?_
          obtain rfl : c_89 = (2 : Int32) := hc_89.trans (by decide)
          refine Own.goto 59 X84 hx (hb hby d4_89) (by decide) ?_
          refine Own.iload 61 X84 hx (hb hby d4_59) rfl rfl ?_
          refine Own.iload 63 X84 hx (hb hby d4_61) rfl rfl ?_
          refine Own.icmp_ge 92 66 X84 hx (hb hby d4_63) (by decide) rfl (fun tk => absurd tk (by decide)) (fun tk => ?_)
          refine Own.aload 68 X84 hx (hb hby d4_66) rfl rfl rfl ?_
          refine Own.iload 70 X84 hx (hb hby d4_68) rfl rfl ?_
          refine Own.iaload 71 X84 hx hZ e84 (v2) Vf_87 (by decide) rfl (hb hby d4_70) rfl ?_
          refine Own.istoreV 73 #[.val (.ref a), .val (.int (1 : Int32)), .val (.ref r), .val (.int (1 : Int32)), .val (.ref b), .val (.int (4 : Int32)), .val (.int (2 : Int32)), .val (.int v2)] X84 hx (hb hby d4_71) rfl rfl ?_
          refine Own.iload 75 X84 hx (hb hby d4_73) rfl rfl ?_
          refine Own.if_lt 86 78 X84 hx (hb hby d4_75) (by decide) rfl (fun tk => ?_) (fun tk => absurd q2 tk)
          refine Own.iinc 89 (fun c_90 => #[.val (.ref a), .val (.int (1 : Int32)), .val (.ref r), .val (.int (1 : Int32)), .val (.ref b), .val (.int (4 : Int32)), .val (.int c_90), .val (.int v2)]) X84 hx ((1 : Int32)) (hb hby d4_86) rfl rfl rfl (fun _ => rfl) fun c_90 hc_90 => ?_
          obtain rfl : c_90 = (3 : Int32) := hc_90.trans (by decide)
          refine Own.goto 59 X84 hx (hb hby d4_89) (by decide) ?_
          refine Own.iload 61 X84 hx (hb hby d4_59) rfl rfl ?_
          refine Own.iload 63 X84 hx (hb hby d4_61) rfl rfl ?_
          refine Own.icmp_ge 92 66 X84 hx (hb hby d4_63) (by decide) rfl (fun tk => absurd tk (by decide)) (fun tk => ?_)
          refine Own.aload 68 X84 hx (hb hby d4_66) rfl rfl rfl ?_
          refine Own.iload 70 X84 hx (hb hby d4_68) rfl rfl ?_
          refine Own.iaload 71 X84 hx hZ e84 (v3) Vf_87 (by decide) rfl (hb hby d4_70) rfl ?_
          refine Own.istoreV 73 #[.val (.ref a), .val (.int (1 : Int32)), .val (.ref r), .val (.int (1 : Int32)), .val (.ref b), .val (.int (4 : Int32)), .val (.int (3 : Int32)), .val (.int v3)] X84 hx (hb hby d4_71) rfl rfl ?_
          refine Own.iload 75 X84 hx (hb hby d4_73) rfl rfl ?_
          refine Own.if_lt 86 78 X84 hx (hb hby d4_75) (by decide) rfl (fun tk => ?_) (fun tk => absurd q3 tk)
          refine Own.iinc 89 (fun c_91 => #[.val (.ref a), .val (.int (1 : Int32)), .val (.ref r), .val (.int (1 : Int32)), .val (.ref b), .val (.int (4 : Int32)), .val (.int c_91), .val (.int v3)]) X84 hx ((1 : Int32)) (hb hby d4_86) rfl rfl rfl (fun _ => rfl) fun c_91 hc_91 => ?_
          obtain rfl : c_91 = (4 : Int32) := hc_91.trans (by decide)
          refine Own.goto 59 X84 hx (hb hby d4_89) (by decide) ?_
          refine Own.iload 61 X84 hx (hb hby d4_59) rfl rfl ?_
          refine Own.iload 63 X84 hx (hb hby d4_61) rfl rfl ?_
          refine Own.icmp_ge 92 66 X84 hx (hb hby d4_63) (by decide) rfl (fun tk => ?_) (fun tk => absurd tk (by decide))
          refine Own.aloadN 93 X84 hx (hb hby d4_92) rfl rfl rfl ?_
          refine Own.retRef X84 hx hlk rfl hret rfl (hb hby d4_93) (by decide) (by decide) ?_
          rw [e84]
          exact ⟨r, k77, [v1], rfl, N84, K84, sz_r, g_r, by rw [own_f, List.filter_cons_of_neg (p := fun x => decide (¬ x < 0)) (by rw [decide_eq_true_iff]; exact fun u => u q0), List.filter_cons_of_pos (p := fun x => decide (¬ x < 0)) (decide_eq_true q1), List.filter_cons_of_neg (p := fun x => decide (¬ x < 0)) (by rw [decide_eq_true_iff]; exact fun u => u q2), List.filter_cons_of_neg (p := fun x => decide (¬ x < 0)) (by rw [decide_eq_true_iff]; exact fun u => u q3), List.filter_nil], V84⟩
        ·
          refine Own.iinc 33 (fun c_92 => #[.val (.ref a), .val (.int c_92), .val (.ref b), .val (.int (4 : Int32)), .val (.int (3 : Int32)), .val (.int v3), .unset, .unset]) X1 hx ((1 : Int32)) (hb hby d4_30) rfl rfl rfl (fun _ => rfl) fun c_92 hc_92 => ?_
          obtain rfl : c_92 = (2 : Int32) := hc_92.trans (by decide)
          refine Own.iinc 36 (fun c_93 => #[.val (.ref a), .val (.int (2 : Int32)), .val (.ref b), .val (.int (4 : Int32)), .val (.int c_93), .val (.int v3), .unset, .unset]) X1 hx ((1 : Int32)) (hb hby d4_33) rfl rfl rfl (fun _ => rfl) fun c_93 hc_93 => ?_
          obtain rfl : c_93 = (4 : Int32) := hc_93.trans (by decide)
          refine Own.goto 13 X1 hx (hb hby d4_36) (by decide) ?_
          refine Own.iload 15 X1 hx (hb hby d4_13) rfl rfl ?_
          refine Own.iloadN 16 X1 hx (hb hby d4_15) rfl rfl ?_
          refine Own.icmp_ge 39 19 X1 hx (hb hby d4_16) (by decide) rfl (fun tk => ?_) (fun tk => absurd tk (by decide))
          refine Own.iloadN 40 X1 hx (hb hby d4_39) rfl rfl ?_
          refine Own.newArr 42 2 X1 hx hZ (w 5 rfl) e1 (by decide) (by decide) (by decide) (hb hby d4_40) rfl (by decide) (by decide) ?_
          intro T94 h94 r k94 z94 X94 e94 E94 A94
          have ne_a_r : a ≠ r := Nat.ne_of_lt (Nat.lt_of_lt_of_le F3.lt (Nat.le_of_eq z94.symm))
          have ne_b_r : b ≠ r := Nat.ne_of_lt (Nat.lt_of_lt_of_le V1.lt (Nat.le_of_eq z94.symm))
          have g_r : n0 ≤ r := Nat.le_trans Z0 (Nat.le_of_eq z94.symm)
          have sz_r : h0.size ≤ r := Nat.le_trans (Keep.refl h0 []).1 (Nat.le_of_eq z94.symm)
          have K94 := (Keep.refl h0 []).ext E94
          have Ff_96 := F3.ext E94
          have Vf_97 := V1.ext E94
          have zl94 := Nat.le_trans Z0 E94.1
          have V94 : Arv Z h94 r k94 .int (2 : Int32) [(.int (0 : Int32)), (.int (0 : Int32))] (.int (0 : Int32)) := A94
          refine Own.astoreN 43 #[.val (.ref a), .val (.int (2 : Int32)), .val (.ref r), .val (.int (4 : Int32)), .val (.int (4 : Int32)), .val (.int v3), .unset, .unset] X94 hx (hb hby d4_42) rfl rfl rfl ?_
          refine Own.iconst 44 X94 hx ((0 : Int32)) (hb hby d4_43) rfl rfl ?_
          refine Own.istoreNV 45 #[.val (.ref a), .val (.int (2 : Int32)), .val (.ref r), .val (.int (0 : Int32)), .val (.int (4 : Int32)), .val (.int v3), .unset, .unset] X94 hx (hb hby d4_44) rfl rfl ?_
          refine Own.aloadN 46 X94 hx (hb hby d4_45) rfl rfl rfl ?_
          refine Own.getFld 49 X94 hx hZ hown (host := "") (Or.inl (w 29 rfl)) Via.refl e94 Ff_96 (hb hby d4_46) rfl ?_
          intro T98 X98 e98
          refine Own.astore 51 #[.val (.ref a), .val (.int (2 : Int32)), .val (.ref r), .val (.int (0 : Int32)), .val (.ref b), .val (.int v3), .unset, .unset] X98 hx (hb hby d4_49) rfl rfl rfl ?_
          refine Own.aload 53 X98 hx (hb hby d4_51) rfl rfl rfl ?_
          refine Own.arrLen 54 X98 hx hZ e98 Vf_97 (hb hby d4_53) rfl ?_
          refine Own.istoreV 56 #[.val (.ref a), .val (.int (2 : Int32)), .val (.ref r), .val (.int (0 : Int32)), .val (.ref b), .val (.int (4 : Int32)), .unset, .unset] X98 hx (hb hby d4_54) rfl rfl ?_
          refine Own.iconst 57 X98 hx ((0 : Int32)) (hb hby d4_56) rfl rfl ?_
          refine Own.istoreV 59 #[.val (.ref a), .val (.int (2 : Int32)), .val (.ref r), .val (.int (0 : Int32)), .val (.ref b), .val (.int (4 : Int32)), .val (.int (0 : Int32)), .unset] X98 hx (hb hby d4_57) rfl rfl ?_
          refine Own.iload 61 X98 hx (hb hby d4_59) rfl rfl ?_
          refine Own.iload 63 X98 hx (hb hby d4_61) rfl rfl ?_
          refine Own.icmp_ge 92 66 X98 hx (hb hby d4_63) (by decide) rfl (fun tk => absurd tk (by decide)) (fun tk => ?_)
          refine Own.aload 68 X98 hx (hb hby d4_66) rfl rfl rfl ?_
          refine Own.iload 70 X98 hx (hb hby d4_68) rfl rfl ?_
          refine Own.iaload 71 X98 hx hZ e98 (v0) Vf_97 (by decide) rfl (hb hby d4_70) rfl ?_
          refine Own.istoreV 73 #[.val (.ref a), .val (.int (2 : Int32)), .val (.ref r), .val (.int (0 : Int32)), .val (.ref b), .val (.int (4 : Int32)), .val (.int (0 : Int32)), .val (.int v0)] X98 hx (hb hby d4_71) rfl rfl ?_
          refine Own.iload 75 X98 hx (hb hby d4_73) rfl rfl ?_
          refine Own.if_lt 86 78 X98 hx (hb hby d4_75) (by decide) rfl (fun tk => ?_) (fun tk => absurd q0 tk)
          refine Own.iinc 89 (fun c_99 => #[.val (.ref a), .val (.int (2 : Int32)), .val (.ref r), .val (.int (0 : Int32)), .val (.ref b), .val (.int (4 : Int32)), .val (.int c_99), .val (.int v0)]) X98 hx ((1 : Int32)) (hb hby d4_86) rfl rfl rfl (fun _ => rfl) fun c_99 hc_99 => ?_
          obtain rfl : c_99 = (1 : Int32) := hc_99.trans (by decide)
          refine Own.goto 59 X98 hx (hb hby d4_89) (by decide) ?_
          refine Own.iload 61 X98 hx (hb hby d4_59) rfl rfl ?_
          refine Own.iload 63 X98 hx (hb hby d4_61) rfl rfl ?_
          refine Own.icmp_ge 92 66 X98 hx (hb hby d4_63) (by decide) rfl (fun tk => absurd tk (by decide)) (fun tk => ?_)
          refine Own.aload 68 X98 hx (hb hby d4_66) rfl rfl rfl ?_
          refine Own.iload 70 X98 hx (hb hby d4_68) rfl rfl ?_
          refine Own.iaload 71 X98 hx hZ e98 (v1) Vf_97 (by decide) rfl (hb hby d4_70) rfl ?_
          refine Own.istoreV 73 #[.val (.ref a), .val (.int (2 : Int32)), .val (.ref r), .val (.int (0 : Int32)), .val (.ref b), .val (.int (4 : Int32)), .val (.int (1 : Int32)), .val (.int v1)] X98 hx (hb hby d4_71) rfl rfl ?_
          refine Own.iload 75 X98 hx (hb hby d4_73) rfl rfl ?_
          refine Own.if_lt 86 78 X98 hx (hb hby d4_75) (by decide) rfl (fun tk => absurd tk q1) (fun tk => ?_)
          refine Own.aloadN 79 X98 hx (hb hby d4_78) rfl rfl rfl ?_
          refine Own.iloadN 80 X98 hx (hb hby d4_79) rfl rfl ?_
          refine Own.iinc 83 (fun c_100 => #[.val (.ref a), .val (.int (2 : Int32)), .val (.ref r), .val (.int c_100), .val (.ref b), .val (.int (4 : Int32)), .val (.int (1 : Int32)), .val (.int v1)]) X98 hx ((1 : Int32)) (hb hby d4_80) rfl rfl rfl (fun _ => rfl) fun c_100 hc_100 => ?_
          obtain rfl : c_100 = (1 : Int32) := hc_100.trans (by decide)
          refine Own.iload 85 X98 hx (hb hby d4_83) rfl rfl ?_
          refine Own.iastore 86 X98 hx hZ e98 V94 (by decide) (Nat.le_of_ble_eq_true rfl) (hb hby d4_85) rfl ?_
          intro T101 h101 X101 e101 W101 A101
          have N101 := Fr.snoc X101 N0 g_r
          have Ff_103 := Ff_96.other W101 (Or.inl ne_a_r)
          have Vf_104 := Vf_97.other W101 ne_b_r
          have zl101 := Nat.le_trans zl94 (Nat.le_of_eq W101.size.symm)
          have K101 := K94.wr W101 (Or.inr sz_r)
          have V101 : Arv Z h101 r k94 .int (2 : Int32) [(.int v1), (.int (0 : Int32))] (.int (0 : Int32)) := A101
          refine Own.iinc 89 (fun c_106 => #[.val (.ref a), .val (.int (2 : Int32)), .val (.ref r), .val (.int (1 : Int32)), .val (.ref b), .val (.int (4 : Int32)), .val (.int c_106), .val (.int v1)]) X101 hx ((1 : Int32)) (hb hby d4_86) rfl rfl rfl (fun _ => rfl) fun c_106 hc_106 => ?_
          obtain rfl : c_106 = (2 : Int32) := hc_106.trans (by decide)
          refine Own.goto 59 X101 hx (hb hby d4_89) (by decide) ?_
          refine Own.iload 61 X101 hx (hb hby d4_59) rfl rfl ?_
          refine Own.iload 63 X101 hx (hb hby d4_61) rfl rfl ?_
          refine Own.icmp_ge 92 66 X101 hx (hb hby d4_63) (by decide) rfl (fun tk => absurd tk (by decide)) (fun tk => ?_)
          refine Own.aload 68 X101 hx (hb hby d4_66) rfl rfl rfl ?_
          refine Own.iload 70 X101 hx (hb hby d4_68) rfl rfl ?_
          refine Own.iaload 71 X101 hx hZ e101 (v2) Vf_104 (by decide) rfl (hb hby d4_70) rfl ?_
          refine Own.istoreV 73 #[.val (.ref a), .val (.int (2 : Int32)), .val (.ref r), .val (.int (1 : Int32)), .val (.ref b), .val (.int (4 : Int32)), .val (.int (2 : Int32)), .val (.int v2)] X101 hx (hb hby d4_71) rfl rfl ?_
          refine Own.iload 75 X101 hx (hb hby d4_73) rfl rfl ?_
          refine Own.if_lt 86 78 X101 hx (hb hby d4_75) (by decide) rfl (fun tk => ?_) (fun tk => absurd q2 tk)
          refine Own.iinc 89 (fun c_107 => #[.val (.ref a), .val (.int (2 : Int32)), .val (.ref r), .val (.int (1 : Int32)), .val (.ref b), .val (.int (4 : Int32)), .val (.int c_107), .val (.int v2)]) X101 hx ((1 : Int32)) (hb hby d4_86) rfl rfl rfl (fun _ => rfl) fun c_107 hc_107 => ?_
          obtain rfl : c_107 = (3 : Int32) := hc_107.trans (by decide)
          refine Own.goto 59 X101 hx (hb hby d4_89) (by decide) ?_
          refine Own.iload 61 X101 hx (hb hby d4_59) rfl rfl ?_
          refine Own.iload 63 X101 hx (hb hby d4_61) rfl rfl ?_
          refine Own.icmp_ge 92 66 X101 hx (hb hby d4_63) (by decide) rfl (fun tk => absurd tk (by decide)) (fun tk => ?_)
          refine Own.aload 68 X101 hx (hb hby d4_66) rfl rfl rfl ?_
          refine Own.iload 70 X101 hx (hb hby d4_68) rfl rfl ?_
          refine Own.iaload 71 X101 hx hZ e101 (v3) Vf_104 (by decide) rfl (hb hby d4_70) rfl ?_
          refine Own.istoreV 73 #[.val (.ref a), .val (.int (2 : Int32)), .val (.ref r), .val (.int (1 : Int32)), .val (.ref b), .val (.int (4 : Int32)), .val (.int (3 : Int32)), .val (.int v3)] X101 hx (hb hby d4_71) rfl rfl ?_
          refine Own.iload 75 X101 hx (hb hby d4_73) rfl rfl ?_
          refine Own.if_lt 86 78 X101 hx (hb hby d4_75) (by decide) rfl (fun tk => absurd tk q3) (fun tk => ?_)
          refine Own.aloadN 79 X101 hx (hb hby d4_78) rfl rfl rfl ?_
          refine Own.iloadN 80 X101 hx (hb hby d4_79) rfl rfl ?_
          refine Own.iinc 83 (fun c_108 => #[.val (.ref a), .val (.int (2 : Int32)), .val (.ref r), .val (.int c_108), .val (.ref b), .val (.int (4 : Int32)), .val (.int (3 : Int32)), .val (.int v3)]) X101 hx ((1 : Int32)) (hb hby d4_80) rfl rfl rfl (fun _ => rfl) fun c_108 hc_108 => ?_
          obtain rfl : c_108 = (2 : Int32) := hc_108.trans (by decide)
          refine Own.iload 85 X101 hx (hb hby d4_83) rfl rfl ?_
          refine Own.iastore 86 X101 hx hZ e101 V101 (by decide) (Nat.le_of_ble_eq_true rfl) (hb hby d4_85) rfl ?_
          intro T109 h109 X109 e109 W109 A109
          have N109 := Fr.snoc X109 N101 g_r
          have Ff_111 := Ff_103.other W109 (Or.inl ne_a_r)
          have Vf_112 := Vf_104.other W109 ne_b_r
          have zl109 := Nat.le_trans zl101 (Nat.le_of_eq W109.size.symm)
          have K109 := K101.wr W109 (Or.inr sz_r)
          have V109 : Arv Z h109 r k94 .int (2 : Int32) [(.int v1), (.int v3)] (.int (0 : Int32)) := A109
          refine Own.iinc 89 (fun c_114 => #[.val (.ref a), .val (.int (2 : Int32)), .val (.ref r), .val (.int (2 : Int32)), .val (.ref b), .val (.int (4 : Int32)), .val (.int c_114), .val (.int v3)]) X109 hx ((1 : Int32)) (hb hby d4_86) rfl rfl rfl (fun _ => rfl) fun c_114 hc_114 => ?_
          obtain rfl : c_114 = (4 : Int32) := hc_114.trans (by decide)
          refine Own.goto 59 X109 hx (hb hby d4_89) (by decide) ?_
          refine Own.iload 61 X109 hx (hb hby d4_59) rfl rfl ?_
          refine Own.iload 63 X109 hx (hb hby d4_61) rfl rfl ?_
          refine Own.icmp_ge 92 66 X109 hx (hb hby d4_63) (by decide) rfl (fun tk => ?_) (fun tk => absurd tk (by decide))
          refine Own.aloadN 93 X109 hx (hb hby d4_92) rfl rfl rfl ?_
          refine Own.retRef X109 hx hlk rfl hret rfl (hb hby d4_93) (by decide) (by decide) ?_
          rw [e109]
          exact ⟨r, k94, [v1, v3], rfl, N109, K109, sz_r, g_r, by rw [own_f, List.filter_cons_of_neg (p := fun x => decide (¬ x < 0)) (by rw [decide_eq_true_iff]; exact fun u => u q0), List.filter_cons_of_pos (p := fun x => decide (¬ x < 0)) (decide_eq_true q1), List.filter_cons_of_neg (p := fun x => decide (¬ x < 0)) (by rw [decide_eq_true_iff]; exact fun u => u q2), List.filter_cons_of_pos (p := fun x => decide (¬ x < 0)) (decide_eq_true q3), List.filter_nil], V109⟩
      ·
        refine Own.iinc 33 (fun c_115 => #[.val (.ref a), .val (.int c_115), .val (.ref b), .val (.int (4 : Int32)), .val (.int (2 : Int32)), .val (.int v2), .unset, .unset]) X1 hx ((1 : Int32)) (hb hby d4_30) rfl rfl rfl (fun _ => rfl) fun c_115 hc_115 => ?_
        obtain rfl : c_115 = (2 : Int32) := hc_115.trans (by decide)
        refine Own.iinc 36 (fun c_116 => #[.val (.ref a), .val (.int (2 : Int32)), .val (.ref b), .val (.int (4 : Int32)), .val (.int c_116), .val (.int v2), .unset, .unset]) X1 hx ((1 : Int32)) (hb hby d4_33) rfl rfl rfl (fun _ => rfl) fun c_116 hc_116 => ?_
        obtain rfl : c_116 = (3 : Int32) := hc_116.trans (by decide)
        refine Own.goto 13 X1 hx (hb hby d4_36) (by decide) ?_
        refine Own.iload 15 X1 hx (hb hby d4_13) rfl rfl ?_
        refine Own.iloadN 16 X1 hx (hb hby d4_15) rfl rfl ?_
        refine Own.icmp_ge 39 19 X1 hx (hb hby d4_16) (by decide) rfl (fun tk => absurd tk (by decide)) (fun tk => ?_)
        refine Own.aloadN 20 X1 hx (hb hby d4_19) rfl rfl rfl ?_
        refine Own.iload 22 X1 hx (hb hby d4_20) rfl rfl ?_
        refine Own.iaload 23 X1 hx hZ e1 (v3) V1 (by decide) rfl (hb hby d4_22) rfl ?_
        refine Own.istoreV 25 #[.val (.ref a), .val (.int (2 : Int32)), .val (.ref b), .val (.int (4 : Int32)), .val (.int (3 : Int32)), .val (.int v3), .unset, .unset] X1 hx (hb hby d4_23) rfl rfl ?_
        refine Own.iload 27 X1 hx (hb hby d4_25) rfl rfl ?_
        refine Own.if_lt 33 30 X1 hx (hb hby d4_27) (by decide) rfl (fun q3 => ?_) (fun q3 => ?_)
        ·
          refine Own.iinc 36 (fun c_117 => #[.val (.ref a), .val (.int (2 : Int32)), .val (.ref b), .val (.int (4 : Int32)), .val (.int c_117), .val (.int v3), .unset, .unset]) X1 hx ((1 : Int32)) (hb hby d4_33) rfl rfl rfl (fun _ => rfl) fun c_117 hc_117 => ?_
          obtain rfl : c_117 = (4 : Int32) := hc_117.trans (by decide)
          refine Own.goto 13 X1 hx (hb hby d4_36) (by decide) ?_
          refine Own.iload 15 X1 hx (hb hby d4_13) rfl rfl ?_
          refine Own.iloadN 16 X1 hx (hb hby d4_15) rfl rfl ?_
          refine Own.icmp_ge 39 19 X1 hx (hb hby d4_16) (by decide) rfl (fun tk => ?_) (fun tk => absurd tk (by decide))
          refine Own.iloadN 40 X1 hx (hb hby d4_39) rfl rfl ?_
          refine Own.newArr 42 2 X1 hx hZ (w 5 rfl) e1 (by decide) (by decide) (by decide) (hb hby d4_40) rfl (by decide) (by decide) ?_
          intro T118 h118 r k118 z118 X118 e118 E118 A118
          have ne_a_r : a ≠ r := Nat.ne_of_lt (Nat.lt_of_lt_of_le F3.lt (Nat.le_of_eq z118.symm))
          have ne_b_r : b ≠ r := Nat.ne_of_lt (Nat.lt_of_lt_of_le V1.lt (Nat.le_of_eq z118.symm))
          have g_r : n0 ≤ r := Nat.le_trans Z0 (Nat.le_of_eq z118.symm)
          have sz_r : h0.size ≤ r := Nat.le_trans (Keep.refl h0 []).1 (Nat.le_of_eq z118.symm)
          have K118 := (Keep.refl h0 []).ext E118
          have Ff_120 := F3.ext E118
          have Vf_121 := V1.ext E118
          have zl118 := Nat.le_trans Z0 E118.1
          have V118 : Arv Z h118 r k118 .int (2 : Int32) [(.int (0 : Int32)), (.int (0 : Int32))] (.int (0 : Int32)) := A118
          refine Own.astoreN 43 #[.val (.ref a), .val (.int (2 : Int32)), .val (.ref r), .val (.int (4 : Int32)), .val (.int (4 : Int32)), .val (.int v3), .unset, .unset] X118 hx (hb hby d4_42) rfl rfl rfl ?_
          refine Own.iconst 44 X118 hx ((0 : Int32)) (hb hby d4_43) rfl rfl ?_
          refine Own.istoreNV 45 #[.val (.ref a), .val (.int (2 : Int32)), .val (.ref r), .val (.int (0 : Int32)), .val (.int (4 : Int32)), .val (.int v3), .unset, .unset] X118 hx (hb hby d4_44) rfl rfl ?_
          refine Own.aloadN 46 X118 hx (hb hby d4_45) rfl rfl rfl ?_
          refine Own.getFld 49 X118 hx hZ hown (host := "") (Or.inl (w 29 rfl)) Via.refl e118 Ff_120 (hb hby d4_46) rfl ?_
          intro T122 X122 e122
          refine Own.astore 51 #[.val (.ref a), .val (.int (2 : Int32)), .val (.ref r), .val (.int (0 : Int32)), .val (.ref b), .val (.int v3), .unset, .unset] X122 hx (hb hby d4_49) rfl rfl rfl ?_
          refine Own.aload 53 X122 hx (hb hby d4_51) rfl rfl rfl ?_
          refine Own.arrLen 54 X122 hx hZ e122 Vf_121 (hb hby d4_53) rfl ?_
          refine Own.istoreV 56 #[.val (.ref a), .val (.int (2 : Int32)), .val (.ref r), .val (.int (0 : Int32)), .val (.ref b), .val (.int (4 : Int32)), .unset, .unset] X122 hx (hb hby d4_54) rfl rfl ?_
          refine Own.iconst 57 X122 hx ((0 : Int32)) (hb hby d4_56) rfl rfl ?_
          refine Own.istoreV 59 #[.val (.ref a), .val (.int (2 : Int32)), .val (.ref r), .val (.int (0 : Int32)), .val (.ref b), .val (.int (4 : Int32)), .val (.int (0 : Int32)), .unset] X122 hx (hb hby d4_57) rfl rfl ?_
          refine Own.iload 61 X122 hx (hb hby d4_59) rfl rfl ?_
          refine Own.iload 63 X122 hx (hb hby d4_61) rfl rfl ?_
          refine Own.icmp_ge 92 66 X122 hx (hb hby d4_63) (by decide) rfl (fun tk => absurd tk (by decide)) (fun tk => ?_)
          refine Own.aload 68 X122 hx (hb hby d4_66) rfl rfl rfl ?_
          refine Own.iload 70 X122 hx (hb hby d4_68) rfl rfl ?_
          refine Own.iaload 71 X122 hx hZ e122 (v0) Vf_121 (by decide) rfl (hb hby d4_70) rfl ?_
          refine Own.istoreV 73 #[.val (.ref a), .val (.int (2 : Int32)), .val (.ref r), .val (.int (0 : Int32)), .val (.ref b), .val (.int (4 : Int32)), .val (.int (0 : Int32)), .val (.int v0)] X122 hx (hb hby d4_71) rfl rfl ?_
          refine Own.iload 75 X122 hx (hb hby d4_73) rfl rfl ?_
          refine Own.if_lt 86 78 X122 hx (hb hby d4_75) (by decide) rfl (fun tk => ?_) (fun tk => absurd q0 tk)
          refine Own.iinc 89 (fun c_123 => #[.val (.ref a), .val (.int (2 : Int32)), .val (.ref r), .val (.int (0 : Int32)), .val (.ref b), .val (.int (4 : Int32)), .val (.int c_123), .val (.int v0)]) X122 hx ((1 : Int32)) (hb hby d4_86) rfl rfl rfl (fun _ => rfl) fun c_123 hc_123 => ?_
          obtain rfl : c_123 = (1 : Int32) := hc_123.trans (by decide)
          refine Own.goto 59 X122 hx (hb hby d4_89) (by decide) ?_
          refine Own.iload 61 X122 hx (hb hby d4_59) rfl rfl ?_
          refine Own.iload 63 X122 hx (hb hby d4_61) rfl rfl ?_
          refine Own.icmp_ge 92 66 X122 hx (hb hby d4_63) (by decide) rfl (fun tk => absurd tk (by decide)) (fun tk => ?_)
          refine Own.aload 68 X122 hx (hb hby d4_66) rfl rfl rfl ?_
          refine Own.iload 70 X122 hx (hb hby d4_68) rfl rfl ?_
          refine Own.iaload 71 X122 hx hZ e122 (v1) Vf_121 (by decide) rfl (hb hby d4_70) rfl ?_
          refine Own.istoreV 73 #[.val (.ref a), .val (.int (2 : Int32)), .val (.ref r), .val (.int (0 : Int32)), .val (.ref b), .val (.int (4 : Int32)), .val (.int (1 : Int32)), .val (.int v1)] X122 hx (hb hby d4_71) rfl rfl ?_
          refine Own.iload 75 X122 hx (hb hby d4_73) rfl rfl ?_
          refine Own.if_lt 86 78 X122 hx (hb hby d4_75) (by decide) rfl (fun tk => absurd tk q1) (fun tk => ?_)
          refine Own.aloadN 79 X122 hx (hb hby d4_78) rfl rfl rfl ?_
          refine Own.iloadN 80 X122 hx (hb hby d4_79) rfl rfl ?_
          refine Own.iinc 83 (fun c_124 => #[.val (.ref a), .val (.int (2 : Int32)), .val (.ref r), .val (.int c_124), .val (.ref b), .val (.int (4 : Int32)), .val (.int (1 : Int32)), .val (.int v1)]) X122 hx ((1 : Int32)) (hb hby d4_80) rfl rfl rfl (fun _ => rfl) fun c_124 hc_124 => ?_
          obtain rfl : c_124 = (1 : Int32) := hc_124.trans (by decide)
          refine Own.iload 85 X122 hx (hb hby d4_83) rfl rfl ?_
          refine Own.iastore 86 X122 hx hZ e122 V118 (by decide) (Nat.le_of_ble_eq_true rfl) (hb hby d4_85) rfl ?_
          intro T125 h125 X125 e125 W125 A125
          have N125 := Fr.snoc X125 N0 g_r
          have Ff_127 := Ff_120.other W125 (Or.inl ne_a_r)
          have Vf_128 := Vf_121.other W125 ne_b_r
          have zl125 := Nat.le_trans zl118 (Nat.le_of_eq W125.size.symm)
          have K125 := K118.wr W125 (Or.inr sz_r)
          have V125 : Arv Z h125 r k118 .int (2 : Int32) [(.int v1), (.int (0 : Int32))] (.int (0 : Int32)) := A125
          refine Own.iinc 89 (fun c_130 => #[.val (.ref a), .val (.int (2 : Int32)), .val (.ref r), .val (.int (1 : Int32)), .val (.ref b), .val (.int (4 : Int32)), .val (.int c_130), .val (.int v1)]) X125 hx ((1 : Int32)) (hb hby d4_86) rfl rfl rfl (fun _ => rfl) fun c_130 hc_130 => ?_
          obtain rfl : c_130 = (2 : Int32) := hc_130.trans (by decide)
          refine Own.goto 59 X125 hx (hb hby d4_89) (by decide) ?_
          refine Own.iload 61 X125 hx (hb hby d4_59) rfl rfl ?_
          refine Own.iload 63 X125 hx (hb hby d4_61) rfl rfl ?_
          refine Own.icmp_ge 92 66 X125 hx (hb hby d4_63) (by decide) rfl (fun tk => absurd tk (by decide)) (fun tk => ?_)
          refine Own.aload 68 X125 hx (hb hby d4_66) rfl rfl rfl ?_
          refine Own.iload 70 X125 hx (hb hby d4_68) rfl rfl ?_
          refine Own.iaload 71 X125 hx hZ e125 (v2) Vf_128 (by decide) rfl (hb hby d4_70) rfl ?_
          refine Own.istoreV 73 #[.val (.ref a), .val (.int (2 : Int32)), .val (.ref r), .val (.int (1 : Int32)), .val (.ref b), .val (.int (4 : Int32)), .val (.int (2 : Int32)), .val (.int v2)] X125 hx (hb hby d4_71) rfl rfl ?_
          refine Own.iload 75 X125 hx (hb hby d4_73) rfl rfl ?_
          refine Own.if_lt 86 78 X125 hx (hb hby d4_75) (by decide) rfl (fun tk => absurd tk q2) (fun tk => ?_)
          refine Own.aloadN 79 X125 hx (hb hby d4_78) rfl rfl rfl ?_
          refine Own.iloadN 80 X125 hx (hb hby d4_79) rfl rfl ?_
          refine Own.iinc 83 (fun c_131 => #[.val (.ref a), .val (.int (2 : Int32)), .val (.ref r), .val (.int c_131), .val (.ref b), .val (.int (4 : Int32)), .val (.int (2 : Int32)), .val (.int v2)]) X125 hx ((1 : Int32)) (hb hby d4_80) rfl rfl rfl (fun _ => rfl) fun c_131 hc_131 => ?_
          obtain rfl : c_131 = (2 : Int32) := hc_131.trans (by decide)
          refine Own.iload 85 X125 hx (hb hby d4_83) rfl rfl ?_
          refine Own.iastore 86 X125 hx hZ e125 V125 (by decide) (Nat.le_of_ble_eq_true rfl) (hb hby d4_85) rfl ?_
          intro T132 h132 X132 e132 W132 A132
          have N132 := Fr.snoc X132 N125 g_r
          have Ff_134 := Ff_127.other W132 (Or.inl ne_a_r)
          have Vf_135 := Vf_128.other W132 ne_b_r
          have zl132 := Nat.le_trans zl125 (Nat.le_of_eq W132.size.symm)
          have K132 := K125.wr W132 (Or.inr sz_r)
          have V132 : Arv Z h132 r k118 .int (2 : Int32) [(.int v1), (.int v2)] (.int (0 : Int32)) := A132
          refine Own.iinc 89 (fun c_137 => #[.val (.ref a), .val (.int (2 : Int32)), .val (.ref r), .val (.int (2 : Int32)), .val (.ref b), .val (.int (4 : Int32)), .val (.int c_137), .val (.int v2)]) X132 hx ((1 : Int32)) (hb hby d4_86) rfl rfl rfl (fun _ => rfl) fun c_137 hc_137 => ?_
          obtain rfl : c_137 = (3 : Int32) := hc_137.trans (by decide)
          refine Own.goto 59 X132 hx (hb hby d4_89) (by decide) ?_
          refine Own.iload 61 X132 hx (hb hby d4_59) rfl rfl ?_
          refine Own.iload 63 X132 hx (hb hby d4_61) rfl rfl ?_
          refine Own.icmp_ge 92 66 X132 hx (hb hby d4_63) (by decide) rfl (fun tk => absurd tk (by decide)) (fun tk => ?_)
          refine Own.aload 68 X132 hx (hb hby d4_66) rfl rfl rfl ?_
          refine Own.iload 70 X132 hx (hb hby d4_68) rfl rfl ?_
          refine Own.iaload 71 X132 hx hZ e132 (v3) Vf_135 (by decide) rfl (hb hby d4_70) rfl ?_
          refine Own.istoreV 73 #[.val (.ref a), .val (.int (2 : Int32)), .val (.ref r), .val (.int (2 : Int32)), .val (.ref b), .val (.int (4 : Int32)), .val (.int (3 : Int32)), .val (.int v3)] X132 hx (hb hby d4_71) rfl rfl ?_
          refine Own.iload 75 X132 hx (hb hby d4_73) rfl rfl ?_
          refine Own.if_lt 86 78 X132 hx (hb hby d4_75) (by decide) rfl (fun tk => ?_) (fun tk => absurd q3 tk)
          refine Own.iinc 89 (fun c_138 => #[.val (.ref a), .val (.int (2 : Int32)), .val (.ref r), .val (.int (2 : Int32)), .val (.ref b), .val (.int (4 : Int32)), .val (.int c_138), .val (.int v3)]) X132 hx ((1 : Int32)) (hb hby d4_86) rfl rfl rfl (fun _ => rfl) fun c_138 hc_138 => ?_
          obtain rfl : c_138 = (4 : Int32) := hc_138.trans (by decide)
          refine Own.goto 59 X132 hx (hb hby d4_89) (by decide) ?_
          refine Own.iload 61 X132 hx (hb hby d4_59) rfl rfl ?_
          refine Own.iload 63 X132 hx (hb hby d4_61) rfl rfl ?_
          refine Own.icmp_ge 92 66 X132 hx (hb hby d4_63) (by decide) rfl (fun tk => ?_) (fun tk => absurd tk (by decide))
          refine Own.aloadN 93 X132 hx (hb hby d4_92) rfl rfl rfl ?_
          refine Own.retRef X132 hx hlk rfl hret rfl (hb hby d4_93) (by decide) (by decide) ?_
          rw [e132]
          exact ⟨r, k118, [v1, v2], rfl, N132, K132, sz_r, g_r, by rw [own_f, List.filter_cons_of_neg (p := fun x => decide (¬ x < 0)) (by rw [decide_eq_true_iff]; exact fun u => u q0), List.filter_cons_of_pos (p := fun x => decide (¬ x < 0)) (decide_eq_true q1), List.filter_cons_of_pos (p := fun x => decide (¬ x < 0)) (decide_eq_true q2), List.filter_cons_of_neg (p := fun x => decide (¬ x < 0)) (by rw [decide_eq_true_iff]; exact fun u => u q3), List.filter_nil], V132⟩
        ·
          refine Own.iinc 33 (fun c_139 => #[.val (.ref a), .val (.int c_139), .val (.ref b), .val (.int (4 : Int32)), .val (.int (3 : Int32)), .val (.int v3), .unset, .unset]) X1 hx ((1 : Int32)) (hb hby d4_30) rfl rfl rfl (fun _ => rfl) fun c_139 hc_139 => ?_
          obtain rfl : c_139 = (3 : Int32) := hc_139.trans (by decide)
          refine Own.iinc 36 (fun c_140 => #[.val (.ref a), .val (.int (3 : Int32)), .val (.ref b), .val (.int (4 : Int32)), .val (.int c_140), .val (.int v3), .unset, .unset]) X1 hx ((1 : Int32)) (hb hby d4_33) rfl rfl rfl (fun _ => rfl) fun c_140 hc_140 => ?_
          obtain rfl : c_140 = (4 : Int32) := hc_140.trans (by decide)
          refine Own.goto 13 X1 hx (hb hby d4_36) (by decide) ?_
          refine Own.iload 15 X1 hx (hb hby d4_13) rfl rfl ?_
          refine Own.iloadN 16 X1 hx (hb hby d4_15) rfl rfl ?_
          refine Own.icmp_ge 39 19 X1 hx (hb hby d4_16) (by decide) rfl (fun tk => ?_) (fun tk => absurd tk (by decide))
          refine Own.iloadN 40 X1 hx (hb hby d4_39) rfl rfl ?_
          refine Own.newArr 42 3 X1 hx hZ (w 5 rfl) e1 (by decide) (by decide) (by decide) (hb hby d4_40) rfl (by decide) (by decide) ?_
          intro T141 h141 r k141 z141 X141 e141 E141 A141
          have ne_a_r : a ≠ r := Nat.ne_of_lt (Nat.lt_of_lt_of_le F3.lt (Nat.le_of_eq z141.symm))
          have ne_b_r : b ≠ r := Nat.ne_of_lt (Nat.lt_of_lt_of_le V1.lt (Nat.le_of_eq z141.symm))
          have g_r : n0 ≤ r := Nat.le_trans Z0 (Nat.le_of_eq z141.symm)
          have sz_r : h0.size ≤ r := Nat.le_trans (Keep.refl h0 []).1 (Nat.le_of_eq z141.symm)
          have K141 := (Keep.refl h0 []).ext E141
          have Ff_143 := F3.ext E141
          have Vf_144 := V1.ext E141
          have zl141 := Nat.le_trans Z0 E141.1
          have V141 : Arv Z h141 r k141 .int (3 : Int32) [(.int (0 : Int32)), (.int (0 : Int32)), (.int (0 : Int32))] (.int (0 : Int32)) := A141
          refine Own.astoreN 43 #[.val (.ref a), .val (.int (3 : Int32)), .val (.ref r), .val (.int (4 : Int32)), .val (.int (4 : Int32)), .val (.int v3), .unset, .unset] X141 hx (hb hby d4_42) rfl rfl rfl ?_
          refine Own.iconst 44 X141 hx ((0 : Int32)) (hb hby d4_43) rfl rfl ?_
          refine Own.istoreNV 45 #[.val (.ref a), .val (.int (3 : Int32)), .val (.ref r), .val (.int (0 : Int32)), .val (.int (4 : Int32)), .val (.int v3), .unset, .unset] X141 hx (hb hby d4_44) rfl rfl ?_
          refine Own.aloadN 46 X141 hx (hb hby d4_45) rfl rfl rfl ?_
          refine Own.getFld 49 X141 hx hZ hown (host := "") (Or.inl (w 29 rfl)) Via.refl e141 Ff_143 (hb hby d4_46) rfl ?_
          intro T145 X145 e145
          refine Own.astore 51 #[.val (.ref a), .val (.int (3 : Int32)), .val (.ref r), .val (.int (0 : Int32)), .val (.ref b), .val (.int v3), .unset, .unset] X145 hx (hb hby d4_49) rfl rfl rfl ?_
          refine Own.aload 53 X145 hx (hb hby d4_51) rfl rfl rfl ?_
          refine Own.arrLen 54 X145 hx hZ e145 Vf_144 (hb hby d4_53) rfl ?_
          refine Own.istoreV 56 #[.val (.ref a), .val (.int (3 : Int32)), .val (.ref r), .val (.int (0 : Int32)), .val (.ref b), .val (.int (4 : Int32)), .unset, .unset] X145 hx (hb hby d4_54) rfl rfl ?_
          refine Own.iconst 57 X145 hx ((0 : Int32)) (hb hby d4_56) rfl rfl ?_
          refine Own.istoreV 59 #[.val (.ref a), .val (.int (3 : Int32)), .val (.ref r), .val (.int (0 : Int32)), .val (.ref b), .val (.int (4 : Int32)), .val (.int (0 : Int32)), .unset] X145 hx (hb hby d4_57) rfl rfl ?_
          refine Own.iload 61 X145 hx (hb hby d4_59) rfl rfl ?_
          refine Own.iload 63 X145 hx (hb hby d4_61) rfl rfl ?_
          refine Own.icmp_ge 92 66 X145 hx (hb hby d4_63) (by decide) rfl (fun tk => absurd tk (by decide)) (fun tk => ?_)
          refine Own.aload 68 X145 hx (hb hby d4_66) rfl rfl rfl ?_
          refine Own.iload 70 X145 hx (hb hby d4_68) rfl rfl ?_
          refine Own.iaload 71 X145 hx hZ e145 (v0) Vf_144 (by decide) rfl (hb hby d4_70) rfl ?_
          refine Own.istoreV 73 #[.val (.ref a), .val (.int (3 : Int32)), .val (.ref r), .val (.int (0 : Int32)), .val (.ref b), .val (.int (4 : Int32)), .val (.int (0 : Int32)), .val (.int v0)] X145 hx (hb hby d4_71) rfl rfl ?_
          refine Own.iload 75 X145 hx (hb hby d4_73) rfl rfl ?_
          refine Own.if_lt 86 78 X145 hx (hb hby d4_75) (by decide) rfl (fun tk => ?_) (fun tk => absurd q0 tk)
          refine Own.iinc 89 (fun c_146 => #[.val (.ref a), .val (.int (3 : Int32)), .val (.ref r), .val (.int (0 : Int32)), .val (.ref b), .val (.int (4 : Int32)), .val (.int c_146), .val (.int v0)]) X145 hx ((1 : Int32)) (hb hby d4_86) rfl rfl rfl (fun _ => rfl) fun c_146 hc_146 => ?_
          obtain rfl : c_146 = (1 : Int32) := hc_146.trans (by decide)
          refine Own.goto 59 X145 hx (hb hby d4_89) (by decide) ?_
          refine Own.iload 61 X145 hx (hb hby d4_59) rfl rfl ?_
          refine Own.iload 63 X145 hx (hb hby d4_61) rfl rfl ?_
          refine Own.icmp_ge 92 66 X145 hx (hb hby d4_63) (by decide) rfl (fun tk => absurd tk (by decide)) (fun tk => ?_)
          refine Own.aload 68 X145 hx (hb hby d4_66) rfl rfl rfl ?_
          refine Own.iload 70 X145 hx (hb hby d4_68) rfl rfl ?_
          refine Own.iaload 71 X145 hx hZ e145 (v1) Vf_144 (by decide) rfl (hb hby d4_70) rfl ?_
          refine Own.istoreV 73 #[.val (.ref a), .val (.int (3 : Int32)), .val (.ref r), .val (.int (0 : Int32)), .val (.ref b), .val (.int (4 : Int32)), .val (.int (1 : Int32)), .val (.int v1)] X145 hx (hb hby d4_71) rfl rfl ?_
          refine Own.iload 75 X145 hx (hb hby d4_73) rfl rfl ?_
          refine Own.if_lt 86 78 X145 hx (hb hby d4_75) (by decide) rfl (fun tk => absurd tk q1) (fun tk => ?_)
          refine Own.aloadN 79 X145 hx (hb hby d4_78) rfl rfl rfl ?_
          refine Own.iloadN 80 X145 hx (hb hby d4_79) rfl rfl ?_
          refine Own.iinc 83 (fun c_147 => #[.val (.ref a), .val (.int (3 : Int32)), .val (.ref r), .val (.int c_147), .val (.ref b), .val (.int (4 : Int32)), .val (.int (1 : Int32)), .val (.int v1)]) X145 hx ((1 : Int32)) (hb hby d4_80) rfl rfl rfl (fun _ => rfl) fun c_147 hc_147 => ?_
          obtain rfl : c_147 = (1 : Int32) := hc_147.trans (by decide)
          refine Own.iload 85 X145 hx (hb hby d4_83) rfl rfl ?_
          refine Own.iastore 86 X145 hx hZ e145 V141 (by decide) (Nat.le_of_ble_eq_true rfl) (hb hby d4_85) rfl ?_
          intro T148 h148 X148 e148 W148 A148
          have N148 := Fr.snoc X148 N0 g_r
          have Ff_150 := Ff_143.other W148 (Or.inl ne_a_r)
          have Vf_151 := Vf_144.other W148 ne_b_r
          have zl148 := Nat.le_trans zl141 (Nat.le_of_eq W148.size.symm)
          have K148 := K141.wr W148 (Or.inr sz_r)
          have V148 : Arv Z h148 r k141 .int (3 : Int32) [(.int v1), (.int (0 : Int32)), (.int (0 : Int32))] (.int (0 : Int32)) := A148
          refine Own.iinc 89 (fun c_153 => #[.val (.ref a), .val (.int (3 : Int32)), .val (.ref r), .val (.int (1 : Int32)), .val (.ref b), .val (.int (4 : Int32)), .val (.int c_153), .val (.int v1)]) X148 hx ((1 : Int32)) (hb hby d4_86) rfl rfl rfl (fun _ => rfl) fun c_153 hc_153 => ?_
          obtain rfl : c_153 = (2 : Int32) := hc_153.trans (by decide)
          refine Own.goto 59 X148 hx (hb hby d4_89) (by decide) ?_
          refine Own.iload 61 X148 hx (hb hby d4_59) rfl rfl ?_
          refine Own.iload 63 X148 hx (hb hby d4_61) rfl rfl ?_
          refine Own.icmp_ge 92 66 X148 hx (hb hby d4_63) (by decide) rfl (fun tk => absurd tk (by decide)) (fun tk => ?_)
          refine Own.aload 68 X148 hx (hb hby d4_66) rfl rfl rfl ?_
          refine Own.iload 70 X148 hx (hb hby d4_68) rfl rfl ?_
          refine Own.iaload 71 X148 hx hZ e148 (v2) Vf_151 (by decide) rfl (hb hby d4_70) rfl ?_
          refine Own.istoreV 73 #[.val (.ref a), .val (.int (3 : Int32)), .val (.ref r), .val (.int (1 : Int32)), .val (.ref b), .val (.int (4 : Int32)), .val (.int (2 : Int32)), .val (.int v2)] X148 hx (hb hby d4_71) rfl rfl ?_
          refine Own.iload 75 X148 hx (hb hby d4_73) rfl rfl ?_
          refine Own.if_lt 86 78 X148 hx (hb hby d4_75) (by decide) rfl (fun tk => absurd tk q2) (fun tk => ?_)
          refine Own.aloadN 79 X148 hx (hb hby d4_78) rfl rfl rfl ?_
          refine Own.iloadN 80 X148 hx (hb hby d4_79) rfl rfl ?_
          refine Own.iinc 83 (fun c_154 => #[.val (.ref a), .val (.int (3 : Int32)), .val (.ref r), .val (.int c_154), .val (.ref b), .val (.int (4 : Int32)), .val (.int (2 : Int32)), .val (.int v2)]) X148 hx ((1 : Int32)) (hb hby d4_80) rfl rfl rfl (fun _ => rfl) fun c_154 hc_154 => ?_
          obtain rfl : c_154 = (2 : Int32) := hc_154.trans (by decide)
          refine Own.iload 85 X148 hx (hb hby d4_83) rfl rfl ?_
          refine Own.iastore 86 X148 hx hZ e148 V148 (by decide) (Nat.le_of_ble_eq_true rfl) (hb hby d4_85) rfl ?_
          intro T155 h155 X155 e155 W155 A155
          have N155 := Fr.snoc X155 N148 g_r
          have Ff_157 := Ff_150.other W155 (Or.inl ne_a_r)
          have Vf_158 := Vf_151.other W155 ne_b_r
          have zl155 := Nat.le_trans zl148 (Nat.le_of_eq W155.size.symm)
          have K155 := K148.wr W155 (Or.inr sz_r)
          have V155 : Arv Z h155 r k141 .int (3 : Int32) [(.int v1), (.int v2), (.int (0 : Int32))] (.int (0 : Int32)) := A155
          refine Own.iinc 89 (fun c_160 => #[.val (.ref a), .val (.int (3 : Int32)), .val (.ref r), .val (.int (2 : Int32)), .val (.ref b), .val (.int (4 : Int32)), .val (.int c_160), .val (.int v2)]) X155 hx ((1 : Int32)) (hb hby d4_86) rfl rfl rfl (fun _ => rfl) fun c_160 hc_160 => ?_
          obtain rfl : c_160 = (3 : Int32) := hc_160.trans (by decide)
          refine Own.goto 59 X155 hx (hb hby d4_89) (by decide) ?_
          refine Own.iload 61 X155 hx (hb hby d4_59) rfl rfl ?_
          refine Own.iload 63 X155 hx (hb hby d4_61) rfl rfl ?_
          refine Own.icmp_ge 92 66 X155 hx (hb hby d4_63) (by decide) rfl (fun tk => absurd tk (by decide)) (fun tk => ?_)
          refine Own.aload 68 X155 hx (hb hby d4_66) rfl rfl rfl ?_
          refine Own.iload 70 X155 hx (hb hby d4_68) rfl rfl ?_
          refine Own.iaload 71 X155 hx hZ e155 (v3) Vf_158 (by decide) rfl (hb hby d4_70) rfl ?_
          refine Own.istoreV 73 #[.val (.ref a), .val (.int (3 : Int32)), .val (.ref r), .val (.int (2 : Int32)), .val (.ref b), .val (.int (4 : Int32)), .val (.int (3 : Int32)), .val (.int v3)] X155 hx (hb hby d4_71) rfl rfl ?_
          refine Own.iload 75 X155 hx (hb hby d4_73) rfl rfl ?_
          refine Own.if_lt 86 78 X155 hx (hb hby d4_75) (by decide) rfl (fun tk => absurd tk q3) (fun tk => ?_)
          refine Own.aloadN 79 X155 hx (hb hby d4_78) rfl rfl rfl ?_
          refine Own.iloadN 80 X155 hx (hb hby d4_79) rfl rfl ?_
          refine Own.iinc 83 (fun c_161 => #[.val (.ref a), .val (.int (3 : Int32)), .val (.ref r), .val (.int c_161), .val (.ref b), .val (.int (4 : Int32)), .val (.int (3 : Int32)), .val (.int v3)]) X155 hx ((1 : Int32)) (hb hby d4_80) rfl rfl rfl (fun _ => rfl) fun c_161 hc_161 => ?_
          obtain rfl : c_161 = (3 : Int32) := hc_161.trans (by decide)
          refine Own.iload 85 X155 hx (hb hby d4_83) rfl rfl ?_
          refine Own.iastore 86 X155 hx hZ e155 V155 (by decide) (Nat.le_of_ble_eq_true rfl) (hb hby d4_85) rfl ?_
          intro T162 h162 X162 e162 W162 A162
          have N162 := Fr.snoc X162 N155 g_r
          have Ff_164 := Ff_157.other W162 (Or.inl ne_a_r)
          have Vf_165 := Vf_158.other W162 ne_b_r
          have zl162 := Nat.le_trans zl155 (Nat.le_of_eq W162.size.symm)
          have K162 := K155.wr W162 (Or.inr sz_r)
          have V162 : Arv Z h162 r k141 .int (3 : Int32) [(.int v1), (.int v2), (.int v3)] (.int (0 : Int32)) := A162
          refine Own.iinc 89 (fun c_167 => #[.val (.ref a), .val (.int (3 : Int32)), .val (.ref r), .val (.int (3 : Int32)), .val (.ref b), .val (.int (4 : Int32)), .val (.int c_167), .val (.int v3)]) X162 hx ((1 : Int32)) (hb hby d4_86) rfl rfl rfl (fun _ => rfl) fun c_167 hc_167 => ?_
          obtain rfl : c_167 = (4 : Int32) := hc_167.trans (by decide)
          refine Own.goto 59 X162 hx (hb hby d4_89) (by decide) ?_
          refine Own.iload 61 X162 hx (hb hby d4_59) rfl rfl ?_
          refine Own.iload 63 X162 hx (hb hby d4_61) rfl rfl ?_
          refine Own.icmp_ge 92 66 X162 hx (hb hby d4_63) (by decide) rfl (fun tk => ?_) (fun tk => absurd tk (by decide))
          refine Own.aloadN 93 X162 hx (hb hby d4_92) rfl rfl rfl ?_
          refine Own.retRef X162 hx hlk rfl hret rfl (hb hby d4_93) (by decide) (by decide) ?_
          rw [e162]
          exact ⟨r, k141, [v1, v2, v3], rfl, N162, K162, sz_r, g_r, by rw [own_f, List.filter_cons_of_neg (p := fun x => decide (¬ x < 0)) (by rw [decide_eq_true_iff]; exact fun u => u q0), List.filter_cons_of_pos (p := fun x => decide (¬ x < 0)) (decide_eq_true q1), List.filter_cons_of_pos (p := fun x => decide (¬ x < 0)) (decide_eq_true q2), List.filter_cons_of_pos (p := fun x => decide (¬ x < 0)) (decide_eq_true q3), List.filter_nil], V162⟩
  ·
    refine Own.iinc 33 (fun c_168 => #[.val (.ref a), .val (.int c_168), .val (.ref b), .val (.int (4 : Int32)), .val (.int (0 : Int32)), .val (.int v0), .unset, .unset]) X1 hx ((1 : Int32)) (hb hby d4_30) rfl rfl rfl (fun _ => rfl) fun c_168 hc_168 => ?_
    obtain rfl : c_168 = (1 : Int32) := hc_168.trans (by decide)
    refine Own.iinc 36 (fun c_169 => #[.val (.ref a), .val (.int (1 : Int32)), .val (.ref b), .val (.int (4 : Int32)), .val (.int c_169), .val (.int v0), .unset, .unset]) X1 hx ((1 : Int32)) (hb hby d4_33) rfl rfl rfl (fun _ => rfl) fun c_169 hc_169 => ?_
    obtain rfl : c_169 = (1 : Int32) := hc_169.trans (by decide)
    refine Own.goto 13 X1 hx (hb hby d4_36) (by decide) ?_
    refine Own.iload 15 X1 hx (hb hby d4_13) rfl rfl ?_
    refine Own.iloadN 16 X1 hx (hb hby d4_15) rfl rfl ?_
    refine Own.icmp_ge 39 19 X1 hx (hb hby d4_16) (by decide) rfl (fun tk => absurd tk (by decide)) (fun tk => ?_)
    refine Own.aloadN 20 X1 hx (hb hby d4_19) rfl rfl rfl ?_
    refine Own.iload 22 X1 hx (hb hby d4_20) rfl rfl ?_
    refine Own.iaload 23 X1 hx hZ e1 (v1) V1 (by decide) rfl (hb hby d4_22) rfl ?_
    refine Own.istoreV 25 #[.val (.ref a), .val (.int (1 : Int32)), .val (.ref b), .val (.int (4 : Int32)), .val (.int (1 : Int32)), .val (.int v1), .unset, .unset] X1 hx (hb hby d4_23) rfl rfl ?_
    refine Own.iload 27 X1 hx (hb hby d4_25) rfl rfl ?_
    refine Own.if_lt 33 30 X1 hx (hb hby d4_27) (by decide) rfl (fun q1 => ?_) (fun q1 => ?_)
    ·
      refine Own.iinc 36 (fun c_170 => #[.val (.ref a), .val (.int (1 : Int32)), .val (.ref b), .val (.int (4 : Int32)), .val (.int c_170), .val (.int v1), .unset, .unset]) X1 hx ((1 : Int32)) (hb hby d4_33) rfl rfl rfl (fun _ => rfl) fun c_170 hc_170 => ?_
      obtain rfl : c_170 = (2 : Int32) := hc_170.trans (by decide)
      refine Own.goto 13 X1 hx (hb hby d4_36) (by decide) ?_
      refine Own.iload 15 X1 hx (hb hby d4_13) rfl rfl ?_
      refine Own.iloadN 16 X1 hx (hb hby d4_15) rfl rfl ?_
      refine Own.icmp_ge 39 19 X1 hx (hb hby d4_16) (by decide) rfl (fun tk => absurd tk (by decide)) (fun tk => ?_)
      refine Own.aloadN 20 X1 hx (hb hby d4_19) rfl rfl rfl ?_
      refine Own.iload 22 X1 hx (hb hby d4_20) rfl rfl ?_
      refine Own.iaload 23 X1 hx hZ e1 (v2) V1 (by decide) rfl (hb hby d4_22) rfl ?_
      refine Own.istoreV 25 #[.val (.ref a), .val (.int (1 : Int32)), .val (.ref b), .val (.int (4 : Int32)), .val (.int (2 : Int32)), .val (.int v2), .unset, .unset] X1 hx (hb hby d4_23) rfl rfl ?_
      refine Own.iload 27 X1 hx (hb hby d4_25) rfl rfl ?_
      refine Own.if_lt 33 30 X1 hx (hb hby d4_27) (by decide) rfl (fun q2 => ?_) (fun q2 => ?_)
      ·
        refine Own.iinc 36 (fun c_171 => #[.val (.ref a), .val (.int (1 : Int32)), .val (.ref b), .val (.int (4 : Int32)), .val (.int c_171), .val (.int v2), .unset, .unset]) X1 hx ((1 : Int32)) (hb hby d4_33) rfl rfl rfl (fun _ => rfl) fun c_171 hc_171 => ?_
        obtain rfl : c_171 = (3 : Int32) := hc_171.trans (by decide)
        refine Own.goto 13 X1 hx (hb hby d4_36) (by decide) ?_
        refine Own.iload 15 X1 hx (hb hby d4_13) rfl rfl ?_
        refine Own.iloadN 16 X1 hx (hb hby d4_15) rfl rfl ?_
        refine Own.icmp_ge 39 19 X1 hx (hb hby d4_16) (by decide) rfl (fun tk => absurd tk (by decide)) (fun tk => ?_)
        refine Own.aloadN 20 X1 hx (hb hby d4_19) rfl rfl rfl ?_
        refine Own.iload 22 X1 hx (hb hby d4_20) rfl rfl ?_
        refine Own.iaload 23 X1 hx hZ e1 (v3) V1 (by decide) rfl (hb hby d4_22) rfl ?_
        refine Own.istoreV 25 #[.val (.ref a), .val (.int (1 : Int32)), .val (.ref b), .val (.int (4 : Int32)), .val (.int (3 : Int32)), .val (.int v3), .unset, .unset] X1 hx (hb hby d4_23) rfl rfl ?_
        refine Own.iload 27 X1 hx (hb hby d4_25) rfl rfl ?_
        refine Own.if_lt 33 30 X1 hx (hb hby d4_27) (by decide) rfl (fun q3 => ?_) (fun q3 => ?_)
        ·
          refine Own.iinc 36 (fun c_172 => #[.val (.ref a), .val (.int (1 : Int32)), .val (.ref b), .val (.int (4 : Int32)), .val (.int c_172), .val (.int v3), .unset, .unset]) X1 hx ((1 : Int32)) (hb hby d4_33) rfl rfl rfl (fun _ => rfl) fun c_172 hc_172 => ?_
          obtain rfl : c_172 = (4 : Int32) := hc_172.trans (by decide)
          refine Own.goto 13 X1 hx (hb hby d4_36) (by decide) ?_
          refine Own.iload 15 X1 hx (hb hby d4_13) rfl rfl ?_
          refine Own.iloadN 16 X1 hx (hb hby d4_15) rfl rfl ?_
          refine Own.icmp_ge 39 19 X1 hx (hb hby d4_16) (by decide) rfl (fun tk => ?_) (fun tk => absurd tk (by decide))
          refine Own.iloadN 40 X1 hx (hb hby d4_39) rfl rfl ?_
          refine Own.newArr 42 1 X1 hx hZ (w 5 rfl) e1 (by decide) (by decide) (by decide) (hb hby d4_40) rfl (by decide) (by decide) ?_
          intro T173 h173 r k173 z173 X173 e173 E173 A173
          have ne_a_r : a ≠ r := Nat.ne_of_lt (Nat.lt_of_lt_of_le F3.lt (Nat.le_of_eq z173.symm))
          have ne_b_r : b ≠ r := Nat.ne_of_lt (Nat.lt_of_lt_of_le V1.lt (Nat.le_of_eq z173.symm))
          have g_r : n0 ≤ r := Nat.le_trans Z0 (Nat.le_of_eq z173.symm)
          have sz_r : h0.size ≤ r := Nat.le_trans (Keep.refl h0 []).1 (Nat.le_of_eq z173.symm)
          have K173 := (Keep.refl h0 []).ext E173
          have Ff_175 := F3.ext E173
          have Vf_176 := V1.ext E173
          have zl173 := Nat.le_trans Z0 E173.1
          have V173 : Arv Z h173 r k173 .int (1 : Int32) [(.int (0 : Int32))] (.int (0 : Int32)) := A173
          refine Own.astoreN 43 #[.val (.ref a), .val (.int (1 : Int32)), .val (.ref r), .val (.int (4 : Int32)), .val (.int (4 : Int32)), .val (.int v3), .unset, .unset] X173 hx (hb hby d4_42) rfl rfl rfl ?_
          refine Own.iconst 44 X173 hx ((0 : Int32)) (hb hby d4_43) rfl rfl ?_
          refine Own.istoreNV 45 #[.val (.ref a), .val (.int (1 : Int32)), .val (.ref r), .val (.int (0 : Int32)), .val (.int (4 : Int32)), .val (.int v3), .unset, .unset] X173 hx (hb hby d4_44) rfl rfl ?_
          refine Own.aloadN 46 X173 hx (hb hby d4_45) rfl rfl rfl ?_
          refine Own.getFld 49 X173 hx hZ hown (host := "") (Or.inl (w 29 rfl)) Via.refl e173 Ff_175 (hb hby d4_46) rfl ?_
          intro T177 X177 e177
          refine Own.astore 51 #[.val (.ref a), .val (.int (1 : Int32)), .val (.ref r), .val (.int (0 : Int32)), .val (.ref b), .val (.int v3), .unset, .unset] X177 hx (hb hby d4_49) rfl rfl rfl ?_
          refine Own.aload 53 X177 hx (hb hby d4_51) rfl rfl rfl ?_
          refine Own.arrLen 54 X177 hx hZ e177 Vf_176 (hb hby d4_53) rfl ?_
          refine Own.istoreV 56 #[.val (.ref a), .val (.int (1 : Int32)), .val (.ref r), .val (.int (0 : Int32)), .val (.ref b), .val (.int (4 : Int32)), .unset, .unset] X177 hx (hb hby d4_54) rfl rfl ?_
          refine Own.iconst 57 X177 hx ((0 : Int32)) (hb hby d4_56) rfl rfl ?_
          refine Own.istoreV 59 #[.val (.ref a), .val (.int (1 : Int32)), .val (.ref r), .val (.int (0 : Int32)), .val (.ref b), .val (.int (4 : Int32)), .val (.int (0 : Int32)), .unset] X177 hx (hb hby d4_57) rfl rfl ?_
          refine Own.iload 61 X177 hx (hb hby d4_59) rfl rfl ?_
          refine Own.iload 63 X177 hx (hb hby d4_61) rfl rfl ?_
          refine Own.icmp_ge 92 66 X177 hx (hb hby d4_63) (by decide) rfl (fun tk => absurd tk (by decide)) (fun tk => ?_)
          refine Own.aload 68 X177 hx (hb hby d4_66) rfl rfl rfl ?_
          refine Own.iload 70 X177 hx (hb hby d4_68) rfl rfl ?_
          refine Own.iaload 71 X177 hx hZ e177 (v0) Vf_176 (by decide) rfl (hb hby d4_70) rfl ?_
          refine Own.istoreV 73 #[.val (.ref a), .val (.int (1 : Int32)), .val (.ref r), .val (.int (0 : Int32)), .val (.ref b), .val (.int (4 : Int32)), .val (.int (0 : Int32)), .val (.int v0)] X177 hx (hb hby d4_71) rfl rfl ?_
          refine Own.iload 75 X177 hx (hb hby d4_73) rfl rfl ?_
          refine Own.if_lt 86 78 X177 hx (hb hby d4_75) (by decide) rfl (fun tk => absurd tk q0) (fun tk => ?_)
          refine Own.aloadN 79 X177 hx (hb hby d4_78) rfl rfl rfl ?_
          refine Own.iloadN 80 X177 hx (hb hby d4_79) rfl rfl ?_
          refine Own.iinc 83 (fun c_178 => #[.val (.ref a), .val (.int (1 : Int32)), .val (.ref r), .val (.int c_178), .val (.ref b), .val (.int (4 : Int32)), .val (.int (0 : Int32)), .val (.int v0)]) X177 hx ((1 : Int32)) (hb hby d4_80) rfl rfl rfl (fun _ => rfl) fun c_178 hc_178 => ?_
          obtain rfl : c_178 = (1 : Int32) := hc_178.trans (by decide)
          refine Own.iload 85 X177 hx (hb hby d4_83) rfl rfl ?_
          refine Own.iastore 86 X177 hx hZ e177 V173 (by decide) (Nat.le_of_ble_eq_true rfl) (hb hby d4_85) rfl ?_
          intro T179 h179 X179 e179 W179 A179
          have N179 := Fr.snoc X179 N0 g_r
          have Ff_181 := Ff_175.other W179 (Or.inl ne_a_r)
          have Vf_182 := Vf_176.other W179 ne_b_r
          have zl179 := Nat.le_trans zl173 (Nat.le_of_eq W179.size.symm)
          have K179 := K173.wr W179 (Or.inr sz_r)
          have V179 : Arv Z h179 r k173 .int (1 : Int32) [(.int v0)] (.int (0 : Int32)) := A179
          refine Own.iinc 89 (fun c_184 => #[.val (.ref a), .val (.int (1 : Int32)), .val (.ref r), .val (.int (1 : Int32)), .val (.ref b), .val (.int (4 : Int32)), .val (.int c_184), .val (.int v0)]) X179 hx ((1 : Int32)) (hb hby d4_86) rfl rfl rfl (fun _ => rfl) fun c_184 hc_184 => ?_
          obtain rfl : c_184 = (1 : Int32) := hc_184.trans (by decide)
          refine Own.goto 59 X179 hx (hb hby d4_89) (by decide) ?_
          refine Own.iload 61 X179 hx (hb hby d4_59) rfl rfl ?_
          refine Own.iload 63 X179 hx (hb hby d4_61) rfl rfl ?_
          refine Own.icmp_ge 92 66 X179 hx (hb hby d4_63) (by decide) rfl (fun tk => absurd tk (by decide)) (fun tk => ?_)
          refine Own.aload 68 X179 hx (hb hby d4_66) rfl rfl rfl ?_
          refine Own.iload 70 X179 hx (hb hby d4_68) rfl rfl ?_
          refine Own.iaload 71 X179 hx hZ e179 (v1) Vf_182 (by decide) rfl (hb hby d4_70) rfl ?_
          refine Own.istoreV 73 #[.val (.ref a), .val (.int (1 : Int32)), .val (.ref r), .val (.int (1 : Int32)), .val (.ref b), .val (.int (4 : Int32)), .val (.int (1 : Int32)), .val (.int v1)] X179 hx (hb hby d4_71) rfl rfl ?_
          refine Own.iload 75 X179 hx (hb hby d4_73) rfl rfl ?_
          refine Own.if_lt 86 78 X179 hx (hb hby d4_75) (by decide) rfl (fun tk => ?_) (fun tk => absurd q1 tk)
          refine Own.iinc 89 (fun c_185 => #[.val (.ref a), .val (.int (1 : Int32)), .val (.ref r), .val (.int (1 : Int32)), .val (.ref b), .val (.int (4 : Int32)), .val (.int c_185), .val (.int v1)]) X179 hx ((1 : Int32)) (hb hby d4_86) rfl rfl rfl (fun _ => rfl) fun c_185 hc_185 => ?_
          obtain rfl : c_185 = (2 : Int32) := hc_185.trans (by decide)
          refine Own.goto 59 X179 hx (hb hby d4_89) (by decide) ?_
          refine Own.iload 61 X179 hx (hb hby d4_59) rfl rfl ?_
          refine Own.iload 63 X179 hx (hb hby d4_61) rfl rfl ?_
          refine Own.icmp_ge 92 66 X179 hx (hb hby d4_63) (by decide) rfl (fun tk => absurd tk (by decide)) (fun tk => ?_)
          refine Own.aload 68 X179 hx (hb hby d4_66) rfl rfl rfl ?_
          refine Own.iload 70 X179 hx (hb hby d4_68) rfl rfl ?_
          refine Own.iaload 71 X179 hx hZ e179 (v2) Vf_182 (by decide) rfl (hb hby d4_70) rfl ?_
          refine Own.istoreV 73 #[.val (.ref a), .val (.int (1 : Int32)), .val (.ref r), .val (.int (1 : Int32)), .val (.ref b), .val (.int (4 : Int32)), .val (.int (2 : Int32)), .val (.int v2)] X179 hx (hb hby d4_71) rfl rfl ?_
          refine Own.iload 75 X179 hx (hb hby d4_73) rfl rfl ?_
          refine Own.if_lt 86 78 X179 hx (hb hby d4_75) (by decide) rfl (fun tk => ?_) (fun tk => absurd q2 tk)
          refine Own.iinc 89 (fun c_186 => #[.val (.ref a), .val (.int (1 : Int32)), .val (.ref r), .val (.int (1 : Int32)), .val (.ref b), .val (.int (4 : Int32)), .val (.int c_186), .val (.int v2)]) X179 hx ((1 : Int32)) (hb hby d4_86) rfl rfl rfl (fun _ => rfl) fun c_186 hc_186 => ?_
          obtain rfl : c_186 = (3 : Int32) := hc_186.trans (by decide)
          refine Own.goto 59 X179 hx (hb hby d4_89) (by decide) ?_
          refine Own.iload 61 X179 hx (hb hby d4_59) rfl rfl ?_
          refine Own.iload 63 X179 hx (hb hby d4_61) rfl rfl ?_
          refine Own.icmp_ge 92 66 X179 hx (hb hby d4_63) (by decide) rfl (fun tk => absurd tk (by decide)) (fun tk => ?_)
          refine Own.aload 68 X179 hx (hb hby d4_66) rfl rfl rfl ?_
          refine Own.iload 70 X179 hx (hb hby d4_68) rfl rfl ?_
          refine Own.iaload 71 X179 hx hZ e179 (v3) Vf_182 (by decide) rfl (hb hby d4_70) rfl ?_
          refine Own.istoreV 73 #[.val (.ref a), .val (.int (1 : Int32)), .val (.ref r), .val (.int (1 : Int32)), .val (.ref b), .val (.int (4 : Int32)), .val (.int (3 : Int32)), .val (.int v3)] X179 hx (hb hby d4_71) rfl rfl ?_
          refine Own.iload 75 X179 hx (hb hby d4_73) rfl rfl ?_
          refine Own.if_lt 86 78 X179 hx (hb hby d4_75) (by decide) rfl (fun tk => ?_) (fun tk => absurd q3 tk)
          refine Own.iinc 89 (fun c_187 => #[.val (.ref a), .val (.int (1 : Int32)), .val (.ref r), .val (.int (1 : Int32)), .val (.ref b), .val (.int (4 : Int32)), .val (.int c_187), .val (.int v3)]) X179 hx ((1 : Int32)) (hb hby d4_86) rfl rfl rfl (fun _ => rfl) fun c_187 hc_187 => ?_
          obtain rfl : c_187 = (4 : Int32) := hc_187.trans (by decide)
          refine Own.goto 59 X179 hx (hb hby d4_89) (by decide) ?_
          refine Own.iload 61 X179 hx (hb hby d4_59) rfl rfl ?_
          refine Own.iload 63 X179 hx (hb hby d4_61) rfl rfl ?_
          refine Own.icmp_ge 92 66 X179 hx (hb hby d4_63) (by decide) rfl (fun tk => ?_) (fun tk => absurd tk (by decide))
          refine Own.aloadN 93 X179 hx (hb hby d4_92) rfl rfl rfl ?_
          refine Own.retRef X179 hx hlk rfl hret rfl (hb hby d4_93) (by decide) (by decide) ?_
          rw [e179]
          exact ⟨r, k173, [v0], rfl, N179, K179, sz_r, g_r, by rw [own_f, List.filter_cons_of_pos (p := fun x => decide (¬ x < 0)) (decide_eq_true q0), List.filter_cons_of_neg (p := fun x => decide (¬ x < 0)) (by rw [decide_eq_true_iff]; exact fun u => u q1), List.filter_cons_of_neg (p := fun x => decide (¬ x < 0)) (by rw [decide_eq_true_iff]; exact fun u => u q2), List.filter_cons_of_neg (p := fun x => decide (¬ x < 0)) (by rw [decide_eq_true_iff]; exact fun u => u q3), List.filter_nil], V179⟩
        ·
          refine Own.iinc 33 (fun c_188 => #[.val (.ref a), .val (.int c_188), .val (.ref b), .val (.int (4 : Int32)), .val (.int (3 : Int32)), .val (.int v3), .unset, .unset]) X1 hx ((1 : Int32)) (hb hby d4_30) rfl rfl rfl (fun _ => rfl) fun c_188 hc_188 => ?_
          obtain rfl : c_188 = (2 : Int32) := hc_188.trans (by decide)
          refine Own.iinc 36 (fun c_189 => #[.val (.ref a), .val (.int (2 : Int32)), .val (.ref b), .val (.int (4 : Int32)), .val (.int c_189), .val (.int v3), .unset, .unset]) X1 hx ((1 : Int32)) (hb hby d4_33) rfl rfl rfl (fun _ => rfl) fun c_189 hc_189 => ?_
          obtain rfl : c_189 = (4 : Int32) := hc_189.trans (by decide)
          refine Own.goto 13 X1 hx (hb hby d4_36) (by decide) ?_
          refine Own.iload 15 X1 hx (hb hby d4_13) rfl rfl ?_
          refine Own.iloadN 16 X1 hx (hb hby d4_15) rfl rfl ?_
          refine Own.icmp_ge 39 19 X1 hx (hb hby d4_16) (by decide) rfl (fun tk => ?_) (fun tk => absurd tk (by decide))
          refine Own.iloadN 40 X1 hx (hb hby d4_39) rfl rfl ?_
          refine Own.newArr 42 2 X1 hx hZ (w 5 rfl) e1 (by decide) (by decide) (by decide) (hb hby d4_40) rfl (by decide) (by decide) ?_
          intro T190 h190 r k190 z190 X190 e190 E190 A190
          have ne_a_r : a ≠ r := Nat.ne_of_lt (Nat.lt_of_lt_of_le F3.lt (Nat.le_of_eq z190.symm))
          have ne_b_r : b ≠ r := Nat.ne_of_lt (Nat.lt_of_lt_of_le V1.lt (Nat.le_of_eq z190.symm))
          have g_r : n0 ≤ r := Nat.le_trans Z0 (Nat.le_of_eq z190.symm)
          have sz_r : h0.size ≤ r := Nat.le_trans (Keep.refl h0 []).1 (Nat.le_of_eq z190.symm)
          have K190 := (Keep.refl h0 []).ext E190
          have Ff_192 := F3.ext E190
          have Vf_193 := V1.ext E190
          have zl190 := Nat.le_trans Z0 E190.1
          have V190 : Arv Z h190 r k190 .int (2 : Int32) [(.int (0 : Int32)), (.int (0 : Int32))] (.int (0 : Int32)) := A190
          refine Own.astoreN 43 #[.val (.ref a), .val (.int (2 : Int32)), .val (.ref r), .val (.int (4 : Int32)), .val (.int (4 : Int32)), .val (.int v3), .unset, .unset] X190 hx (hb hby d4_42) rfl rfl rfl ?_
          refine Own.iconst 44 X190 hx ((0 : Int32)) (hb hby d4_43) rfl rfl ?_
          refine Own.istoreNV 45 #[.val (.ref a), .val (.int (2 : Int32)), .val (.ref r), .val (.int (0 : Int32)), .val (.int (4 : Int32)), .val (.int v3), .unset, .unset] X190 hx (hb hby d4_44) rfl rfl ?_
          refine Own.aloadN 46 X190 hx (hb hby d4_45) rfl rfl rfl ?_
          refine Own.getFld 49 X190 hx hZ hown (host := "") (Or.inl (w 29 rfl)) Via.refl e190 Ff_192 (hb hby d4_46) rfl ?_
          intro T194 X194 e194
          refine Own.astore 51 #[.val (.ref a), .val (.int (2 : Int32)), .val (.ref r), .val (.int (0 : Int32)), .val (.ref b), .val (.int v3), .unset, .unset] X194 hx (hb hby d4_49) rfl rfl rfl ?_
          refine Own.aload 53 X194 hx (hb hby d4_51) rfl rfl rfl ?_
          refine Own.arrLen 54 X194 hx hZ e194 Vf_193 (hb hby d4_53) rfl ?_
          refine Own.istoreV 56 #[.val (.ref a), .val (.int (2 : Int32)), .val (.ref r), .val (.int (0 : Int32)), .val (.ref b), .val (.int (4 : Int32)), .unset, .unset] X194 hx (hb hby d4_54) rfl rfl ?_
          refine Own.iconst 57 X194 hx ((0 : Int32)) (hb hby d4_56) rfl rfl ?_
          refine Own.istoreV 59 #[.val (.ref a), .val (.int (2 : Int32)), .val (.ref r), .val (.int (0 : Int32)), .val (.ref b), .val (.int (4 : Int32)), .val (.int (0 : Int32)), .unset] X194 hx (hb hby d4_57) rfl rfl ?_
          refine Own.iload 61 X194 hx (hb hby d4_59) rfl rfl ?_
          refine Own.iload 63 X194 hx (hb hby d4_61) rfl rfl ?_
          refine Own.icmp_ge 92 66 X194 hx (hb hby d4_63) (by decide) rfl (fun tk => absurd tk (by decide)) (fun tk => ?_)
          refine Own.aload 68 X194 hx (hb hby d4_66) rfl rfl rfl ?_
          refine Own.iload 70 X194 hx (hb hby d4_68) rfl rfl ?_
          refine Own.iaload 71 X194 hx hZ e194 (v0) Vf_193 (by decide) rfl (hb hby d4_70) rfl ?_
          refine Own.istoreV 73 #[.val (.ref a), .val (.int (2 : Int32)), .val (.ref r), .val (.int (0 : Int32)), .val (.ref b), .val (.int (4 : Int32)), .val (.int (0 : Int32)), .val (.int v0)] X194 hx (hb hby d4_71) rfl rfl ?_
          refine Own.iload 75 X194 hx (hb hby d4_73) rfl rfl ?_
          refine Own.if_lt 86 78 X194 hx (hb hby d4_75) (by decide) rfl (fun tk => absurd tk q0) (fun tk => ?_)
          refine Own.aloadN 79 X194 hx (hb hby d4_78) rfl rfl rfl ?_
          refine Own.iloadN 80 X194 hx (hb hby d4_79) rfl rfl ?_
          refine Own.iinc 83 (fun c_195 => #[.val (.ref a), .val (.int (2 : Int32)), .val (.ref r), .val (.int c_195), .val (.ref b), .val (.int (4 : Int32)), .val (.int (0 : Int32)), .val (.int v0)]) X194 hx ((1 : Int32)) (hb hby d4_80) rfl rfl rfl (fun _ => rfl) fun c_195 hc_195 => ?_
          obtain rfl : c_195 = (1 : Int32) := hc_195.trans (by decide)
          refine Own.iload 85 X194 hx (hb hby d4_83) rfl rfl ?_
          refine Own.iastore 86 X194 hx hZ e194 V190 (by decide) (Nat.le_of_ble_eq_true rfl) (hb hby d4_85) rfl ?_
          intro T196 h196 X196 e196 W196 A196
          have N196 := Fr.snoc X196 N0 g_r
          have Ff_198 := Ff_192.other W196 (Or.inl ne_a_r)
          have Vf_199 := Vf_193.other W196 ne_b_r
          have zl196 := Nat.le_trans zl190 (Nat.le_of_eq W196.size.symm)
          have K196 := K190.wr W196 (Or.inr sz_r)
          have V196 : Arv Z h196 r k190 .int (2 : Int32) [(.int v0), (.int (0 : Int32))] (.int (0 : Int32)) := A196
          refine Own.iinc 89 (fun c_201 => #[.val (.ref a), .val (.int (2 : Int32)), .val (.ref r), .val (.int (1 : Int32)), .val (.ref b), .val (.int (4 : Int32)), .val (.int c_201), .val (.int v0)]) X196 hx ((1 : Int32)) (hb hby d4_86) rfl rfl rfl (fun _ => rfl) fun c_201 hc_201 => ?_
          obtain rfl : c_201 = (1 : Int32) := hc_201.trans (by decide)
          refine Own.goto 59 X196 hx (hb hby d4_89) (by decide) ?_
          refine Own.iload 61 X196 hx (hb hby d4_59) rfl rfl ?_
          refine Own.iload 63 X196 hx (hb hby d4_61) rfl rfl ?_
          refine Own.icmp_ge 92 66 X196 hx (hb hby d4_63) (by decide) rfl (fun tk => absurd tk (by decide)) (fun tk => ?_)
          refine Own.aload 68 X196 hx (hb hby d4_66) rfl rfl rfl ?_
          refine Own.iload 70 X196 hx (hb hby d4_68) rfl rfl ?_
          refine Own.iaload 71 X196 hx hZ e196 (v1) Vf_199 (by decide) rfl (hb hby d4_70) rfl ?_
          refine Own.istoreV 73 #[.val (.ref a), .val (.int (2 : Int32)), .val (.ref r), .val (.int (1 : Int32)), .val (.ref b), .val (.int (4 : Int32)), .val (.int (1 : Int32)), .val (.int v1)] X196 hx (hb hby d4_71) rfl rfl ?_
          refine Own.iload 75 X196 hx (hb hby d4_73) rfl rfl ?_
          refine Own.if_lt 86 78 X196 hx (hb hby d4_75) (by decide) rfl (fun tk => ?_) (fun tk => absurd q1 tk)
          refine Own.iinc 89 (fun c_202 => #[.val (.ref a), .val (.int (2 : Int32)), .val (.ref r), .val (.int (1 : Int32)), .val (.ref b), .val (.int (4 : Int32)), .val (.int c_202), .val (.int v1)]) X196 hx ((1 : Int32)) (hb hby d4_86) rfl rfl rfl (fun _ => rfl) fun c_202 hc_202 => ?_
          obtain rfl : c_202 = (2 : Int32) := hc_202.trans (by decide)
          refine Own.goto 59 X196 hx (hb hby d4_89) (by decide) ?_
          refine Own.iload 61 X196 hx (hb hby d4_59) rfl rfl ?_
          refine Own.iload 63 X196 hx (hb hby d4_61) rfl rfl ?_
          refine Own.icmp_ge 92 66 X196 hx (hb hby d4_63) (by decide) rfl (fun tk => absurd tk (by decide)) (fun tk => ?_)
          refine Own.aload 68 X196 hx (hb hby d4_66) rfl rfl rfl ?_
          refine Own.iload 70 X196 hx (hb hby d4_68) rfl rfl ?_
          refine Own.iaload 71 X196 hx hZ e196 (v2) Vf_199 (by decide) rfl (hb hby d4_70) rfl ?_
          refine Own.istoreV 73 #[.val (.ref a), .val (.int (2 : Int32)), .val (.ref r), .val (.int (1 : Int32)), .val (.ref b), .val (.int (4 : Int32)), .val (.int (2 : Int32)), .val (.int v2)] X196 hx (hb hby d4_71) rfl rfl ?_
          refine Own.iload 75 X196 hx (hb hby d4_73) rfl rfl ?_
          refine Own.if_lt 86 78 X196 hx (hb hby d4_75) (by decide) rfl (fun tk => ?_) (fun tk => absurd q2 tk)
          refine Own.iinc 89 (fun c_203 => #[.val (.ref a), .val (.int (2 : Int32)), .val (.ref r), .val (.int (1 : Int32)), .val (.ref b), .val (.int (4 : Int32)), .val (.int c_203), .val (.int v2)]) X196 hx ((1 : Int32)) (hb hby d4_86) rfl rfl rfl (fun _ => rfl) fun c_203 hc_203 => ?_
          obtain rfl : c_203 = (3 : Int32) := hc_203.trans (by decide)
          refine Own.goto 59 X196 hx (hb hby d4_89) (by decide) ?_
          refine Own.iload 61 X196 hx (hb hby d4_59) rfl rfl ?_
          refine Own.iload 63 X196 hx (hb hby d4_61) rfl rfl ?_
          refine Own.icmp_ge 92 66 X196 hx (hb hby d4_63) (by decide) rfl (fun tk => absurd tk (by decide)) (fun tk => ?_)
          refine Own.aload 68 X196 hx (hb hby d4_66) rfl rfl rfl ?_
          refine Own.iload 70 X196 hx (hb hby d4_68) rfl rfl ?_
          refine Own.iaload 71 X196 hx hZ e196 (v3) Vf_199 (by decide) rfl (hb hby d4_70) rfl ?_
          refine Own.istoreV 73 #[.val (.ref a), .val (.int (2 : Int32)), .val (.ref r), .val (.int (1 : Int32)), .val (.ref b), .val (.int (4 : Int32)), .val (.int (3 : Int32)), .val (.int v3)] X196 hx (hb hby d4_71) rfl rfl ?_
          refine Own.iload 75 X196 hx (hb hby d4_73) rfl rfl ?_
          refine Own.if_lt 86 78 X196 hx (hb hby d4_75) (by decide) rfl (fun tk => absurd tk q3) (fun tk => ?_)
          refine Own.aloadN 79 X196 hx (hb hby d4_78) rfl rfl rfl ?_
          refine Own.iloadN 80 X196 hx (hb hby d4_79) rfl rfl ?_
          refine Own.iinc 83 (fun c_204 => #[.val (.ref a), .val (.int (2 : Int32)), .val (.ref r), .val (.int c_204), .val (.ref b), .val (.int (4 : Int32)), .val (.int (3 : Int32)), .val (.int v3)]) X196 hx ((1 : Int32)) (hb hby d4_80) rfl rfl rfl (fun _ => rfl) fun c_204 hc_204 => ?_
          obtain rfl : c_204 = (2 : Int32) := hc_204.trans (by decide)
          refine Own.iload 85 X196 hx (hb hby d4_83) rfl rfl ?_
          refine Own.iastore 86 X196 hx hZ e196 V196 (by decide) (Nat.le_of_ble_eq_true rfl) (hb hby d4_85) rfl ?_
          intro T205 h205 X205 e205 W205 A205
          have N205 := Fr.snoc X205 N196 g_r
          have Ff_207 := Ff_198.other W205 (Or.inl ne_a_r)
          have Vf_208 := Vf_199.other W205 ne_b_r
          have zl205 := Nat.le_trans zl196 (Nat.le_of_eq W205.size.symm)
          have K205 := K196.wr W205 (Or.inr sz_r)
          have V205 : Arv Z h205 r k190 .int (2 : Int32) [(.int v0), (.int v3)] (.int (0 : Int32)) := A205
          refine Own.iinc 89 (fun c_210 => #[.val (.ref a), .val (.int (2 : Int32)), .val (.ref r), .val (.int (2 : Int32)), .val (.ref b), .val (.int (4 : Int32)), .val (.int c_210), .val (.int v3)]) X205 hx ((1 : Int32)) (hb hby d4_86) rfl rfl rfl (fun _ => rfl) fun c_210 hc_210 => ?_
          obtain rfl : c_210 = (4 : Int32) := hc_210.trans (by decide)
          refine Own.goto 59 X205 hx (hb hby d4_89) (by decide) ?_
          refine Own.iload 61 X205 hx (hb hby d4_59) rfl rfl ?_
          refine Own.iload 63 X205 hx (hb hby d4_61) rfl rfl ?_
          refine Own.icmp_ge 92 66 X205 hx (hb hby d4_63) (by decide) rfl (fun tk => ?_) (fun tk => absurd tk (by decide))
          refine Own.aloadN 93 X205 hx (hb hby d4_92) rfl rfl rfl ?_
          refine Own.retRef X205 hx hlk rfl hret rfl (hb hby d4_93) (by decide) (by decide) ?_
          rw [e205]
          exact ⟨r, k190, [v0, v3], rfl, N205, K205, sz_r, g_r, by rw [own_f, List.filter_cons_of_pos (p := fun x => decide (¬ x < 0)) (decide_eq_true q0), List.filter_cons_of_neg (p := fun x => decide (¬ x < 0)) (by rw [decide_eq_true_iff]; exact fun u => u q1), List.filter_cons_of_neg (p := fun x => decide (¬ x < 0)) (by rw [decide_eq_true_iff]; exact fun u => u q2), List.filter_cons_of_pos (p := fun x => decide (¬ x < 0)) (decide_eq_true q3), List.filter_nil], V205⟩
      ·
        refine Own.iinc 33 (fun c_211 => #[.val (.ref a), .val (.int c_211), .val (.ref b), .val (.int (4 : Int32)), .val (.int (2 : Int32)), .val (.int v2), .unset, .unset]) X1 hx ((1 : Int32)) (hb hby d4_30) rfl rfl rfl (fun _ => rfl) fun c_211 hc_211 => ?_
        obtain rfl : c_211 = (2 : Int32) := hc_211.trans (by decide)
        refine Own.iinc 36 (fun c_212 => #[.val (.ref a), .val (.int (2 : Int32)), .val (.ref b), .val (.int (4 : Int32)), .val (.int c_212), .val (.int v2), .unset, .unset]) X1 hx ((1 : Int32)) (hb hby d4_33) rfl rfl rfl (fun _ => rfl) fun c_212 hc_212 => ?_
        obtain rfl : c_212 = (3 : Int32) := hc_212.trans (by decide)
        refine Own.goto 13 X1 hx (hb hby d4_36) (by decide) ?_
        refine Own.iload 15 X1 hx (hb hby d4_13) rfl rfl ?_
        refine Own.iloadN 16 X1 hx (hb hby d4_15) rfl rfl ?_
        refine Own.icmp_ge 39 19 X1 hx (hb hby d4_16) (by decide) rfl (fun tk => absurd tk (by decide)) (fun tk => ?_)
        refine Own.aloadN 20 X1 hx (hb hby d4_19) rfl rfl rfl ?_
        refine Own.iload 22 X1 hx (hb hby d4_20) rfl rfl ?_
        refine Own.iaload 23 X1 hx hZ e1 (v3) V1 (by decide) rfl (hb hby d4_22) rfl ?_
        refine Own.istoreV 25 #[.val (.ref a), .val (.int (2 : Int32)), .val (.ref b), .val (.int (4 : Int32)), .val (.int (3 : Int32)), .val (.int v3), .unset, .unset] X1 hx (hb hby d4_23) rfl rfl ?_
        refine Own.iload 27 X1 hx (hb hby d4_25) rfl rfl ?_
        refine Own.if_lt 33 30 X1 hx (hb hby d4_27) (by decide) rfl (fun q3 => ?_) (fun q3 => ?_)
        ·
          refine Own.iinc 36 (fun c_213 => #[.val (.ref a), .val (.int (2 : Int32)), .val (.ref b), .val (.int (4 : Int32)), .val (.int c_213), .val (.int v3), .unset, .unset]) X1 hx ((1 : Int32)) (hb hby d4_33) rfl rfl rfl (fun _ => rfl) fun c_213 hc_213 => ?_
          obtain rfl : c_213 = (4 : Int32) := hc_213.trans (by decide)
          refine Own.goto 13 X1 hx (hb hby d4_36) (by decide) ?_
          refine Own.iload 15 X1 hx (hb hby d4_13) rfl rfl ?_
          refine Own.iloadN 16 X1 hx (hb hby d4_15) rfl rfl ?_
          refine Own.icmp_ge 39 19 X1 hx (hb hby d4_16) (by decide) rfl (fun tk => ?_) (fun tk => absurd tk (by decide))
          refine Own.iloadN 40 X1 hx (hb hby d4_39) rfl rfl ?_
          refine Own.newArr 42 2 X1 hx hZ (w 5 rfl) e1 (by decide) (by decide) (by decide) (hb hby d4_40) rfl (by decide) (by decide) ?_
          intro T214 h214 r k214 z214 X214 e214 E214 A214
          have ne_a_r : a ≠ r := Nat.ne_of_lt (Nat.lt_of_lt_of_le F3.lt (Nat.le_of_eq z214.symm))
          have ne_b_r : b ≠ r := Nat.ne_of_lt (Nat.lt_of_lt_of_le V1.lt (Nat.le_of_eq z214.symm))
          have g_r : n0 ≤ r := Nat.le_trans Z0 (Nat.le_of_eq z214.symm)
          have sz_r : h0.size ≤ r := Nat.le_trans (Keep.refl h0 []).1 (Nat.le_of_eq z214.symm)
          have K214 := (Keep.refl h0 []).ext E214
          have Ff_216 := F3.ext E214
          have Vf_217 := V1.ext E214
          have zl214 := Nat.le_trans Z0 E214.1
          have V214 : Arv Z h214 r k214 .int (2 : Int32) [(.int (0 : Int32)), (.int (0 : Int32))] (.int (0 : Int32)) := A214
          refine Own.astoreN 43 #[.val (.ref a), .val (.int (2 : Int32)), .val (.ref r), .val (.int (4 : Int32)), .val (.int (4 : Int32)), .val (.int v3), .unset, .unset] X214 hx (hb hby d4_42) rfl rfl rfl ?_
          refine Own.iconst 44 X214 hx ((0 : Int32)) (hb hby d4_43) rfl rfl ?_
          refine Own.istoreNV 45 #[.val (.ref a), .val (.int (2 : Int32)), .val (.ref r), .val (.int (0 : Int32)), .val (.int (4 : Int32)), .val (.int v3), .unset, .unset] X214 hx (hb hby d4_44) rfl rfl ?_
          refine Own.aloadN 46 X214 hx (hb hby d4_45) rfl rfl rfl ?_
          refine Own.getFld 49 X214 hx hZ hown (host := "") (Or.inl (w 29 rfl)) Via.refl e214 Ff_216 (hb hby d4_46) rfl ?_
          intro T218 X218 e218
          refine Own.astore 51 #[.val (.ref a), .val (.int (2 : Int32)), .val (.ref r), .val (.int (0 : Int32)), .val (.ref b), .val (.int v3), .unset, .unset] X218 hx (hb hby d4_49) rfl rfl rfl ?_
          refine Own.aload 53 X218 hx (hb hby d4_51) rfl rfl rfl ?_
          refine Own.arrLen 54 X218 hx hZ e218 Vf_217 (hb hby d4_53) rfl ?_
          refine Own.istoreV 56 #[.val (.ref a), .val (.int (2 : Int32)), .val (.ref r), .val (.int (0 : Int32)), .val (.ref b), .val (.int (4 : Int32)), .unset, .unset] X218 hx (hb hby d4_54) rfl rfl ?_
          refine Own.iconst 57 X218 hx ((0 : Int32)) (hb hby d4_56) rfl rfl ?_
          refine Own.istoreV 59 #[.val (.ref a), .val (.int (2 : Int32)), .val (.ref r), .val (.int (0 : Int32)), .val (.ref b), .val (.int (4 : Int32)), .val (.int (0 : Int32)), .unset] X218 hx (hb hby d4_57) rfl rfl ?_
          refine Own.iload 61 X218 hx (hb hby d4_59) rfl rfl ?_
          refine Own.iload 63 X218 hx (hb hby d4_61) rfl rfl ?_
          refine Own.icmp_ge 92 66 X218 hx (hb hby d4_63) (by decide) rfl (fun tk => absurd tk (by decide)) (fun tk => ?_)
          refine Own.aload 68 X218 hx (hb hby d4_66) rfl rfl rfl ?_
          refine Own.iload 70 X218 hx (hb hby d4_68) rfl rfl ?_
          refine Own.iaload 71 X218 hx hZ e218 (v0) Vf_217 (by decide) rfl (hb hby d4_70) rfl ?_
          refine Own.istoreV 73 #[.val (.ref a), .val (.int (2 : Int32)), .val (.ref r), .val (.int (0 : Int32)), .val (.ref b), .val (.int (4 : Int32)), .val (.int (0 : Int32)), .val (.int v0)] X218 hx (hb hby d4_71) rfl rfl ?_
          refine Own.iload 75 X218 hx (hb hby d4_73) rfl rfl ?_
          refine Own.if_lt 86 78 X218 hx (hb hby d4_75) (by decide) rfl (fun tk => absurd tk q0) (fun tk => ?_)
          refine Own.aloadN 79 X218 hx (hb hby d4_78) rfl rfl rfl ?_
          refine Own.iloadN 80 X218 hx (hb hby d4_79) rfl rfl ?_
          refine Own.iinc 83 (fun c_219 => #[.val (.ref a), .val (.int (2 : Int32)), .val (.ref r), .val (.int c_219), .val (.ref b), .val (.int (4 : Int32)), .val (.int (0 : Int32)), .val (.int v0)]) X218 hx ((1 : Int32)) (hb hby d4_80) rfl rfl rfl (fun _ => rfl) fun c_219 hc_219 => ?_
          obtain rfl : c_219 = (1 : Int32) := hc_219.trans (by decide)
          refine Own.iload 85 X218 hx (hb hby d4_83) rfl rfl ?_
          refine Own.iastore 86 X218 hx hZ e218 V214 (by decide) (Nat.le_of_ble_eq_true rfl) (hb hby d4_85) rfl ?_
          intro T220 h220 X220 e220 W220 A220
          have N220 := Fr.snoc X220 N0 g_r
          have Ff_222 := Ff_216.other W220 (Or.inl ne_a_r)
          have Vf_223 := Vf_217.other W220 ne_b_r
          have zl220 := Nat.le_trans zl214 (Nat.le_of_eq W220.size.symm)
          have K220 := K214.wr W220 (Or.inr sz_r)
          have V220 : Arv Z h220 r k214 .int (2 : Int32) [(.int v0), (.int (0 : Int32))] (.int (0 : Int32)) := A220
          refine Own.iinc 89 (fun c_225 => #[.val (.ref a), .val (.int (2 : Int32)), .val (.ref r), .val (.int (1 : Int32)), .val (.ref b), .val (.int (4 : Int32)), .val (.int c_225), .val (.int v0)]) X220 hx ((1 : Int32)) (hb hby d4_86) rfl rfl rfl (fun _ => rfl) fun c_225 hc_225 => ?_
          obtain rfl : c_225 = (1 : Int32) := hc_225.trans (by decide)
          refine Own.goto 59 X220 hx (hb hby d4_89) (by decide) ?_
          refine Own.iload 61 X220 hx (hb hby d4_59) rfl rfl ?_
          refine Own.iload 63 X220 hx (hb hby d4_61) rfl rfl ?_
          refine Own.icmp_ge 92 66 X220 hx (hb hby d4_63) (by decide) rfl (fun tk => absurd tk (by decide)) (fun tk => ?_)
          refine Own.aload 68 X220 hx (hb hby d4_66) rfl rfl rfl ?_
          refine Own.iload 70 X220 hx (hb hby d4_68) rfl rfl ?_
          refine Own.iaload 71 X220 hx hZ e220 (v1) Vf_223 (by decide) rfl (hb hby d4_70) rfl ?_
          refine Own.istoreV 73 #[.val (.ref a), .val (.int (2 : Int32)), .val (.ref r), .val (.int (1 : Int32)), .val (.ref b), .val (.int (4 : Int32)), .val (.int (1 : Int32)), .val (.int v1)] X220 hx (hb hby d4_71) rfl rfl ?_
          refine Own.iload 75 X220 hx (hb hby d4_73) rfl rfl ?_
          refine Own.if_lt 86 78 X220 hx (hb hby d4_75) (by decide) rfl (fun tk => ?_) (fun tk => absurd q1 tk)
          refine Own.iinc 89 (fun c_226 => #[.val (.ref a), .val (.int (2 : Int32)), .val (.ref r), .val (.int (1 : Int32)), .val (.ref b), .val (.int (4 : Int32)), .val (.int c_226), .val (.int v1)]) X220 hx ((1 : Int32)) (hb hby d4_86) rfl rfl rfl (fun _ => rfl) fun c_226 hc_226 => ?_
          obtain rfl : c_226 = (2 : Int32) := hc_226.trans (by decide)
          refine Own.goto 59 X220 hx (hb hby d4_89) (by decide) ?_
          refine Own.iload 61 X220 hx (hb hby d4_59) rfl rfl ?_
          refine Own.iload 63 X220 hx (hb hby d4_61) rfl rfl ?_
          refine Own.icmp_ge 92 66 X220 hx (hb hby d4_63) (by decide) rfl (fun tk => absurd tk (by decide)) (fun tk => ?_)
          refine Own.aload 68 X220 hx (hb hby d4_66) rfl rfl rfl ?_
          refine Own.iload 70 X220 hx (hb hby d4_68) rfl rfl ?_
          refine Own.iaload 71 X220 hx hZ e220 (v2) Vf_223 (by decide) rfl (hb hby d4_70) rfl ?_
          refine Own.istoreV 73 #[.val (.ref a), .val (.int (2 : Int32)), .val (.ref r), .val (.int (1 : Int32)), .val (.ref b), .val (.int (4 : Int32)), .val (.int (2 : Int32)), .val (.int v2)] X220 hx (hb hby d4_71) rfl rfl ?_
          refine Own.iload 75 X220 hx (hb hby d4_73) rfl rfl ?_
          refine Own.if_lt 86 78 X220 hx (hb hby d4_75) (by decide) rfl (fun tk => absurd tk q2) (fun tk => ?_)
          refine Own.aloadN 79 X220 hx (hb hby d4_78) rfl rfl rfl ?_
          refine Own.iloadN 80 X220 hx (hb hby d4_79) rfl rfl ?_
          refine Own.iinc 83 (fun c_227 => #[.val (.ref a), .val (.int (2 : Int32)), .val (.ref r), .val (.int c_227), .val (.ref b), .val (.int (4 : Int32)), .val (.int (2 : Int32)), .val (.int v2)]) X220 hx ((1 : Int32)) (hb hby d4_80) rfl rfl rfl (fun _ => rfl) fun c_227 hc_227 => ?_
          obtain rfl : c_227 = (2 : Int32) := hc_227.trans (by decide)
          refine Own.iload 85 X220 hx (hb hby d4_83) rfl rfl ?_
          refine Own.iastore 86 X220 hx hZ e220 V220 (by decide) (Nat.le_of_ble_eq_true rfl) (hb hby d4_85) rfl ?_
          intro T228 h228 X228 e228 W228 A228
          have N228 := Fr.snoc X228 N220 g_r
          have Ff_230 := Ff_222.other W228 (Or.inl ne_a_r)
          have Vf_231 := Vf_223.other W228 ne_b_r
          have zl228 := Nat.le_trans zl220 (Nat.le_of_eq W228.size.symm)
          have K228 := K220.wr W228 (Or.inr sz_r)
          have V228 : Arv Z h228 r k214 .int (2 : Int32) [(.int v0), (.int v2)] (.int (0 : Int32)) := A228
          refine Own.iinc 89 (fun c_233 => #[.val (.ref a), .val (.int (2 : Int32)), .val (.ref r), .val (.int (2 : Int32)), .val (.ref b), .val (.int (4 : Int32)), .val (.int c_233), .val (.int v2)]) X228 hx ((1 : Int32)) (hb hby d4_86) rfl rfl rfl (fun _ => rfl) fun c_233 hc_233 => ?_
          obtain rfl : c_233 = (3 : Int32) := hc_233.trans (by decide)
          refine Own.goto 59 X228 hx (hb hby d4_89) (by decide) ?_
          refine Own.iload 61 X228 hx (hb hby d4_59) rfl rfl ?_
          refine Own.iload 63 X228 hx (hb hby d4_61) rfl rfl ?_
          refine Own.icmp_ge 92 66 X228 hx (hb hby d4_63) (by decide) rfl (fun tk => absurd tk (by decide)) (fun tk => ?_)
          refine Own.aload 68 X228 hx (hb hby d4_66) rfl rfl rfl ?_
          refine Own.iload 70 X228 hx (hb hby d4_68) rfl rfl ?_
          refine Own.iaload 71 X228 hx hZ e228 (v3) Vf_231 (by decide) rfl (hb hby d4_70) rfl ?_
          refine Own.istoreV 73 #[.val (.ref a), .val (.int (2 : Int32)), .val (.ref r), .val (.int (2 : Int32)), .val (.ref b), .val (.int (4 : Int32)), .val (.int (3 : Int32)), .val (.int v3)] X228 hx (hb hby d4_71) rfl rfl ?_
          refine Own.iload 75 X228 hx (hb hby d4_73) rfl rfl ?_
          refine Own.if_lt 86 78 X228 hx (hb hby d4_75) (by decide) rfl (fun tk => ?_) (fun tk => absurd q3 tk)
          refine Own.iinc 89 (fun c_234 => #[.val (.ref a), .val (.int (2 : Int32)), .val (.ref r), .val (.int (2 : Int32)), .val (.ref b), .val (.int (4 : Int32)), .val (.int c_234), .val (.int v3)]) X228 hx ((1 : Int32)) (hb hby d4_86) rfl rfl rfl (fun _ => rfl) fun c_234 hc_234 => ?_
          obtain rfl : c_234 = (4 : Int32) := hc_234.trans (by decide)
          refine Own.goto 59 X228 hx (hb hby d4_89) (by decide) ?_
          refine Own.iload 61 X228 hx (hb hby d4_59) rfl rfl ?_
          refine Own.iload 63 X228 hx (hb hby d4_61) rfl rfl ?_
          refine Own.icmp_ge 92 66 X228 hx (hb hby d4_63) (by decide) rfl (fun tk => ?_) (fun tk => absurd tk (by decide))
          refine Own.aloadN 93 X228 hx (hb hby d4_92) rfl rfl rfl ?_
          refine Own.retRef X228 hx hlk rfl hret rfl (hb hby d4_93) (by decide) (by decide) ?_
          rw [e228]
          exact ⟨r, k214, [v0, v2], rfl, N228, K228, sz_r, g_r, by rw [own_f, List.filter_cons_of_pos (p := fun x => decide (¬ x < 0)) (decide_eq_true q0), List.filter_cons_of_neg (p := fun x => decide (¬ x < 0)) (by rw [decide_eq_true_iff]; exact fun u => u q1), List.filter_cons_of_pos (p := fun x => decide (¬ x < 0)) (decide_eq_true q2), List.filter_cons_of_neg (p := fun x => decide (¬ x < 0)) (by rw [decide_eq_true_iff]; exact fun u => u q3), List.filter_nil], V228⟩
        ·
          refine Own.iinc 33 (fun c_235 => #[.val (.ref a), .val (.int c_235), .val (.ref b), .val (.int (4 : Int32)), .val (.int (3 : Int32)), .val (.int v3), .unset, .unset]) X1 hx ((1 : Int32)) (hb hby d4_30) rfl rfl rfl (fun _ => rfl) fun c_235 hc_235 => ?_
          obtain rfl : c_235 = (3 : Int32) := hc_235.trans (by decide)
          refine Own.iinc 36 (fun c_236 => #[.val (.ref a), .val (.int (3 : Int32)), .val (.ref b), .val (.int (4 : Int32)), .val (.int c_236), .val (.int v3), .unset, .unset]) X1 hx ((1 : Int32)) (hb hby d4_33) rfl rfl rfl (fun _ => rfl) fun c_236 hc_236 => ?_
          obtain rfl : c_236 = (4 : Int32) := hc_236.trans (by decide)
          refine Own.goto 13 X1 hx (hb hby d4_36) (by decide) ?_
          refine Own.iload 15 X1 hx (hb hby d4_13) rfl rfl ?_
          refine Own.iloadN 16 X1 hx (hb hby d4_15) rfl rfl ?_
          refine Own.icmp_ge 39 19 X1 hx (hb hby d4_16) (by decide) rfl (fun tk => ?_) (fun tk => absurd tk (by decide))
          refine Own.iloadN 40 X1 hx (hb hby d4_39) rfl rfl ?_
          refine Own.newArr 42 3 X1 hx hZ (w 5 rfl) e1 (by decide) (by decide) (by decide) (hb hby d4_40) rfl (by decide) (by decide) ?_
          intro T237 h237 r k237 z237 X237 e237 E237 A237
          have ne_a_r : a ≠ r := Nat.ne_of_lt (Nat.lt_of_lt_of_le F3.lt (Nat.le_of_eq z237.symm))
          have ne_b_r : b ≠ r := Nat.ne_of_lt (Nat.lt_of_lt_of_le V1.lt (Nat.le_of_eq z237.symm))
          have g_r : n0 ≤ r := Nat.le_trans Z0 (Nat.le_of_eq z237.symm)
          have sz_r : h0.size ≤ r := Nat.le_trans (Keep.refl h0 []).1 (Nat.le_of_eq z237.symm)
          have K237 := (Keep.refl h0 []).ext E237
          have Ff_239 := F3.ext E237
          have Vf_240 := V1.ext E237
          have zl237 := Nat.le_trans Z0 E237.1
          have V237 : Arv Z h237 r k237 .int (3 : Int32) [(.int (0 : Int32)), (.int (0 : Int32)), (.int (0 : Int32))] (.int (0 : Int32)) := A237
          refine Own.astoreN 43 #[.val (.ref a), .val (.int (3 : Int32)), .val (.ref r), .val (.int (4 : Int32)), .val (.int (4 : Int32)), .val (.int v3), .unset, .unset] X237 hx (hb hby d4_42) rfl rfl rfl ?_
          refine Own.iconst 44 X237 hx ((0 : Int32)) (hb hby d4_43) rfl rfl ?_
          refine Own.istoreNV 45 #[.val (.ref a), .val (.int (3 : Int32)), .val (.ref r), .val (.int (0 : Int32)), .val (.int (4 : Int32)), .val (.int v3), .unset, .unset] X237 hx (hb hby d4_44) rfl rfl ?_
          refine Own.aloadN 46 X237 hx (hb hby d4_45) rfl rfl rfl ?_
          refine Own.getFld 49 X237 hx hZ hown (host := "") (Or.inl (w 29 rfl)) Via.refl e237 Ff_239 (hb hby d4_46) rfl ?_
          intro T241 X241 e241
          refine Own.astore 51 #[.val (.ref a), .val (.int (3 : Int32)), .val (.ref r), .val (.int (0 : Int32)), .val (.ref b), .val (.int v3), .unset, .unset] X241 hx (hb hby d4_49) rfl rfl rfl ?_
          refine Own.aload 53 X241 hx (hb hby d4_51) rfl rfl rfl ?_
          refine Own.arrLen 54 X241 hx hZ e241 Vf_240 (hb hby d4_53) rfl ?_
          refine Own.istoreV 56 #[.val (.ref a), .val (.int (3 : Int32)), .val (.ref r), .val (.int (0 : Int32)), .val (.ref b), .val (.int (4 : Int32)), .unset, .unset] X241 hx (hb hby d4_54) rfl rfl ?_
          refine Own.iconst 57 X241 hx ((0 : Int32)) (hb hby d4_56) rfl rfl ?_
          refine Own.istoreV 59 #[.val (.ref a), .val (.int (3 : Int32)), .val (.ref r), .val (.int (0 : Int32)), .val (.ref b), .val (.int (4 : Int32)), .val (.int (0 : Int32)), .unset] X241 hx (hb hby d4_57) rfl rfl ?_
          refine Own.iload 61 X241 hx (hb hby d4_59) rfl rfl ?_
          refine Own.iload 63 X241 hx (hb hby d4_61) rfl rfl ?_
          refine Own.icmp_ge 92 66 X241 hx (hb hby d4_63) (by decide) rfl (fun tk => absurd tk (by decide)) (fun tk => ?_)
          refine Own.aload 68 X241 hx (hb hby d4_66) rfl rfl rfl ?_
          refine Own.iload 70 X241 hx (hb hby d4_68) rfl rfl ?_
          refine Own.iaload 71 X241 hx hZ e241 (v0) Vf_240 (by decide) rfl (hb hby d4_70) rfl ?_
          refine Own.istoreV 73 #[.val (.ref a), .val (.int (3 : Int32)), .val (.ref r), .val (.int (0 : Int32)), .val (.ref b), .val (.int (4 : Int32)), .val (.int (0 : Int32)), .val (.int v0)] X241 hx (hb hby d4_71) rfl rfl ?_
          refine Own.iload 75 X241 hx (hb hby d4_73) rfl rfl ?_
          refine Own.if_lt 86 78 X241 hx (hb hby d4_75) (by decide) rfl (fun tk => absurd tk q0) (fun tk => ?_)
          refine Own.aloadN 79 X241 hx (hb hby d4_78) rfl rfl rfl ?_
          refine Own.iloadN 80 X241 hx (hb hby d4_79) rfl rfl ?_
          refine Own.iinc 83 (fun c_242 => #[.val (.ref a), .val (.int (3 : Int32)), .val (.ref r), .val (.int c_242), .val (.ref b), .val (.int (4 : Int32)), .val (.int (0 : Int32)), .val (.int v0)]) X241 hx ((1 : Int32)) (hb hby d4_80) rfl rfl rfl (fun _ => rfl) fun c_242 hc_242 => ?_
          obtain rfl : c_242 = (1 : Int32) := hc_242.trans (by decide)
          refine Own.iload 85 X241 hx (hb hby d4_83) rfl rfl ?_
          refine Own.iastore 86 X241 hx hZ e241 V237 (by decide) (Nat.le_of_ble_eq_true rfl) (hb hby d4_85) rfl ?_
          intro T243 h243 X243 e243 W243 A243
          have N243 := Fr.snoc X243 N0 g_r
          have Ff_245 := Ff_239.other W243 (Or.inl ne_a_r)
          have Vf_246 := Vf_240.other W243 ne_b_r
          have zl243 := Nat.le_trans zl237 (Nat.le_of_eq W243.size.symm)
          have K243 := K237.wr W243 (Or.inr sz_r)
          have V243 : Arv Z h243 r k237 .int (3 : Int32) [(.int v0), (.int (0 : Int32)), (.int (0 : Int32))] (.int (0 : Int32)) := A243
          refine Own.iinc 89 (fun c_248 => #[.val (.ref a), .val (.int (3 : Int32)), .val (.ref r), .val (.int (1 : Int32)), .val (.ref b), .val (.int (4 : Int32)), .val (.int c_248), .val (.int v0)]) X243 hx ((1 : Int32)) (hb hby d4_86) rfl rfl rfl (fun _ => rfl) fun c_248 hc_248 => ?_
          obtain rfl : c_248 = (1 : Int32) := hc_248.trans (by decide)
          refine Own.goto 59 X243 hx (hb hby d4_89) (by decide) ?_
          refine Own.iload 61 X243 hx (hb hby d4_59) rfl rfl ?_
          refine Own.iload 63 X243 hx (hb hby d4_61) rfl rfl ?_
          refine Own.icmp_ge 92 66 X243 hx (hb hby d4_63) (by decide) rfl (fun tk => absurd tk (by decide)) (fun tk => ?_)
          refine Own.aload 68 X243 hx (hb hby d4_66) rfl rfl rfl ?_
          refine Own.iload 70 X243 hx (hb hby d4_68) rfl rfl ?_
          refine Own.iaload 71 X243 hx hZ e243 (v1) Vf_246 (by decide) rfl (hb hby d4_70) rfl ?_
          refine Own.istoreV 73 #[.val (.ref a), .val (.int (3 : Int32)), .val (.ref r), .val (.int (1 : Int32)), .val (.ref b), .val (.int (4 : Int32)), .val (.int (1 : Int32)), .val (.int v1)] X243 hx (hb hby d4_71) rfl rfl ?_
          refine Own.iload 75 X243 hx (hb hby d4_73) rfl rfl ?_
          refine Own.if_lt 86 78 X243 hx (hb hby d4_75) (by decide) rfl (fun tk => ?_) (fun tk => absurd q1 tk)
          refine Own.iinc 89 (fun c_249 => #[.val (.ref a), .val (.int (3 : Int32)), .val (.ref r), .val (.int (1 : Int32)), .val (.ref b), .val (.int (4 : Int32)), .val (.int c_249), .val (.int v1)]) X243 hx ((1 : Int32)) (hb hby d4_86) rfl rfl rfl (fun _ => rfl) fun c_249 hc_249 => ?_
          obtain rfl : c_249 = (2 : Int32) := hc_249.trans (by decide)
          refine Own.goto 59 X243 hx (hb hby d4_89) (by decide) ?_
          refine Own.iload 61 X243 hx (hb hby d4_59) rfl rfl ?_
          refine Own.iload 63 X243 hx (hb hby d4_61) rfl rfl ?_
          refine Own.icmp_ge 92 66 X243 hx (hb hby d4_63) (by decide) rfl (fun tk => absurd tk (by decide)) (fun tk => ?_)
          refine Own.aload 68 X243 hx (hb hby d4_66) rfl rfl rfl ?_
          refine Own.iload 70 X243 hx (hb hby d4_68) rfl rfl ?_
          refine Own.iaload 71 X243 hx hZ e243 (v2) Vf_246 (by decide) rfl (hb hby d4_70) rfl ?_
          refine Own.istoreV 73 #[.val (.ref a), .val (.int (3 : Int32)), .val (.ref r), .val (.int (1 : Int32)), .val (.ref b), .val (.int (4 : Int32)), .val (.int (2 : Int32)), .val (.int v2)] X243 hx (hb hby d4_71) rfl rfl ?_
          refine Own.iload 75 X243 hx (hb hby d4_73) rfl rfl ?_
          refine Own.if_lt 86 78 X243 hx (hb hby d4_75) (by decide) rfl (fun tk => absurd tk q2) (fun tk => ?_)
          refine Own.aloadN 79 X243 hx (hb hby d4_78) rfl rfl rfl ?_
          refine Own.iloadN 80 X243 hx (hb hby d4_79) rfl rfl ?_
          refine Own.iinc 83 (fun c_250 => #[.val (.ref a), .val (.int (3 : Int32)), .val (.ref r), .val (.int c_250), .val (.ref b), .val (.int (4 : Int32)), .val (.int (2 : Int32)), .val (.int v2)]) X243 hx ((1 : Int32)) (hb hby d4_80) rfl rfl rfl (fun _ => rfl) fun c_250 hc_250 => ?_
          obtain rfl : c_250 = (2 : Int32) := hc_250.trans (by decide)
          refine Own.iload 85 X243 hx (hb hby d4_83) rfl rfl ?_
          refine Own.iastore 86 X243 hx hZ e243 V243 (by decide) (Nat.le_of_ble_eq_true rfl) (hb hby d4_85) rfl ?_
          intro T251 h251 X251 e251 W251 A251
          have N251 := Fr.snoc X251 N243 g_r
          have Ff_253 := Ff_245.other W251 (Or.inl ne_a_r)
          have Vf_254 := Vf_246.other W251 ne_b_r
          have zl251 := Nat.le_trans zl243 (Nat.le_of_eq W251.size.symm)
          have K251 := K243.wr W251 (Or.inr sz_r)
          have V251 : Arv Z h251 r k237 .int (3 : Int32) [(.int v0), (.int v2), (.int (0 : Int32))] (.int (0 : Int32)) := A251
          refine Own.iinc 89 (fun c_256 => #[.val (.ref a), .val (.int (3 : Int32)), .val (.ref r), .val (.int (2 : Int32)), .val (.ref b), .val (.int (4 : Int32)), .val (.int c_256), .val (.int v2)]) X251 hx ((1 : Int32)) (hb hby d4_86) rfl rfl rfl (fun _ => rfl) fun c_256 hc_256 => ?_
          obtain rfl : c_256 = (3 : Int32) := hc_256.trans (by decide)
          refine Own.goto 59 X251 hx (hb hby d4_89) (by decide) ?_
          refine Own.iload 61 X251 hx (hb hby d4_59) rfl rfl ?_
          refine Own.iload 63 X251 hx (hb hby d4_61) rfl rfl ?_
          refine Own.icmp_ge 92 66 X251 hx (hb hby d4_63) (by decide) rfl (fun tk => absurd tk (by decide)) (fun tk => ?_)
          refine Own.aload 68 X251 hx (hb hby d4_66) rfl rfl rfl ?_
          refine Own.iload 70 X251 hx (hb hby d4_68) rfl rfl ?_
          refine Own.iaload 71 X251 hx hZ e251 (v3) Vf_254 (by decide) rfl (hb hby d4_70) rfl ?_
          refine Own.istoreV 73 #[.val (.ref a), .val (.int (3 : Int32)), .val (.ref r), .val (.int (2 : Int32)), .val (.ref b), .val (.int (4 : Int32)), .val (.int (3 : Int32)), .val (.int v3)] X251 hx (hb hby d4_71) rfl rfl ?_
          refine Own.iload 75 X251 hx (hb hby d4_73) rfl rfl ?_
          refine Own.if_lt 86 78 X251 hx (hb hby d4_75) (by decide) rfl (fun tk => absurd tk q3) (fun tk => ?_)
          refine Own.aloadN 79 X251 hx (hb hby d4_78) rfl rfl rfl ?_
          refine Own.iloadN 80 X251 hx (hb hby d4_79) rfl rfl ?_
          refine Own.iinc 83 (fun c_257 => #[.val (.ref a), .val (.int (3 : Int32)), .val (.ref r), .val (.int c_257), .val (.ref b), .val (.int (4 : Int32)), .val (.int (3 : Int32)), .val (.int v3)]) X251 hx ((1 : Int32)) (hb hby d4_80) rfl rfl rfl (fun _ => rfl) fun c_257 hc_257 => ?_
          obtain rfl : c_257 = (3 : Int32) := hc_257.trans (by decide)
          refine Own.iload 85 X251 hx (hb hby d4_83) rfl rfl ?_
          refine Own.iastore 86 X251 hx hZ e251 V251 (by decide) (Nat.le_of_ble_eq_true rfl) (hb hby d4_85) rfl ?_
          intro T258 h258 X258 e258 W258 A258
          have N258 := Fr.snoc X258 N251 g_r
          have Ff_260 := Ff_253.other W258 (Or.inl ne_a_r)
          have Vf_261 := Vf_254.other W258 ne_b_r
          have zl258 := Nat.le_trans zl251 (Nat.le_of_eq W258.size.symm)
          have K258 := K251.wr W258 (Or.inr sz_r)
          have V258 : Arv Z h258 r k237 .int (3 : Int32) [(.int v0), (.int v2), (.int v3)] (.int (0 : Int32)) := A258
          refine Own.iinc 89 (fun c_263 => #[.val (.ref a), .val (.int (3 : Int32)), .val (.ref r), .val (.int (3 : Int32)), .val (.ref b), .val (.int (4 : Int32)), .val (.int c_263), .val (.int v3)]) X258 hx ((1 : Int32)) (hb hby d4_86) rfl rfl rfl (fun _ => rfl) fun c_263 hc_263 => ?_
          obtain rfl : c_263 = (4 : Int32) := hc_263.trans (by decide)
          refine Own.goto 59 X258 hx (hb hby d4_89) (by decide) ?_
          refine Own.iload 61 X258 hx (hb hby d4_59) rfl rfl ?_
          refine Own.iload 63 X258 hx (hb hby d4_61) rfl rfl ?_
          refine Own.icmp_ge 92 66 X258 hx (hb hby d4_63) (by decide) rfl (fun tk => ?_) (fun tk => absurd tk (by decide))
          refine Own.aloadN 93 X258 hx (hb hby d4_92) rfl rfl rfl ?_
          refine Own.retRef X258 hx hlk rfl hret rfl (hb hby d4_93) (by decide) (by decide) ?_
          rw [e258]
          exact ⟨r, k237, [v0, v2, v3], rfl, N258, K258, sz_r, g_r, by rw [own_f, List.filter_cons_of_pos (p := fun x => decide (¬ x < 0)) (decide_eq_true q0), List.filter_cons_of_neg (p := fun x => decide (¬ x < 0)) (by rw [decide_eq_true_iff]; exact fun u => u q1), List.filter_cons_of_pos (p := fun x => decide (¬ x < 0)) (decide_eq_true q2), List.filter_cons_of_pos (p := fun x => decide (¬ x < 0)) (decide_eq_true q3), List.filter_nil], V258⟩
    ·
      refine Own.iinc 33 (fun c_264 => #[.val (.ref a), .val (.int c_264), .val (.ref b), .val (.int (4 : Int32)), .val (.int (1 : Int32)), .val (.int v1), .unset, .unset]) X1 hx ((1 : Int32)) (hb hby d4_30) rfl rfl rfl (fun _ => rfl) fun c_264 hc_264 => ?_
      obtain rfl : c_264 = (2 : Int32) := hc_264.trans (by decide)
      refine Own.iinc 36 (fun c_265 => #[.val (.ref a), .val (.int (2 : Int32)), .val (.ref b), .val (.int (4 : Int32)), .val (.int c_265), .val (.int v1), .unset, .unset]) X1 hx ((1 : Int32)) (hb hby d4_33) rfl rfl rfl (fun _ => rfl) fun c_265 hc_265 => ?_
      obtain rfl : c_265 = (2 : Int32) := hc_265.trans (by decide)
      refine Own.goto 13 X1 hx (hb hby d4_36) (by decide) ?_
      refine Own.iload 15 X1 hx (hb hby d4_13) rfl rfl ?_
      refine Own.iloadN 16 X1 hx (hb hby d4_15) rfl rfl ?_
      refine Own.icmp_ge 39 19 X1 hx (hb hby d4_16) (by decide) rfl (fun tk => absurd tk (by decide)) (fun tk => ?_)
      refine Own.aloadN 20 X1 hx (hb hby d4_19) rfl rfl rfl ?_
      refine Own.iload 22 X1 hx (hb hby d4_20) rfl rfl ?_
      refine Own.iaload 23 X1 hx hZ e1 (v2) V1 (by decide) rfl (hb hby d4_22) rfl ?_
      refine Own.istoreV 25 #[.val (.ref a), .val (.int (2 : Int32)), .val (.ref b), .val (.int (4 : Int32)), .val (.int (2 : Int32)), .val (.int v2), .unset, .unset] X1 hx (hb hby d4_23) rfl rfl ?_
      refine Own.iload 27 X1 hx (hb hby d4_25) rfl rfl ?_
      refine Own.if_lt 33 30 X1 hx (hb hby d4_27) (by decide) rfl (fun q2 => ?_) (fun q2 => ?_)
      ·
        refine Own.iinc 36 (fun c_266 => #[.val (.ref a), .val (.int (2 : Int32)), .val (.ref b), .val (.int (4 : Int32)), .val (.int c_266), .val (.int v2), .unset, .unset]) X1 hx ((1 : Int32)) (hb hby d4_33) rfl rfl rfl (fun _ => rfl) fun c_266 hc_266 => ?_
        obtain rfl : c_266 = (3 : Int32) := hc_266.trans (by decide)
        refine Own.goto 13 X1 hx (hb hby d4_36) (by decide) ?_
        refine Own.iload 15 X1 hx (hb hby d4_13) rfl rfl ?_
        refine Own.iloadN 16 X1 hx (hb hby d4_15) rfl rfl ?_
        refine Own.icmp_ge 39 19 X1 hx (hb hby d4_16) (by decide) rfl (fun tk => absurd tk (by decide)) (fun tk => ?_)
        refine Own.aloadN 20 X1 hx (hb hby d4_19) rfl rfl rfl ?_
        refine Own.iload 22 X1 hx (hb hby d4_20) rfl rfl ?_
        refine Own.iaload 23 X1 hx hZ e1 (v3) V1 (by decide) rfl (hb hby d4_22) rfl ?_
        refine Own.istoreV 25 #[.val (.ref a), .val (.int (2 : Int32)), .val (.ref b), .val (.int (4 : Int32)), .val (.int (3 : Int32)), .val (.int v3), .unset, .unset] X1 hx (hb hby d4_23) rfl rfl ?_
        refine Own.iload 27 X1 hx (hb hby d4_25) rfl rfl ?_
        refine Own.if_lt 33 30 X1 hx (hb hby d4_27) (by decide) rfl (fun q3 => ?_) (fun q3 => ?_)
        ·
          refine Own.iinc 36 (fun c_267 => #[.val (.ref a), .val (.int (2 : Int32)), .val (.ref b), .val (.int (4 : Int32)), .val (.int c_267), .val (.int v3), .unset, .unset]) X1 hx ((1 : Int32)) (hb hby d4_33) rfl rfl rfl (fun _ => rfl) fun c_267 hc_267 => ?_
          obtain rfl : c_267 = (4 : Int32) := hc_267.trans (by decide)
          refine Own.goto 13 X1 hx (hb hby d4_36) (by decide) ?_
          refine Own.iload 15 X1 hx (hb hby d4_13) rfl rfl ?_
          refine Own.iloadN 16 X1 hx (hb hby d4_15) rfl rfl ?_
          refine Own.icmp_ge 39 19 X1 hx (hb hby d4_16) (by decide) rfl (fun tk => ?_) (fun tk => absurd tk (by decide))
          refine Own.iloadN 40 X1 hx (hb hby d4_39) rfl rfl ?_
          refine Own.newArr 42 2 X1 hx hZ (w 5 rfl) e1 (by decide) (by decide) (by decide) (hb hby d4_40) rfl (by decide) (by decide) ?_
          intro T268 h268 r k268 z268 X268 e268 E268 A268
          have ne_a_r : a ≠ r := Nat.ne_of_lt (Nat.lt_of_lt_of_le F3.lt (Nat.le_of_eq z268.symm))
          have ne_b_r : b ≠ r := Nat.ne_of_lt (Nat.lt_of_lt_of_le V1.lt (Nat.le_of_eq z268.symm))
          have g_r : n0 ≤ r := Nat.le_trans Z0 (Nat.le_of_eq z268.symm)
          have sz_r : h0.size ≤ r := Nat.le_trans (Keep.refl h0 []).1 (Nat.le_of_eq z268.symm)
          have K268 := (Keep.refl h0 []).ext E268
          have Ff_270 := F3.ext E268
          have Vf_271 := V1.ext E268
          have zl268 := Nat.le_trans Z0 E268.1
          have V268 : Arv Z h268 r k268 .int (2 : Int32) [(.int (0 : Int32)), (.int (0 : Int32))] (.int (0 : Int32)) := A268
          refine Own.astoreN 43 #[.val (.ref a), .val (.int (2 : Int32)), .val (.ref r), .val (.int (4 : Int32)), .val (.int (4 : Int32)), .val (.int v3), .unset, .unset] X268 hx (hb hby d4_42) rfl rfl rfl ?_
          refine Own.iconst 44 X268 hx ((0 : Int32)) (hb hby d4_43) rfl rfl ?_
          refine Own.istoreNV 45 #[.val (.ref a), .val (.int (2 : Int32)), .val (.ref r), .val (.int (0 : Int32)), .val (.int (4 : Int32)), .val (.int v3), .unset, .unset] X268 hx (hb hby d4_44) rfl rfl ?_
          refine Own.aloadN 46 X268 hx (hb hby d4_45) rfl rfl rfl ?_
          refine Own.getFld 49 X268 hx hZ hown (host := "") (Or.inl (w 29 rfl)) Via.refl e268 Ff_270 (hb hby d4_46) rfl ?_
          intro T272 X272 e272
          refine Own.astore 51 #[.val (.ref a), .val (.int (2 : Int32)), .val (.ref r), .val (.int (0 : Int32)), .val (.ref b), .val (.int v3), .unset, .unset] X272 hx (hb hby d4_49) rfl rfl rfl ?_
          refine Own.aload 53 X272 hx (hb hby d4_51) rfl rfl rfl ?_
          refine Own.arrLen 54 X272 hx hZ e272 Vf_271 (hb hby d4_53) rfl ?_
          refine Own.istoreV 56 #[.val (.ref a), .val (.int (2 : Int32)), .val (.ref r), .val (.int (0 : Int32)), .val (.ref b), .val (.int (4 : Int32)), .unset, .unset] X272 hx (hb hby d4_54) rfl rfl ?_
          refine Own.iconst 57 X272 hx ((0 : Int32)) (hb hby d4_56) rfl rfl ?_
          refine Own.istoreV 59 #[.val (.ref a), .val (.int (2 : Int32)), .val (.ref r), .val (.int (0 : Int32)), .val (.ref b), .val (.int (4 : Int32)), .val (.int (0 : Int32)), .unset] X272 hx (hb hby d4_57) rfl rfl ?_
          refine Own.iload 61 X272 hx (hb hby d4_59) rfl rfl ?_
          refine Own.iload 63 X272 hx (hb hby d4_61) rfl rfl ?_
          refine Own.icmp_ge 92 66 X272 hx (hb hby d4_63) (by decide) rfl (fun tk => absurd tk (by decide)) (fun tk => ?_)
          refine Own.aload 68 X272 hx (hb hby d4_66) rfl rfl rfl ?_
          refine Own.iload 70 X272 hx (hb hby d4_68) rfl rfl ?_
          refine Own.iaload 71 X272 hx hZ e272 (v0) Vf_271 (by decide) rfl (hb hby d4_70) rfl ?_
          refine Own.istoreV 73 #[.val (.ref a), .val (.int (2 : Int32)), .val (.ref r), .val (.int (0 : Int32)), .val (.ref b), .val (.int (4 : Int32)), .val (.int (0 : Int32)), .val (.int v0)] X272 hx (hb hby d4_71) rfl rfl ?_
          refine Own.iload 75 X272 hx (hb hby d4_73) rfl rfl ?_
          refine Own.if_lt 86 78 X272 hx (hb hby d4_75) (by decide) rfl (fun tk => absurd tk q0) (fun tk => ?_)
          refine Own.aloadN 79 X272 hx (hb hby d4_78) rfl rfl rfl ?_
          refine Own.iloadN 80 X272 hx (hb hby d4_79) rfl rfl ?_
          refine Own.iinc 83 (fun c_273 => #[.val (.ref a), .val (.int (2 : Int32)), .val (.ref r), .val (.int c_273), .val (.ref b), .val (.int (4 : Int32)), .val (.int (0 : Int32)), .val (.int v0)]) X272 hx ((1 : Int32)) (hb hby d4_80) rfl rfl rfl (fun _ => rfl) fun c_273 hc_273 => ?_
          obtain rfl : c_273 = (1 : Int32) := hc_273.trans (by decide)
          refine Own.iload 85 X272 hx (hb hby d4_83) rfl rfl ?_
          refine Own.iastore 86 X272 hx hZ e272 V268 (by decide) (Nat.le_of_ble_eq_true rfl) (hb hby d4_85) rfl ?_
          intro T274 h274 X274 e274 W274 A274
          have N274 := Fr.snoc X274 N0 g_r
          have Ff_276 := Ff_270.other W274 (Or.inl ne_a_r)
          have Vf_277 := Vf_271.other W274 ne_b_r
          have zl274 := Nat.le_trans zl268 (Nat.le_of_eq W274.size.symm)
          have K274 := K268.wr W274 (Or.inr sz_r)
          have V274 : Arv Z h274 r k268 .int (2 : Int32) [(.int v0), (.int (0 : Int32))] (.int (0 : Int32)) := A274
          refine Own.iinc 89 (fun c_279 => #[.val (.ref a), .val (.int (2 : Int32)), .val (.ref r), .val (.int (1 : Int32)), .val (.ref b), .val (.int (4 : Int32)), .val (.int c_279), .val (.int v0)]) X274 hx ((1 : Int32)) (hb hby d4_86) rfl rfl rfl (fun _ => rfl) fun c_279 hc_279 => ?_
          obtain rfl : c_279 = (1 : Int32) := hc_279.trans (by decide)
          refine Own.goto 59 X274 hx (hb hby d4_89) (by decide) ?_
          refine Own.iload 61 X274 hx (hb hby d4_59) rfl rfl ?_
          refine Own.iload 63 X274 hx (hb hby d4_61) rfl rfl ?_
          refine Own.icmp_ge 92 66 X274 hx (hb hby d4_63) (by decide) rfl (fun tk => absurd tk (by decide)) (fun tk => ?_)
          refine Own.aload 68 X274 hx (hb hby d4_66) rfl rfl rfl ?_
          refine Own.iload 70 X274 hx (hb hby d4_68) rfl rfl ?_
          refine Own.iaload 71 X274 hx hZ e274 (v1) Vf_277 (by decide) rfl (hb hby d4_70) rfl ?_
          refine Own.istoreV 73 #[.val (.ref a), .val (.int (2 : Int32)), .val (.ref r), .val (.int (1 : Int32)), .val (.ref b), .val (.int (4 : Int32)), .val (.int (1 : Int32)), .val (.int v1)] X274 hx (hb hby d4_71) rfl rfl ?_
          refine Own.iload 75 X274 hx (hb hby d4_73) rfl rfl ?_
          refine Own.if_lt 86 78 X274 hx (hb hby d4_75) (by decide) rfl (fun tk => absurd tk q1) (fun tk => ?_)
          refine Own.aloadN 79 X274 hx (hb hby d4_78) rfl rfl rfl ?_
          refine Own.iloadN 80 X274 hx (hb hby d4_79) rfl rfl ?_
          refine Own.iinc 83 (fun c_280 => #[.val (.ref a), .val (.int (2 : Int32)), .val (.ref r), .val (.int c_280), .val (.ref b), .val (.int (4 : Int32)), .val (.int (1 : Int32)), .val (.int v1)]) X274 hx ((1 : Int32)) (hb hby d4_80) rfl rfl rfl (fun _ => rfl) fun c_280 hc_280 => ?_
          obtain rfl : c_280 = (2 : Int32) := hc_280.trans (by decide)
          refine Own.iload 85 X274 hx (hb hby d4_83) rfl rfl ?_
          refine Own.iastore 86 X274 hx hZ e274 V274 (by decide) (Nat.le_of_ble_eq_true rfl) (hb hby d4_85) rfl ?_
          intro T281 h281 X281 e281 W281 A281
          have N281 := Fr.snoc X281 N274 g_r
          have Ff_283 := Ff_276.other W281 (Or.inl ne_a_r)
          have Vf_284 := Vf_277.other W281 ne_b_r
          have zl281 := Nat.le_trans zl274 (Nat.le_of_eq W281.size.symm)
          have K281 := K274.wr W281 (Or.inr sz_r)
          have V281 : Arv Z h281 r k268 .int (2 : Int32) [(.int v0), (.int v1)] (.int (0 : Int32)) := A281
          refine Own.iinc 89 (fun c_286 => #[.val (.ref a), .val (.int (2 : Int32)), .val (.ref r), .val (.int (2 : Int32)), .val (.ref b), .val (.int (4 : Int32)), .val (.int c_286), .val (.int v1)]) X281 hx ((1 : Int32)) (hb hby d4_86) rfl rfl rfl (fun _ => rfl) fun c_286 hc_286 => ?_
          obtain rfl : c_286 = (2 : Int32) := hc_286.trans (by decide)
          refine Own.goto 59 X281 hx (hb hby d4_89) (by decide) ?_
          refine Own.iload 61 X281 hx (hb hby d4_59) rfl rfl ?_
          refine Own.iload 63 X281 hx (hb hby d4_61) rfl rfl ?_
          refine Own.icmp_ge 92 66 X281 hx (hb hby d4_63) (by decide) rfl (fun tk => absurd tk (by decide)) (fun tk => ?_)
          refine Own.aload 68 X281 hx (hb hby d4_66) rfl rfl rfl ?_
          refine Own.iload 70 X281 hx (hb hby d4_68) rfl rfl ?_
          refine Own.iaload 71 X281 hx hZ e281 (v2) Vf_284 (by decide) rfl (hb hby d4_70) rfl ?_
          refine Own.istoreV 73 #[.val (.ref a), .val (.int (2 : Int32)), .val (.ref r), .val (.int (2 : Int32)), .val (.ref b), .val (.int (4 : Int32)), .val (.int (2 : Int32)), .val (.int v2)] X281 hx (hb hby d4_71) rfl rfl ?_
          refine Own.iload 75 X281 hx (hb hby d4_73) rfl rfl ?_
          refine Own.if_lt 86 78 X281 hx (hb hby d4_75) (by decide) rfl (fun tk => ?_) (fun tk => absurd q2 tk)
          refine Own.iinc 89 (fun c_287 => #[.val (.ref a), .val (.int (2 : Int32)), .val (.ref r), .val (.int (2 : Int32)), .val (.ref b), .val (.int (4 : Int32)), .val (.int c_287), .val (.int v2)]) X281 hx ((1 : Int32)) (hb hby d4_86) rfl rfl rfl (fun _ => rfl) fun c_287 hc_287 => ?_
          obtain rfl : c_287 = (3 : Int32) := hc_287.trans (by decide)
          refine Own.goto 59 X281 hx (hb hby d4_89) (by decide) ?_
          refine Own.iload 61 X281 hx (hb hby d4_59) rfl rfl ?_
          refine Own.iload 63 X281 hx (hb hby d4_61) rfl rfl ?_
          refine Own.icmp_ge 92 66 X281 hx (hb hby d4_63) (by decide) rfl (fun tk => absurd tk (by decide)) (fun tk => ?_)
          refine Own.aload 68 X281 hx (hb hby d4_66) rfl rfl rfl ?_
          refine Own.iload 70 X281 hx (hb hby d4_68) rfl rfl ?_
          refine Own.iaload 71 X281 hx hZ e281 (v3) Vf_284 (by decide) rfl (hb hby d4_70) rfl ?_
          refine Own.istoreV 73 #[.val (.ref a), .val (.int (2 : Int32)), .val (.ref r), .val (.int (2 : Int32)), .val (.ref b), .val (.int (4 : Int32)), .val (.int (3 : Int32)), .val (.int v3)] X281 hx (hb hby d4_71) rfl rfl ?_
          refine Own.iload 75 X281 hx (hb hby d4_73) rfl rfl ?_
          refine Own.if_lt 86 78 X281 hx (hb hby d4_75) (by decide) rfl (fun tk => ?_) (fun tk => absurd q3 tk)
          refine Own.iinc 89 (fun c_288 => #[.val (.ref a), .val (.int (2 : Int32)), .val (.ref r), .val (.int (2 : Int32)), .val (.ref b), .val (.int (4 : Int32)), .val (.int c_288), .val (.int v3)]) X281 hx ((1 : Int32)) (hb hby d4_86) rfl rfl rfl (fun _ => rfl) fun c_288 hc_288 => ?_
          obtain rfl : c_288 = (4 : Int32) := hc_288.trans (by decide)
          refine Own.goto 59 X281 hx (hb hby d4_89) (by decide) ?_
          refine Own.iload 61 X281 hx (hb hby d4_59) rfl rfl ?_
          refine Own.iload 63 X281 hx (hb hby d4_61) rfl rfl ?_
          refine Own.icmp_ge 92 66 X281 hx (hb hby d4_63) (by decide) rfl (fun tk => ?_) (fun tk => absurd tk (by decide))
          refine Own.aloadN 93 X281 hx (hb hby d4_92) rfl rfl rfl ?_
          refine Own.retRef X281 hx hlk rfl hret rfl (hb hby d4_93) (by decide) (by decide) ?_
          rw [e281]
          exact ⟨r, k268, [v0, v1], rfl, N281, K281, sz_r, g_r, by rw [own_f, List.filter_cons_of_pos (p := fun x => decide (¬ x < 0)) (decide_eq_true q0), List.filter_cons_of_pos (p := fun x => decide (¬ x < 0)) (decide_eq_true q1), List.filter_cons_of_neg (p := fun x => decide (¬ x < 0)) (by rw [decide_eq_true_iff]; exact fun u => u q2), List.filter_cons_of_neg (p := fun x => decide (¬ x < 0)) (by rw [decide_eq_true_iff]; exact fun u => u q3), List.filter_nil], V281⟩
        ·
          refine Own.iinc 33 (fun c_289 => #[.val (.ref a), .val (.int c_289), .val (.ref b), .val (.int (4 : Int32)), .val (.int (3 : Int32)), .val (.int v3), .unset, .unset]) X1 hx ((1 : Int32)) (hb hby d4_30) rfl rfl rfl (fun _ => rfl) fun c_289 hc_289 => ?_
          obtain rfl : c_289 = (3 : Int32) := hc_289.trans (by decide)
          refine Own.iinc 36 (fun c_290 => #[.val (.ref a), .val (.int (3 : Int32)), .val (.ref b), .val (.int (4 : Int32)), .val (.int c_290), .val (.int v3), .unset, .unset]) X1 hx ((1 : Int32)) (hb hby d4_33) rfl rfl rfl (fun _ => rfl) fun c_290 hc_290 => ?_
          obtain rfl : c_290 = (4 : Int32) := hc_290.trans (by decide)
          refine Own.goto 13 X1 hx (hb hby d4_36) (by decide) ?_
          refine Own.iload 15 X1 hx (hb hby d4_13) rfl rfl ?_
          refine Own.iloadN 16 X1 hx (hb hby d4_15) rfl rfl ?_
          refine Own.icmp_ge 39 19 X1 hx (hb hby d4_16) (by decide) rfl (fun tk => ?_) (fun tk => absurd tk (by decide))
          refine Own.iloadN 40 X1 hx (hb hby d4_39) rfl rfl ?_
          refine Own.newArr 42 3 X1 hx hZ (w 5 rfl) e1 (by decide) (by decide) (by decide) (hb hby d4_40) rfl (by decide) (by decide) ?_
          intro T291 h291 r k291 z291 X291 e291 E291 A291
          have ne_a_r : a ≠ r := Nat.ne_of_lt (Nat.lt_of_lt_of_le F3.lt (Nat.le_of_eq z291.symm))
          have ne_b_r : b ≠ r := Nat.ne_of_lt (Nat.lt_of_lt_of_le V1.lt (Nat.le_of_eq z291.symm))
          have g_r : n0 ≤ r := Nat.le_trans Z0 (Nat.le_of_eq z291.symm)
          have sz_r : h0.size ≤ r := Nat.le_trans (Keep.refl h0 []).1 (Nat.le_of_eq z291.symm)
          have K291 := (Keep.refl h0 []).ext E291
          have Ff_293 := F3.ext E291
          have Vf_294 := V1.ext E291
          have zl291 := Nat.le_trans Z0 E291.1
          have V291 : Arv Z h291 r k291 .int (3 : Int32) [(.int (0 : Int32)), (.int (0 : Int32)), (.int (0 : Int32))] (.int (0 : Int32)) := A291
          refine Own.astoreN 43 #[.val (.ref a), .val (.int (3 : Int32)), .val (.ref r), .val (.int (4 : Int32)), .val (.int (4 : Int32)), .val (.int v3), .unset, .unset] X291 hx (hb hby d4_42) rfl rfl rfl ?_
          refine Own.iconst 44 X291 hx ((0 : Int32)) (hb hby d4_43) rfl rfl ?_
          refine Own.istoreNV 45 #[.val (.ref a), .val (.int (3 : Int32)), .val (.ref r), .val (.int (0 : Int32)), .val (.int (4 : Int32)), .val (.int v3), .unset, .unset] X291 hx (hb hby d4_44) rfl rfl ?_
          refine Own.aloadN 46 X291 hx (hb hby d4_45) rfl rfl rfl ?_
          refine Own.getFld 49 X291 hx hZ hown (host := "") (Or.inl (w 29 rfl)) Via.refl e291 Ff_293 (hb hby d4_46) rfl ?_
          intro T295 X295 e295
          refine Own.astore 51 #[.val (.ref a), .val (.int (3 : Int32)), .val (.ref r), .val (.int (0 : Int32)), .val (.ref b), .val (.int v3), .unset, .unset] X295 hx (hb hby d4_49) rfl rfl rfl ?_
          refine Own.aload 53 X295 hx (hb hby d4_51) rfl rfl rfl ?_
          refine Own.arrLen 54 X295 hx hZ e295 Vf_294 (hb hby d4_53) rfl ?_
          refine Own.istoreV 56 #[.val (.ref a), .val (.int (3 : Int32)), .val (.ref r), .val (.int (0 : Int32)), .val (.ref b), .val (.int (4 : Int32)), .unset, .unset] X295 hx (hb hby d4_54) rfl rfl ?_
          refine Own.iconst 57 X295 hx ((0 : Int32)) (hb hby d4_56) rfl rfl ?_
          refine Own.istoreV 59 #[.val (.ref a), .val (.int (3 : Int32)), .val (.ref r), .val (.int (0 : Int32)), .val (.ref b), .val (.int (4 : Int32)), .val (.int (0 : Int32)), .unset] X295 hx (hb hby d4_57) rfl rfl ?_
          refine Own.iload 61 X295 hx (hb hby d4_59) rfl rfl ?_
          refine Own.iload 63 X295 hx (hb hby d4_61) rfl rfl ?_
          refine Own.icmp_ge 92 66 X295 hx (hb hby d4_63) (by decide) rfl (fun tk => absurd tk (by decide)) (fun tk => ?_)
          refine Own.aload 68 X295 hx (hb hby d4_66) rfl rfl rfl ?_
          refine Own.iload 70 X295 hx (hb hby d4_68) rfl rfl ?_
          refine Own.iaload 71 X295 hx hZ e295 (v0) Vf_294 (by decide) rfl (hb hby d4_70) rfl ?_
          refine Own.istoreV 73 #[.val (.ref a), .val (.int (3 : Int32)), .val (.ref r), .val (.int (0 : Int32)), .val (.ref b), .val (.int (4 : Int32)), .val (.int (0 : Int32)), .val (.int v0)] X295 hx (hb hby d4_71) rfl rfl ?_
          refine Own.iload 75 X295 hx (hb hby d4_73) rfl rfl ?_
          refine Own.if_lt 86 78 X295 hx (hb hby d4_75) (by decide) rfl (fun tk => absurd tk q0) (fun tk => ?_)
          refine Own.aloadN 79 X295 hx (hb hby d4_78) rfl rfl rfl ?_
          refine Own.iloadN 80 X295 hx (hb hby d4_79) rfl rfl ?_
          refine Own.iinc 83 (fun c_296 => #[.val (.ref a), .val (.int (3 : Int32)), .val (.ref r), .val (.int c_296), .val (.ref b), .val (.int (4 : Int32)), .val (.int (0 : Int32)), .val (.int v0)]) X295 hx ((1 : Int32)) (hb hby d4_80) rfl rfl rfl (fun _ => rfl) fun c_296 hc_296 => ?_
          obtain rfl : c_296 = (1 : Int32) := hc_296.trans (by decide)
          refine Own.iload 85 X295 hx (hb hby d4_83) rfl rfl ?_
          refine Own.iastore 86 X295 hx hZ e295 V291 (by decide) (Nat.le_of_ble_eq_true rfl) (hb hby d4_85) rfl ?_
          intro T297 h297 X297 e297 W297 A297
          have N297 := Fr.snoc X297 N0 g_r
          have Ff_299 := Ff_293.other W297 (Or.inl ne_a_r)
          have Vf_300 := Vf_294.other W297 ne_b_r
          have zl297 := Nat.le_trans zl291 (Nat.le_of_eq W297.size.symm)
          have K297 := K291.wr W297 (Or.inr sz_r)
          have V297 : Arv Z h297 r k291 .int (3 : Int32) [(.int v0), (.int (0 : Int32)), (.int (0 : Int32))] (.int (0 : Int32)) := A297
          refine Own.iinc 89 (fun c_302 => #[.val (.ref a), .val (.int (3 : Int32)), .val (.ref r), .val (.int (1 : Int32)), .val (.ref b), .val (.int (4 : Int32)), .val (.int c_302), .val (.int v0)]) X297 hx ((1 : Int32)) (hb hby d4_86) rfl rfl rfl (fun _ => rfl) fun c_302 hc_302 => ?_
          obtain rfl : c_302 = (1 : Int32) := hc_302.trans (by decide)
          refine Own.goto 59 X297 hx (hb hby d4_89) (by decide) ?_
          refine Own.iload 61 X297 hx (hb hby d4_59) rfl rfl ?_
          refine Own.iload 63 X297 hx (hb hby d4_61) rfl rfl ?_
          refine Own.icmp_ge 92 66 X297 hx (hb hby d4_63) (by decide) rfl (fun tk => absurd tk (by decide)) (fun tk => ?_)
          refine Own.aload 68 X297 hx (hb hby d4_66) rfl rfl rfl ?_
          refine Own.iload 70 X297 hx (hb hby d4_68) rfl rfl ?_
          refine Own.iaload 71 X297 hx hZ e297 (v1) Vf_300 (by decide) rfl (hb hby d4_70) rfl ?_
          refine Own.istoreV 73 #[.val (.ref a), .val (.int (3 : Int32)), .val (.ref r), .val (.int (1 : Int32)), .val (.ref b), .val (.int (4 : Int32)), .val (.int (1 : Int32)), .val (.int v1)] X297 hx (hb hby d4_71) rfl rfl ?_
          refine Own.iload 75 X297 hx (hb hby d4_73) rfl rfl ?_
          refine Own.if_lt 86 78 X297 hx (hb hby d4_75) (by decide) rfl (fun tk => absurd tk q1) (fun tk => ?_)
          refine Own.aloadN 79 X297 hx (hb hby d4_78) rfl rfl rfl ?_
          refine Own.iloadN 80 X297 hx (hb hby d4_79) rfl rfl ?_
          refine Own.iinc 83 (fun c_303 => #[.val (.ref a), .val (.int (3 : Int32)), .val (.ref r), .val (.int c_303), .val (.ref b), .val (.int (4 : Int32)), .val (.int (1 : Int32)), .val (.int v1)]) X297 hx ((1 : Int32)) (hb hby d4_80) rfl rfl rfl (fun _ => rfl) fun c_303 hc_303 => ?_
          obtain rfl : c_303 = (2 : Int32) := hc_303.trans (by decide)
          refine Own.iload 85 X297 hx (hb hby d4_83) rfl rfl ?_
          refine Own.iastore 86 X297 hx hZ e297 V297 (by decide) (Nat.le_of_ble_eq_true rfl) (hb hby d4_85) rfl ?_
          intro T304 h304 X304 e304 W304 A304
          have N304 := Fr.snoc X304 N297 g_r
          have Ff_306 := Ff_299.other W304 (Or.inl ne_a_r)
          have Vf_307 := Vf_300.other W304 ne_b_r
          have zl304 := Nat.le_trans zl297 (Nat.le_of_eq W304.size.symm)
          have K304 := K297.wr W304 (Or.inr sz_r)
          have V304 : Arv Z h304 r k291 .int (3 : Int32) [(.int v0), (.int v1), (.int (0 : Int32))] (.int (0 : Int32)) := A304
          refine Own.iinc 89 (fun c_309 => #[.val (.ref a), .val (.int (3 : Int32)), .val (.ref r), .val (.int (2 : Int32)), .val (.ref b), .val (.int (4 : Int32)), .val (.int c_309), .val (.int v1)]) X304 hx ((1 : Int32)) (hb hby d4_86) rfl rfl rfl (fun _ => rfl) fun c_309 hc_309 => ?_
          obtain rfl : c_309 = (2 : Int32) := hc_309.trans (by decide)
          refine Own.goto 59 X304 hx (hb hby d4_89) (by decide) ?_
          refine Own.iload 61 X304 hx (hb hby d4_59) rfl rfl ?_
          refine Own.iload 63 X304 hx (hb hby d4_61) rfl rfl ?_
          refine Own.icmp_ge 92 66 X304 hx (hb hby d4_63) (by decide) rfl (fun tk => absurd tk (by decide)) (fun tk => ?_)
          refine Own.aload 68 X304 hx (hb hby d4_66) rfl rfl rfl ?_
          refine Own.iload 70 X304 hx (hb hby d4_68) rfl rfl ?_
          refine Own.iaload 71 X304 hx hZ e304 (v2) Vf_307 (by decide) rfl (hb hby d4_70) rfl ?_
          refine Own.istoreV 73 #[.val (.ref a), .val (.int (3 : Int32)), .val (.ref r), .val (.int (2 : Int32)), .val (.ref b), .val (.int (4 : Int32)), .val (.int (2 : Int32)), .val (.int v2)] X304 hx (hb hby d4_71) rfl rfl ?_
          refine Own.iload 75 X304 hx (hb hby d4_73) rfl rfl ?_
          refine Own.if_lt 86 78 X304 hx (hb hby d4_75) (by decide) rfl (fun tk => ?_) (fun tk => absurd q2 tk)
          refine Own.iinc 89 (fun c_310 => #[.val (.ref a), .val (.int (3 : Int32)), .val (.ref r), .val (.int (2 : Int32)), .val (.ref b), .val (.int (4 : Int32)), .val (.int c_310), .val (.int v2)]) X304 hx ((1 : Int32)) (hb hby d4_86) rfl rfl rfl (fun _ => rfl) fun c_310 hc_310 => ?_
          obtain rfl : c_310 = (3 : Int32) := hc_310.trans (by decide)
          refine Own.goto 59 X304 hx (hb hby d4_89) (by decide) ?_
          refine Own.iload 61 X304 hx (hb hby d4_59) rfl rfl ?_
          refine Own.iload 63 X304 hx (hb hby d4_61) rfl rfl ?_
          refine Own.icmp_ge 92 66 X304 hx (hb hby d4_63) (by decide) rfl (fun tk => absurd tk (by decide)) (fun tk => ?_)
          refine Own.aload 68 X304 hx (hb hby d4_66) rfl rfl rfl ?_
          refine Own.iload 70 X304 hx (hb hby d4_68) rfl rfl ?_
          refine Own.iaload 71 X304 hx hZ e304 (v3) Vf_307 (by decide) rfl (hb hby d4_70) rfl ?_
          refine Own.istoreV 73 #[.val (.ref a), .val (.int (3 : Int32)), .val (.ref r), .val (.int (2 : Int32)), .val (.ref b), .val (.int (4 : Int32)), .val (.int (3 : Int32)), .val (.int v3)] X304 hx (hb hby d4_71) rfl rfl ?_
          refine Own.iload 75 X304 hx (hb hby d4_73) rfl rfl ?_
          refine Own.if_lt 86 78 X304 hx (hb hby d4_75) (by decide) rfl (fun tk => absurd tk q3) (fun tk => ?_)
          refine Own.aloadN 79 X304 hx (hb hby d4_78) rfl rfl rfl ?_
          refine Own.iloadN 80 X304 hx (hb hby d4_79) rfl rfl ?_
          refine Own.iinc 83 (fun c_311 => #[.val (.ref a), .val (.int (3 : Int32)), .val (.ref r), .val (.int c_311), .val (.ref b), .val (.int (4 : Int32)), .val (.int (3 : Int32)), .val (.int v3)]) X304 hx ((1 : Int32)) (hb hby d4_80) rfl rfl rfl (fun _ => rfl) fun c_311 hc_311 => ?_
          obtain rfl : c_311 = (3 : Int32) := hc_311.trans (by decide)
          refine Own.iload 85 X304 hx (hb hby d4_83) rfl rfl ?_
          refine Own.iastore 86 X304 hx hZ e304 V304 (by decide) (Nat.le_of_ble_eq_true rfl) (hb hby d4_85) rfl ?_
          intro T312 h312 X312 e312 W312 A312
          have N312 := Fr.snoc X312 N304 g_r
          have Ff_314 := Ff_306.other W312 (Or.inl ne_a_r)
          have Vf_315 := Vf_307.other W312 ne_b_r
          have zl312 := Nat.le_trans zl304 (Nat.le_of_eq W312.size.symm)
          have K312 := K304.wr W312 (Or.inr sz_r)
          have V312 : Arv Z h312 r k291 .int (3 : Int32) [(.int v0), (.int v1), (.int v3)] (.int (0 : Int32)) := A312
          refine Own.iinc 89 (fun c_317 => #[.val (.ref a), .val (.int (3 : Int32)), .val (.ref r), .val (.int (3 : Int32)), .val (.ref b), .val (.int (4 : Int32)), .val (.int c_317), .val (.int v3)]) X312 hx ((1 : Int32)) (hb hby d4_86) rfl rfl rfl (fun _ => rfl) fun c_317 hc_317 => ?_
          obtain rfl : c_317 = (4 : Int32) := hc_317.trans (by decide)
          refine Own.goto 59 X312 hx (hb hby d4_89) (by decide) ?_
          refine Own.iload 61 X312 hx (hb hby d4_59) rfl rfl ?_
          refine Own.iload 63 X312 hx (hb hby d4_61) rfl rfl ?_
          refine Own.icmp_ge 92 66 X312 hx (hb hby d4_63) (by decide) rfl (fun tk => ?_) (fun tk => absurd tk (by decide))
          refine Own.aloadN 93 X312 hx (hb hby d4_92) rfl rfl rfl ?_
          refine Own.retRef X312 hx hlk rfl hret rfl (hb hby d4_93) (by decide) (by decide) ?_
          rw [e312]
          exact ⟨r, k291, [v0, v1, v3], rfl, N312, K312, sz_r, g_r, by rw [own_f, List.filter_cons_of_pos (p := fun x => decide (¬ x < 0)) (decide_eq_true q0), List.filter_cons_of_pos (p := fun x => decide (¬ x < 0)) (decide_eq_true q1), List.filter_cons_of_neg (p := fun x => decide (¬ x < 0)) (by rw [decide_eq_true_iff]; exact fun u => u q2), List.filter_cons_of_pos (p := fun x => decide (¬ x < 0)) (decide_eq_true q3), List.filter_nil], V312⟩
      ·
        refine Own.iinc 33 (fun c_318 => #[.val (.ref a), .val (.int c_318), .val (.ref b), .val (.int (4 : Int32)), .val (.int (2 : Int32)), .val (.int v2), .unset, .unset]) X1 hx ((1 : Int32)) (hb hby d4_30) rfl rfl rfl (fun _ => rfl) fun c_318 hc_318 => ?_
        obtain rfl : c_318 = (3 : Int32) := hc_318.trans (by decide)
        refine Own.iinc 36 (fun c_319 => #[.val (.ref a), .val (.int (3 : Int32)), .val (.ref b), .val (.int (4 : Int32)), .val (.int c_319), .val (.int v2), .unset, .unset]) X1 hx ((1 : Int32)) (hb hby d4_33) rfl rfl rfl (fun _ => rfl) fun c_319 hc_319 => ?_
        obtain rfl : c_319 = (3 : Int32) := hc_319.trans (by decide)
        refine Own.goto 13 X1 hx (hb hby d4_36) (by decide) ?_
        refine Own.iload 15 X1 hx (hb hby d4_13) rfl rfl ?_
        refine Own.iloadN 16 X1 hx (hb hby d4_15) rfl rfl ?_
        refine Own.icmp_ge 39 19 X1 hx (hb hby d4_16) (by decide) rfl (fun tk => absurd tk (by decide)) (fun tk => ?_)
        refine Own.aloadN 20 X1 hx (hb hby d4_19) rfl rfl rfl ?_
        refine Own.iload 22 X1 hx (hb hby d4_20) rfl rfl ?_
        refine Own.iaload 23 X1 hx hZ e1 (v3) V1 (by decide) rfl (hb hby d4_22) rfl ?_
        refine Own.istoreV 25 #[.val (.ref a), .val (.int (3 : Int32)), .val (.ref b), .val (.int (4 : Int32)), .val (.int (3 : Int32)), .val (.int v3), .unset, .unset] X1 hx (hb hby d4_23) rfl rfl ?_
        refine Own.iload 27 X1 hx (hb hby d4_25) rfl rfl ?_
        refine Own.if_lt 33 30 X1 hx (hb hby d4_27) (by decide) rfl (fun q3 => ?_) (fun q3 => ?_)
        ·
          refine Own.iinc 36 (fun c_320 => #[.val (.ref a), .val (.int (3 : Int32)), .val (.ref b), .val (.int (4 : Int32)), .val (.int c_320), .val (.int v3), .unset, .unset]) X1 hx ((1 : Int32)) (hb hby d4_33) rfl rfl rfl (fun _ => rfl) fun c_320 hc_320 => ?_
          obtain rfl : c_320 = (4 : Int32) := hc_320.trans (by decide)
          refine Own.goto 13 X1 hx (hb hby d4_36) (by decide) ?_
          refine Own.iload 15 X1 hx (hb hby d4_13) rfl rfl ?_
          refine Own.iloadN 16 X1 hx (hb hby d4_15) rfl rfl ?_
          refine Own.icmp_ge 39 19 X1 hx (hb hby d4_16) (by decide) rfl (fun tk => ?_) (fun tk => absurd tk (by decide))
          refine Own.iloadN 40 X1 hx (hb hby d4_39) rfl rfl ?_
          refine Own.newArr 42 3 X1 hx hZ (w 5 rfl) e1 (by decide) (by decide) (by decide) (hb hby d4_40) rfl (by decide) (by decide) ?_
          intro T321 h321 r k321 z321 X321 e321 E321 A321
          have ne_a_r : a ≠ r := Nat.ne_of_lt (Nat.lt_of_lt_of_le F3.lt (Nat.le_of_eq z321.symm))
          have ne_b_r : b ≠ r := Nat.ne_of_lt (Nat.lt_of_lt_of_le V1.lt (Nat.le_of_eq z321.symm))
          have g_r : n0 ≤ r := Nat.le_trans Z0 (Nat.le_of_eq z321.symm)
          have sz_r : h0.size ≤ r := Nat.le_trans (Keep.refl h0 []).1 (Nat.le_of_eq z321.symm)
          have K321 := (Keep.refl h0 []).ext E321
          have Ff_323 := F3.ext E321
          have Vf_324 := V1.ext E321
          have zl321 := Nat.le_trans Z0 E321.1
          have V321 : Arv Z h321 r k321 .int (3 : Int32) [(.int (0 : Int32)), (.int (0 : Int32)), (.int (0 : Int32))] (.int (0 : Int32)) := A321
          refine Own.astoreN 43 #[.val (.ref a), .val (.int (3 : Int32)), .val (.ref r), .val (.int (4 : Int32)), .val (.int (4 : Int32)), .val (.int v3), .unset, .unset] X321 hx (hb hby d4_42) rfl rfl rfl ?_
          refine Own.iconst 44 X321 hx ((0 : Int32)) (hb hby d4_43) rfl rfl ?_
          refine Own.istoreNV 45 #[.val (.ref a), .val (.int (3 : Int32)), .val (.ref r), .val (.int (0 : Int32)), .val (.int (4 : Int32)), .val (.int v3), .unset, .unset] X321 hx (hb hby d4_44) rfl rfl ?_
          refine Own.aloadN 46 X321 hx (hb hby d4_45) rfl rfl rfl ?_
          refine Own.getFld 49 X321 hx hZ hown (host := "") (Or.inl (w 29 rfl)) Via.refl e321 Ff_323 (hb hby d4_46) rfl ?_
          intro T325 X325 e325
          refine Own.astore 51 #[.val (.ref a), .val (.int (3 : Int32)), .val (.ref r), .val (.int (0 : Int32)), .val (.ref b), .val (.int v3), .unset, .unset] X325 hx (hb hby d4_49) rfl rfl rfl ?_
          refine Own.aload 53 X325 hx (hb hby d4_51) rfl rfl rfl ?_
          refine Own.arrLen 54 X325 hx hZ e325 Vf_324 (hb hby d4_53) rfl ?_
          refine Own.istoreV 56 #[.val (.ref a), .val (.int (3 : Int32)), .val (.ref r), .val (.int (0 : Int32)), .val (.ref b), .val (.int (4 : Int32)), .unset, .unset] X325 hx (hb hby d4_54) rfl rfl ?_
          refine Own.iconst 57 X325 hx ((0 : Int32)) (hb hby d4_56) rfl rfl ?_
          refine Own.istoreV 59 #[.val (.ref a), .val (.int (3 : Int32)), .val (.ref r), .val (.int (0 : Int32)), .val (.ref b), .val (.int (4 : Int32)), .val (.int (0 : Int32)), .unset] X325 hx (hb hby d4_57) rfl rfl ?_
          refine Own.iload 61 X325 hx (hb hby d4_59) rfl rfl ?_
          refine Own.iload 63 X325 hx (hb hby d4_61) rfl rfl ?_
          refine Own.icmp_ge 92 66 X325 hx (hb hby d4_63) (by decide) rfl (fun tk => absurd tk (by decide)) (fun tk => ?_)
          refine Own.aload 68 X325 hx (hb hby d4_66) rfl rfl rfl ?_
          refine Own.iload 70 X325 hx (hb hby d4_68) rfl rfl ?_
          refine Own.iaload 71 X325 hx hZ e325 (v0) Vf_324 (by decide) rfl (hb hby d4_70) rfl ?_
          refine Own.istoreV 73 #[.val (.ref a), .val (.int (3 : Int32)), .val (.ref r), .val (.int (0 : Int32)), .val (.ref b), .val (.int (4 : Int32)), .val (.int (0 : Int32)), .val (.int v0)] X325 hx (hb hby d4_71) rfl rfl ?_
          refine Own.iload 75 X325 hx (hb hby d4_73) rfl rfl ?_
          refine Own.if_lt 86 78 X325 hx (hb hby d4_75) (by decide) rfl (fun tk => absurd tk q0) (fun tk => ?_)
          refine Own.aloadN 79 X325 hx (hb hby d4_78) rfl rfl rfl ?_
          refine Own.iloadN 80 X325 hx (hb hby d4_79) rfl rfl ?_
          refine Own.iinc 83 (fun c_326 => #[.val (.ref a), .val (.int (3 : Int32)), .val (.ref r), .val (.int c_326), .val (.ref b), .val (.int (4 : Int32)), .val (.int (0 : Int32)), .val (.int v0)]) X325 hx ((1 : Int32)) (hb hby d4_80) rfl rfl rfl (fun _ => rfl) fun c_326 hc_326 => ?_
          obtain rfl : c_326 = (1 : Int32) := hc_326.trans (by decide)
          refine Own.iload 85 X325 hx (hb hby d4_83) rfl rfl ?_
          refine Own.iastore 86 X325 hx hZ e325 V321 (by decide) (Nat.le_of_ble_eq_true rfl) (hb hby d4_85) rfl ?_
          intro T327 h327 X327 e327 W327 A327
          have N327 := Fr.snoc X327 N0 g_r
          have Ff_329 := Ff_323.other W327 (Or.inl ne_a_r)
          have Vf_330 := Vf_324.other W327 ne_b_r
          have zl327 := Nat.le_trans zl321 (Nat.le_of_eq W327.size.symm)
          have K327 := K321.wr W327 (Or.inr sz_r)
          have V327 : Arv Z h327 r k321 .int (3 : Int32) [(.int v0), (.int (0 : Int32)), (.int (0 : Int32))] (.int (0 : Int32)) := A327
          refine Own.iinc 89 (fun c_332 => #[.val (.ref a), .val (.int (3 : Int32)), .val (.ref r), .val (.int (1 : Int32)), .val (.ref b), .val (.int (4 : Int32)), .val (.int c_332), .val (.int v0)]) X327 hx ((1 : Int32)) (hb hby d4_86) rfl rfl rfl (fun _ => rfl) fun c_332 hc_332 => ?_
          obtain rfl : c_332 = (1 : Int32) := hc_332.trans (by decide)
          refine Own.goto 59 X327 hx (hb hby d4_89) (by decide) ?_
          refine Own.iload 61 X327 hx (hb hby d4_59) rfl rfl ?_
          refine Own.iload 63 X327 hx (hb hby d4_61) rfl rfl ?_
          refine Own.icmp_ge 92 66 X327 hx (hb hby d4_63) (by decide) rfl (fun tk => absurd tk (by decide)) (fun tk => ?_)
          refine Own.aload 68 X327 hx (hb hby d4_66) rfl rfl rfl ?_
          refine Own.iload 70 X327 hx (hb hby d4_68) rfl rfl ?_
          refine Own.iaload 71 X327 hx hZ e327 (v1) Vf_330 (by decide) rfl (hb hby d4_70) rfl ?_
          refine Own.istoreV 73 #[.val (.ref a), .val (.int (3 : Int32)), .val (.ref r), .val (.int (1 : Int32)), .val (.ref b), .val (.int (4 : Int32)), .val (.int (1 : Int32)), .val (.int v1)] X327 hx (hb hby d4_71) rfl rfl ?_
          refine Own.iload 75 X327 hx (hb hby d4_73) rfl rfl ?_
          refine Own.if_lt 86 78 X327 hx (hb hby d4_75) (by decide) rfl (fun tk => absurd tk q1) (fun tk => ?_)
          refine Own.aloadN 79 X327 hx (hb hby d4_78) rfl rfl rfl ?_
          refine Own.iloadN 80 X327 hx (hb hby d4_79) rfl rfl ?_
          refine Own.iinc 83 (fun c_333 => #[.val (.ref a), .val (.int (3 : Int32)), .val (.ref r), .val (.int c_333), .val (.ref b), .val (.int (4 : Int32)), .val (.int (1 : Int32)), .val (.int v1)]) X327 hx ((1 : Int32)) (hb hby d4_80) rfl rfl rfl (fun _ => rfl) fun c_333 hc_333 => ?_
          obtain rfl : c_333 = (2 : Int32) := hc_333.trans (by decide)
          refine Own.iload 85 X327 hx (hb hby d4_83) rfl rfl ?_
          refine Own.iastore 86 X327 hx hZ e327 V327 (by decide) (Nat.le_of_ble_eq_true rfl) (hb hby d4_85) rfl ?_
          intro T334 h334 X334 e334 W334 A334
          have N334 := Fr.snoc X334 N327 g_r
          have Ff_336 := Ff_329.other W334 (Or.inl ne_a_r)
          have Vf_337 := Vf_330.other W334 ne_b_r
          have zl334 := Nat.le_trans zl327 (Nat.le_of_eq W334.size.symm)
          have K334 := K327.wr W334 (Or.inr sz_r)
          have V334 : Arv Z h334 r k321 .int (3 : Int32) [(.int v0), (.int v1), (.int (0 : Int32))] (.int (0 : Int32)) := A334
          refine Own.iinc 89 (fun c_339 => #[.val (.ref a), .val (.int (3 : Int32)), .val (.ref r), .val (.int (2 : Int32)), .val (.ref b), .val (.int (4 : Int32)), .val (.int c_339), .val (.int v1)]) X334 hx ((1 : Int32)) (hb hby d4_86) rfl rfl rfl (fun _ => rfl) fun c_339 hc_339 => ?_
          obtain rfl : c_339 = (2 : Int32) := hc_339.trans (by decide)
          refine Own.goto 59 X334 hx (hb hby d4_89) (by decide) ?_
          refine Own.iload 61 X334 hx (hb hby d4_59) rfl rfl ?_
          refine Own.iload 63 X334 hx (hb hby d4_61) rfl rfl ?_
          refine Own.icmp_ge 92 66 X334 hx (hb hby d4_63) (by decide) rfl (fun tk => absurd tk (by decide)) (fun tk => ?_)
          refine Own.aload 68 X334 hx (hb hby d4_66) rfl rfl rfl ?_
          refine Own.iload 70 X334 hx (hb hby d4_68) rfl rfl ?_
          refine Own.iaload 71 X334 hx hZ e334 (v2) Vf_337 (by decide) rfl (hb hby d4_70) rfl ?_
          refine Own.istoreV 73 #[.val (.ref a), .val (.int (3 : Int32)), .val (.ref r), .val (.int (2 : Int32)), .val (.ref b), .val (.int (4 : Int32)), .val (.int (2 : Int32)), .val (.int v2)] X334 hx (hb hby d4_71) rfl rfl ?_
          refine Own.iload 75 X334 hx (hb hby d4_73) rfl rfl ?_
          refine Own.if_lt 86 78 X334 hx (hb hby d4_75) (by decide) rfl (fun tk => absurd tk q2) (fun tk => ?_)
          refine Own.aloadN 79 X334 hx (hb hby d4_78) rfl rfl rfl ?_
          refine Own.iloadN 80 X334 hx (hb hby d4_79) rfl rfl ?_
          refine Own.iinc 83 (fun c_340 => #[.val (.ref a), .val (.int (3 : Int32)), .val (.ref r), .val (.int c_340), .val (.ref b), .val (.int (4 : Int32)), .val (.int (2 : Int32)), .val (.int v2)]) X334 hx ((1 : Int32)) (hb hby d4_80) rfl rfl rfl (fun _ => rfl) fun c_340 hc_340 => ?_
          obtain rfl : c_340 = (3 : Int32) := hc_340.trans (by decide)
          refine Own.iload 85 X334 hx (hb hby d4_83) rfl rfl ?_
          refine Own.iastore 86 X334 hx hZ e334 V334 (by decide) (Nat.le_of_ble_eq_true rfl) (hb hby d4_85) rfl ?_
          intro T341 h341 X341 e341 W341 A341
          have N341 := Fr.snoc X341 N334 g_r
          have Ff_343 := Ff_336.other W341 (Or.inl ne_a_r)
          have Vf_344 := Vf_337.other W341 ne_b_r
          have zl341 := Nat.le_trans zl334 (Nat.le_of_eq W341.size.symm)
          have K341 := K334.wr W341 (Or.inr sz_r)
          have V341 : Arv Z h341 r k321 .int (3 : Int32) [(.int v0), (.int v1), (.int v2)] (.int (0 : Int32)) := A341
          refine Own.iinc 89 (fun c_346 => #[.val (.ref a), .val (.int (3 : Int32)), .val (.ref r), .val (.int (3 : Int32)), .val (.ref b), .val (.int (4 : Int32)), .val (.int c_346), .val (.int v2)]) X341 hx ((1 : Int32)) (hb hby d4_86) rfl rfl rfl (fun _ => rfl) fun c_346 hc_346 => ?_
          obtain rfl : c_346 = (3 : Int32) := hc_346.trans (by decide)
          refine Own.goto 59 X341 hx (hb hby d4_89) (by decide) ?_
          refine Own.iload 61 X341 hx (hb hby d4_59) rfl rfl ?_
          refine Own.iload 63 X341 hx (hb hby d4_61) rfl rfl ?_
          refine Own.icmp_ge 92 66 X341 hx (hb hby d4_63) (by decide) rfl (fun tk => absurd tk (by decide)) (fun tk => ?_)
          refine Own.aload 68 X341 hx (hb hby d4_66) rfl rfl rfl ?_
          refine Own.iload 70 X341 hx (hb hby d4_68) rfl rfl ?_
          refine Own.iaload 71 X341 hx hZ e341 (v3) Vf_344 (by decide) rfl (hb hby d4_70) rfl ?_
          refine Own.istoreV 73 #[.val (.ref a), .val (.int (3 : Int32)), .val (.ref r), .val (.int (3 : Int32)), .val (.ref b), .val (.int (4 : Int32)), .val (.int (3 : Int32)), .val (.int v3)] X341 hx (hb hby d4_71) rfl rfl ?_
          refine Own.iload 75 X341 hx (hb hby d4_73) rfl rfl ?_
          refine Own.if_lt 86 78 X341 hx (hb hby d4_75) (by decide) rfl (fun tk => ?_) (fun tk => absurd q3 tk)
          refine Own.iinc 89 (fun c_347 => #[.val (.ref a), .val (.int (3 : Int32)), .val (.ref r), .val (.int (3 : Int32)), .val (.ref b), .val (.int (4 : Int32)), .val (.int c_347), .val (.int v3)]) X341 hx ((1 : Int32)) (hb hby d4_86) rfl rfl rfl (fun _ => rfl) fun c_347 hc_347 => ?_
          obtain rfl : c_347 = (4 : Int32) := hc_347.trans (by decide)
          refine Own.goto 59 X341 hx (hb hby d4_89) (by decide) ?_
          refine Own.iload 61 X341 hx (hb hby d4_59) rfl rfl ?_
          refine Own.iload 63 X341 hx (hb hby d4_61) rfl rfl ?_
          refine Own.icmp_ge 92 66 X341 hx (hb hby d4_63) (by decide) rfl (fun tk => ?_) (fun tk => absurd tk (by decide))
          refine Own.aloadN 93 X341 hx (hb hby d4_92) rfl rfl rfl ?_
          refine Own.retRef X341 hx hlk rfl hret rfl (hb hby d4_93) (by decide) (by decide) ?_
          rw [e341]
          exact ⟨r, k321, [v0, v1, v2], rfl, N341, K341, sz_r, g_r, by rw [own_f, List.filter_cons_of_pos (p := fun x => decide (¬ x < 0)) (decide_eq_true q0), List.filter_cons_of_pos (p := fun x => decide (¬ x < 0)) (decide_eq_true q1), List.filter_cons_of_pos (p := fun x => decide (¬ x < 0)) (decide_eq_true q2), List.filter_cons_of_neg (p := fun x => decide (¬ x < 0)) (by rw [decide_eq_true_iff]; exact fun u => u q3), List.filter_nil], V341⟩
        ·
          refine Own.iinc 33 (fun c_348 => #[.val (.ref a), .val (.int c_348), .val (.ref b), .val (.int (4 : Int32)), .val (.int (3 : Int32)), .val (.int v3), .unset, .unset]) X1 hx ((1 : Int32)) (hb hby d4_30) rfl rfl rfl (fun _ => rfl) fun c_348 hc_348 => ?_
          obtain rfl : c_348 = (4 : Int32) := hc_348.trans (by decide)
          refine Own.iinc 36 (fun c_349 => #[.val (.ref a), .val (.int (4 : Int32)), .val (.ref b), .val (.int (4 : Int32)), .val (.int c_349), .val (.int v3), .unset, .unset]) X1 hx ((1 : Int32)) (hb hby d4_33) rfl rfl rfl (fun _ => rfl) fun c_349 hc_349 => ?_
          obtain rfl : c_349 = (4 : Int32) := hc_349.trans (by decide)
          refine Own.goto 13 X1 hx (hb hby d4_36) (by decide) ?_
          refine Own.iload 15 X1 hx (hb hby d4_13) rfl rfl ?_
          refine Own.iloadN 16 X1 hx (hb hby d4_15) rfl rfl ?_
          refine Own.icmp_ge 39 19 X1 hx (hb hby d4_16) (by decide) rfl (fun tk => ?_) (fun tk => absurd tk (by decide))
          refine Own.iloadN 40 X1 hx (hb hby d4_39) rfl rfl ?_
          refine Own.newArr 42 4 X1 hx hZ (w 5 rfl) e1 (by decide) (by decide) (by decide) (hb hby d4_40) rfl (by decide) (by decide) ?_
          intro T350 h350 r k350 z350 X350 e350 E350 A350
          have ne_a_r : a ≠ r := Nat.ne_of_lt (Nat.lt_of_lt_of_le F3.lt (Nat.le_of_eq z350.symm))
          have ne_b_r : b ≠ r := Nat.ne_of_lt (Nat.lt_of_lt_of_le V1.lt (Nat.le_of_eq z350.symm))
          have g_r : n0 ≤ r := Nat.le_trans Z0 (Nat.le_of_eq z350.symm)
          have sz_r : h0.size ≤ r := Nat.le_trans (Keep.refl h0 []).1 (Nat.le_of_eq z350.symm)
          have K350 := (Keep.refl h0 []).ext E350
          have Ff_352 := F3.ext E350
          have Vf_353 := V1.ext E350
          have zl350 := Nat.le_trans Z0 E350.1
          have V350 : Arv Z h350 r k350 .int (4 : Int32) [(.int (0 : Int32)), (.int (0 : Int32)), (.int (0 : Int32)), (.int (0 : Int32))] (.int (0 : Int32)) := A350
          refine Own.astoreN 43 #[.val (.ref a), .val (.int (4 : Int32)), .val (.ref r), .val (.int (4 : Int32)), .val (.int (4 : Int32)), .val (.int v3), .unset, .unset] X350 hx (hb hby d4_42) rfl rfl rfl ?_
          refine Own.iconst 44 X350 hx ((0 : Int32)) (hb hby d4_43) rfl rfl ?_
          refine Own.istoreNV 45 #[.val (.ref a), .val (.int (4 : Int32)), .val (.ref r), .val (.int (0 : Int32)), .val (.int (4 : Int32)), .val (.int v3), .unset, .unset] X350 hx (hb hby d4_44) rfl rfl ?_
          refine Own.aloadN 46 X350 hx (hb hby d4_45) rfl rfl rfl ?_
          refine Own.getFld 49 X350 hx hZ hown (host := "") (Or.inl (w 29 rfl)) Via.refl e350 Ff_352 (hb hby d4_46) rfl ?_
          intro T354 X354 e354
          refine Own.astore 51 #[.val (.ref a), .val (.int (4 : Int32)), .val (.ref r), .val (.int (0 : Int32)), .val (.ref b), .val (.int v3), .unset, .unset] X354 hx (hb hby d4_49) rfl rfl rfl ?_
          refine Own.aload 53 X354 hx (hb hby d4_51) rfl rfl rfl ?_
          refine Own.arrLen 54 X354 hx hZ e354 Vf_353 (hb hby d4_53) rfl ?_
          refine Own.istoreV 56 #[.val (.ref a), .val (.int (4 : Int32)), .val (.ref r), .val (.int (0 : Int32)), .val (.ref b), .val (.int (4 : Int32)), .unset, .unset] X354 hx (hb hby d4_54) rfl rfl ?_
          refine Own.iconst 57 X354 hx ((0 : Int32)) (hb hby d4_56) rfl rfl ?_
          refine Own.istoreV 59 #[.val (.ref a), .val (.int (4 : Int32)), .val (.ref r), .val (.int (0 : Int32)), .val (.ref b), .val (.int (4 : Int32)), .val (.int (0 : Int32)), .unset] X354 hx (hb hby d4_57) rfl rfl ?_
          refine Own.iload 61 X354 hx (hb hby d4_59) rfl rfl ?_
          refine Own.iload 63 X354 hx (hb hby d4_61) rfl rfl ?_
          refine Own.icmp_ge 92 66 X354 hx (hb hby d4_63) (by decide) rfl (fun tk => absurd tk (by decide)) (fun tk => ?_)
          refine Own.aload 68 X354 hx (hb hby d4_66) rfl rfl rfl ?_
          refine Own.iload 70 X354 hx (hb hby d4_68) rfl rfl ?_
          refine Own.iaload 71 X354 hx hZ e354 (v0) Vf_353 (by decide) rfl (hb hby d4_70) rfl ?_
          refine Own.istoreV 73 #[.val (.ref a), .val (.int (4 : Int32)), .val (.ref r), .val (.int (0 : Int32)), .val (.ref b), .val (.int (4 : Int32)), .val (.int (0 : Int32)), .val (.int v0)] X354 hx (hb hby d4_71) rfl rfl ?_
          refine Own.iload 75 X354 hx (hb hby d4_73) rfl rfl ?_
          refine Own.if_lt 86 78 X354 hx (hb hby d4_75) (by decide) rfl (fun tk => absurd tk q0) (fun tk => ?_)
          refine Own.aloadN 79 X354 hx (hb hby d4_78) rfl rfl rfl ?_
          refine Own.iloadN 80 X354 hx (hb hby d4_79) rfl rfl ?_
          refine Own.iinc 83 (fun c_355 => #[.val (.ref a), .val (.int (4 : Int32)), .val (.ref r), .val (.int c_355), .val (.ref b), .val (.int (4 : Int32)), .val (.int (0 : Int32)), .val (.int v0)]) X354 hx ((1 : Int32)) (hb hby d4_80) rfl rfl rfl (fun _ => rfl) fun c_355 hc_355 => ?_
          obtain rfl : c_355 = (1 : Int32) := hc_355.trans (by decide)
          refine Own.iload 85 X354 hx (hb hby d4_83) rfl rfl ?_
          refine Own.iastore 86 X354 hx hZ e354 V350 (by decide) (Nat.le_of_ble_eq_true rfl) (hb hby d4_85) rfl ?_
          intro T356 h356 X356 e356 W356 A356
          have N356 := Fr.snoc X356 N0 g_r
          have Ff_358 := Ff_352.other W356 (Or.inl ne_a_r)
          have Vf_359 := Vf_353.other W356 ne_b_r
          have zl356 := Nat.le_trans zl350 (Nat.le_of_eq W356.size.symm)
          have K356 := K350.wr W356 (Or.inr sz_r)
          have V356 : Arv Z h356 r k350 .int (4 : Int32) [(.int v0), (.int (0 : Int32)), (.int (0 : Int32)), (.int (0 : Int32))] (.int (0 : Int32)) := A356
          refine Own.iinc 89 (fun c_361 => #[.val (.ref a), .val (.int (4 : Int32)), .val (.ref r), .val (.int (1 : Int32)), .val (.ref b), .val (.int (4 : Int32)), .val (.int c_361), .val (.int v0)]) X356 hx ((1 : Int32)) (hb hby d4_86) rfl rfl rfl (fun _ => rfl) fun c_361 hc_361 => ?_
          obtain rfl : c_361 = (1 : Int32) := hc_361.trans (by decide)
          refine Own.goto 59 X356 hx (hb hby d4_89) (by decide) ?_
          refine Own.iload 61 X356 hx (hb hby d4_59) rfl rfl ?_
          refine Own.iload 63 X356 hx (hb hby d4_61) rfl rfl ?_
          refine Own.icmp_ge 92 66 X356 hx (hb hby d4_63) (by decide) rfl (fun tk => absurd tk (by decide)) (fun tk => ?_)
          refine Own.aload 68 X356 hx (hb hby d4_66) rfl rfl rfl ?_
          refine Own.iload 70 X356 hx (hb hby d4_68) rfl rfl ?_
          refine Own.iaload 71 X356 hx hZ e356 (v1) Vf_359 (by decide) rfl (hb hby d4_70) rfl ?_
          refine Own.istoreV 73 #[.val (.ref a), .val (.int (4 : Int32)), .val (.ref r), .val (.int (1 : Int32)), .val (.ref b), .val (.int (4 : Int32)), .val (.int (1 : Int32)), .val (.int v1)] X356 hx (hb hby d4_71) rfl rfl ?_
          refine Own.iload 75 X356 hx (hb hby d4_73) rfl rfl ?_
          refine Own.if_lt 86 78 X356 hx (hb hby d4_75) (by decide) rfl (fun tk => absurd tk q1) (fun tk => ?_)
          refine Own.aloadN 79 X356 hx (hb hby d4_78) rfl rfl rfl ?_
          refine Own.iloadN 80 X356 hx (hb hby d4_79) rfl rfl ?_
          refine Own.iinc 83 (fun c_362 => #[.val (.ref a), .val (.int (4 : Int32)), .val (.ref r), .val (.int c_362), .val (.ref b), .val (.int (4 : Int32)), .val (.int (1 : Int32)), .val (.int v1)]) X356 hx ((1 : Int32)) (hb hby d4_80) rfl rfl rfl (fun _ => rfl) fun c_362 hc_362 => ?_
          obtain rfl : c_362 = (2 : Int32) := hc_362.trans (by decide)
          refine Own.iload 85 X356 hx (hb hby d4_83) rfl rfl ?_
          refine Own.iastore 86 X356 hx hZ e356 V356 (by decide) (Nat.le_of_ble_eq_true rfl) (hb hby d4_85) rfl ?_
          intro T363 h363 X363 e363 W363 A363
          have N363 := Fr.snoc X363 N356 g_r
          have Ff_365 := Ff_358.other W363 (Or.inl ne_a_r)
          have Vf_366 := Vf_359.other W363 ne_b_r
          have zl363 := Nat.le_trans zl356 (Nat.le_of_eq W363.size.symm)
          have K363 := K356.wr W363 (Or.inr sz_r)
          have V363 : Arv Z h363 r k350 .int (4 : Int32) [(.int v0), (.int v1), (.int (0 : Int32)), (.int (0 : Int32))] (.int (0 : Int32)) := A363
          refine Own.iinc 89 (fun c_368 => #[.val (.ref a), .val (.int (4 : Int32)), .val (.ref r), .val (.int (2 : Int32)), .val (.ref b), .val (.int (4 : Int32)), .val (.int c_368), .val (.int v1)]) X363 hx ((1 : Int32)) (hb hby d4_86) rfl rfl rfl (fun _ => rfl) fun c_368 hc_368 => ?_
          obtain rfl : c_368 = (2 : Int32) := hc_368.trans (by decide)
          refine Own.goto 59 X363 hx (hb hby d4_89) (by decide) ?_
          refine Own.iload 61 X363 hx (hb hby d4_59) rfl rfl ?_
          refine Own.iload 63 X363 hx (hb hby d4_61) rfl rfl ?_
          refine Own.icmp_ge 92 66 X363 hx (hb hby d4_63) (by decide) rfl (fun tk => absurd tk (by decide)) (fun tk => ?_)
          refine Own.aload 68 X363 hx (hb hby d4_66) rfl rfl rfl ?_
          refine Own.iload 70 X363 hx (hb hby d4_68) rfl rfl ?_
          refine Own.iaload 71 X363 hx hZ e363 (v2) Vf_366 (by decide) rfl (hb hby d4_70) rfl ?_
          refine Own.istoreV 73 #[.val (.ref a), .val (.int (4 : Int32)), .val (.ref r), .val (.int (2 : Int32)), .val (.ref b), .val (.int (4 : Int32)), .val (.int (2 : Int32)), .val (.int v2)] X363 hx (hb hby d4_71) rfl rfl ?_
          refine Own.iload 75 X363 hx (hb hby d4_73) rfl rfl ?_
          refine Own.if_lt 86 78 X363 hx (hb hby d4_75) (by decide) rfl (fun tk => absurd tk q2) (fun tk => ?_)
          refine Own.aloadN 79 X363 hx (hb hby d4_78) rfl rfl rfl ?_
          refine Own.iloadN 80 X363 hx (hb hby d4_79) rfl rfl ?_
          refine Own.iinc 83 (fun c_369 => #[.val (.ref a), .val (.int (4 : Int32)), .val (.ref r), .val (.int c_369), .val (.ref b), .val (.int (4 : Int32)), .val (.int (2 : Int32)), .val (.int v2)]) X363 hx ((1 : Int32)) (hb hby d4_80) rfl rfl rfl (fun _ => rfl) fun c_369 hc_369 => ?_
          obtain rfl : c_369 = (3 : Int32) := hc_369.trans (by decide)
          refine Own.iload 85 X363 hx (hb hby d4_83) rfl rfl ?_
          refine Own.iastore 86 X363 hx hZ e363 V363 (by decide) (Nat.le_of_ble_eq_true rfl) (hb hby d4_85) rfl ?_
          intro T370 h370 X370 e370 W370 A370
          have N370 := Fr.snoc X370 N363 g_r
          have Ff_372 := Ff_365.other W370 (Or.inl ne_a_r)
          have Vf_373 := Vf_366.other W370 ne_b_r
          have zl370 := Nat.le_trans zl363 (Nat.le_of_eq W370.size.symm)
          have K370 := K363.wr W370 (Or.inr sz_r)
          have V370 : Arv Z h370 r k350 .int (4 : Int32) [(.int v0), (.int v1), (.int v2), (.int (0 : Int32))] (.int (0 : Int32)) := A370
          refine Own.iinc 89 (fun c_375 => #[.val (.ref a), .val (.int (4 : Int32)), .val (.ref r), .val (.int (3 : Int32)), .val (.ref b), .val (.int (4 : Int32)), .val (.int c_375), .val (.int v2)]) X370 hx ((1 : Int32)) (hb hby d4_86) rfl rfl rfl (fun _ => rfl) fun c_375 hc_375 => ?_
          obtain rfl : c_375 = (3 : Int32) := hc_375.trans (by decide)
          refine Own.goto 59 X370 hx (hb hby d4_89) (by decide) ?_
          refine Own.iload 61 X370 hx (hb hby d4_59) rfl rfl ?_
          refine Own.iload 63 X370 hx (hb hby d4_61) rfl rfl ?_
          refine Own.icmp_ge 92 66 X370 hx (hb hby d4_63) (by decide) rfl (fun tk => absurd tk (by decide)) (fun tk => ?_)
          refine Own.aload 68 X370 hx (hb hby d4_66) rfl rfl rfl ?_
          refine Own.iload 70 X370 hx (hb hby d4_68) rfl rfl ?_
          refine Own.iaload 71 X370 hx hZ e370 (v3) Vf_373 (by decide) rfl (hb hby d4_70) rfl ?_
          refine Own.istoreV 73 #[.val (.ref a), .val (.int (4 : Int32)), .val (.ref r), .val (.int (3 : Int32)), .val (.ref b), .val (.int (4 : Int32)), .val (.int (3 : Int32)), .val (.int v3)] X370 hx (hb hby d4_71) rfl rfl ?_
          refine Own.iload 75 X370 hx (hb hby d4_73) rfl rfl ?_
          refine Own.if_lt 86 78 X370 hx (hb hby d4_75) (by decide) rfl (fun tk => absurd tk q3) (fun tk => ?_)
          refine Own.aloadN 79 X370 hx (hb hby d4_78) rfl rfl rfl ?_
          refine Own.iloadN 80 X370 hx (hb hby d4_79) rfl rfl ?_
          refine Own.iinc 83 (fun c_376 => #[.val (.ref a), .val (.int (4 : Int32)), .val (.ref r), .val (.int c_376), .val (.ref b), .val (.int (4 : Int32)), .val (.int (3 : Int32)), .val (.int v3)]) X370 hx ((1 : Int32)) (hb hby d4_80) rfl rfl rfl (fun _ => rfl) fun c_376 hc_376 => ?_
          obtain rfl : c_376 = (4 : Int32) := hc_376.trans (by decide)
          refine Own.iload 85 X370 hx (hb hby d4_83) rfl rfl ?_
          refine Own.iastore 86 X370 hx hZ e370 V370 (by decide) (Nat.le_of_ble_eq_true rfl) (hb hby d4_85) rfl ?_
          intro T377 h377 X377 e377 W377 A377
          have N377 := Fr.snoc X377 N370 g_r
          have Ff_379 := Ff_372.other W377 (Or.inl ne_a_r)
          have Vf_380 := Vf_373.other W377 ne_b_r
          have zl377 := Nat.le_trans zl370 (Nat.le_of_eq W377.size.symm)
          have K377 := K370.wr W377 (Or.inr sz_r)
          have V377 : Arv Z h377 r k350 .int (4 : Int32) [(.int v0), (.int v1), (.int v2), (.int v3)] (.int (0 : Int32)) := A377
          refine Own.iinc 89 (fun c_382 => #[.val (.ref a), .val (.int (4 : Int32)), .val (.ref r), .val (.int (4 : Int32)), .val (.ref b), .val (.int (4 : Int32)), .val (.int c_382), .val (.int v3)]) X377 hx ((1 : Int32)) (hb hby d4_86) rfl rfl rfl (fun _ => rfl) fun c_382 hc_382 => ?_
          obtain rfl : c_382 = (4 : Int32) := hc_382.trans (by decide)
          refine Own.goto 59 X377 hx (hb hby d4_89) (by decide) ?_
          refine Own.iload 61 X377 hx (hb hby d4_59) rfl rfl ?_
          refine Own.iload 63 X377 hx (hb hby d4_61) rfl rfl ?_
          refine Own.icmp_ge 92 66 X377 hx (hb hby d4_63) (by decide) rfl (fun tk => ?_) (fun tk => absurd tk (by decide))
          refine Own.aloadN 93 X377 hx (hb hby d4_92) rfl rfl rfl ?_
          refine Own.retRef X377 hx hlk rfl hret rfl (hb hby d4_93) (by decide) (by decide) ?_
          rw [e377]
          exact ⟨r, k350, [v0, v1, v2, v3], rfl, N377, K377, sz_r, g_r, by rw [own_f, List.filter_cons_of_pos (p := fun x => decide (¬ x < 0)) (decide_eq_true q0), List.filter_cons_of_pos (p := fun x => decide (¬ x < 0)) (decide_eq_true q1), List.filter_cons_of_pos (p := fun x => decide (¬ x < 0)) (decide_eq_true q2), List.filter_cons_of_pos (p := fun x => decide (¬ x < 0)) (decide_eq_true q3), List.filter_nil], V377⟩
theorem d5_0 : decode prog_53_method_4_code 0 = .ok (.aload_n 0, 1) := by decide +kernel
theorem d5_1 : decode prog_53_method_4_code 1 = .ok (.getfield 17, 3) := by decide +kernel
theorem d5_4 : decode prog_53_method_4_code 4 = .ok (.arraylength, 1) := by decide +kernel
theorem d5_5 : decode prog_53_method_4_code 5 = .ok (.ireturn, 1) := by decide +kernel
set_option maxRecDepth 65536 in
set_option maxHeartbeats 40000000 in
theorem m5_0 (l : Launch) (Z : State) (a0 : Array Value) (w : ∀ (i : Nat) {d : Jvm.Cond}, tables_1[i]? = some d → d.before a0 Z = true) (a : Addr) (b : Addr) (kb : ClassId)  (h0 : Heap) (F3 : Fld Z h0 a "com/example/skuld/skuld/htn/Pattern" "slots" "[I" (.ref b)) (V1 : Arv Z h0 b kb .int (0 : Int32) [] (.int (0 : Int32))) :
    Own.Met l Z (⟨"com/example/skuld/skuld/htn/Pattern", "arity", "()I"⟩ : MethodName) prog_53_method_4_code 1 (some .int) [] ({ frames := 0, cells := 0, slots := 0, locals := 0 } : Room) #[(.ref a)] h0 (fun v h L => v = some (.int (0 : Int32)) ∧ h = h0 ∧ L = []) := by
  refine Own.Met.of (plainFor_of_name (by first | (simp [plainName, overriddenIn]; done) | decide +kernel)) ?_
  intro p e s m below meth c T0 hx hby hml hown hnm hret hlk hZ X0 e0
  have hown : s.vm.findClass "com/example/skuld/skuld/htn/Pattern" = some m.cls := hown
  have hml : c.maxLocals = 1 := hml
  have hnm : meth.name = "arity" := hnm
  have ef : entryFrame m #[(.ref a)] 1 = mkF m 0 #[.val (.ref a)] [] := by first | (simp [entryFrame, mkF, argsToLocals, Value.category]; done) | rfl
  rw [ef]
  refine Own.aloadN 1 X0 hx (hb hby d5_0) rfl rfl rfl ?_
  refine Own.getFld 4 X0 hx hZ hown (host := "") (Or.inl (w 29 rfl)) Via.refl e0 F3 (hb hby d5_1) rfl ?_
  intro T1 X1 e1
  refine Own.arrLen 5 X1 hx hZ e1 V1 (hb hby d5_4) rfl ?_
  refine Own.retInt X1 hx hlk hret (hb hby d5_5) (by decide) (by decide) ?_
  exact ⟨rfl, e1, rfl⟩
set_option maxRecDepth 65536 in
set_option maxHeartbeats 40000000 in
theorem m5_1 (l : Launch) (Z : State) (a0 : Array Value) (w : ∀ (i : Nat) {d : Jvm.Cond}, tables_1[i]? = some d → d.before a0 Z = true) (a : Addr) (b : Addr) (kb : ClassId) (v0 : Int32) (h0 : Heap) (F3 : Fld Z h0 a "com/example/skuld/skuld/htn/Pattern" "slots" "[I" (.ref b)) (V1 : Arv Z h0 b kb .int (1 : Int32) [(.int v0)] (.int (0 : Int32))) :
    Own.Met l Z (⟨"com/example/skuld/skuld/htn/Pattern", "arity", "()I"⟩ : MethodName) prog_53_method_4_code 1 (some .int) [] ({ frames := 0, cells := 0, slots := 0, locals := 0 } : Room) #[(.ref a)] h0 (fun v h L => v = some (.int (1 : Int32)) ∧ h = h0 ∧ L = []) := by
  refine Own.Met.of (plainFor_of_name (by first | (simp [plainName, overriddenIn]; done) | decide +kernel)) ?_
  intro p e s m below meth c T0 hx hby hml hown hnm hret hlk hZ X0 e0
  have hown : s.vm.findClass "com/example/skuld/skuld/htn/Pattern" = some m.cls := hown
  have hml : c.maxLocals = 1 := hml
  have hnm : meth.name = "arity" := hnm
  have ef : entryFrame m #[(.ref a)] 1 = mkF m 0 #[.val (.ref a)] [] := by first | (simp [entryFrame, mkF, argsToLocals, Value.category]; done) | rfl
  rw [ef]
  refine Own.aloadN 1 X0 hx (hb hby d5_0) rfl rfl rfl ?_
  refine Own.getFld 4 X0 hx hZ hown (host := "") (Or.inl (w 29 rfl)) Via.refl e0 F3 (hb hby d5_1) rfl ?_
  intro T1 X1 e1
  refine Own.arrLen 5 X1 hx hZ e1 V1 (hb hby d5_4) rfl ?_
  refine Own.retInt X1 hx hlk hret (hb hby d5_5) (by decide) (by decide) ?_
  exact ⟨rfl, e1, rfl⟩
set_option maxRecDepth 65536 in
set_option maxHeartbeats 40000000 in
theorem m5_2 (l : Launch) (Z : State) (a0 : Array Value) (w : ∀ (i : Nat) {d : Jvm.Cond}, tables_1[i]? = some d → d.before a0 Z = true) (a : Addr) (b : Addr) (kb : ClassId) (v0 v1 : Int32) (h0 : Heap) (F3 : Fld Z h0 a "com/example/skuld/skuld/htn/Pattern" "slots" "[I" (.ref b)) (V1 : Arv Z h0 b kb .int (2 : Int32) [(.int v0), (.int v1)] (.int (0 : Int32))) :
    Own.Met l Z (⟨"com/example/skuld/skuld/htn/Pattern", "arity", "()I"⟩ : MethodName) prog_53_method_4_code 1 (some .int) [] ({ frames := 0, cells := 0, slots := 0, locals := 0 } : Room) #[(.ref a)] h0 (fun v h L => v = some (.int (2 : Int32)) ∧ h = h0 ∧ L = []) := by
  refine Own.Met.of (plainFor_of_name (by first | (simp [plainName, overriddenIn]; done) | decide +kernel)) ?_
  intro p e s m below meth c T0 hx hby hml hown hnm hret hlk hZ X0 e0
  have hown : s.vm.findClass "com/example/skuld/skuld/htn/Pattern" = some m.cls := hown
  have hml : c.maxLocals = 1 := hml
  have hnm : meth.name = "arity" := hnm
  have ef : entryFrame m #[(.ref a)] 1 = mkF m 0 #[.val (.ref a)] [] := by first | (simp [entryFrame, mkF, argsToLocals, Value.category]; done) | rfl
  rw [ef]
  refine Own.aloadN 1 X0 hx (hb hby d5_0) rfl rfl rfl ?_
  refine Own.getFld 4 X0 hx hZ hown (host := "") (Or.inl (w 29 rfl)) Via.refl e0 F3 (hb hby d5_1) rfl ?_
  intro T1 X1 e1
  refine Own.arrLen 5 X1 hx hZ e1 V1 (hb hby d5_4) rfl ?_
  refine Own.retInt X1 hx hlk hret (hb hby d5_5) (by decide) (by decide) ?_
  exact ⟨rfl, e1, rfl⟩
set_option maxRecDepth 65536 in
set_option maxHeartbeats 40000000 in
theorem m5_3 (l : Launch) (Z : State) (a0 : Array Value) (w : ∀ (i : Nat) {d : Jvm.Cond}, tables_1[i]? = some d → d.before a0 Z = true) (a : Addr) (b : Addr) (kb : ClassId) (v0 v1 v2 : Int32) (h0 : Heap) (F3 : Fld Z h0 a "com/example/skuld/skuld/htn/Pattern" "slots" "[I" (.ref b)) (V1 : Arv Z h0 b kb .int (3 : Int32) [(.int v0), (.int v1), (.int v2)] (.int (0 : Int32))) :
    Own.Met l Z (⟨"com/example/skuld/skuld/htn/Pattern", "arity", "()I"⟩ : MethodName) prog_53_method_4_code 1 (some .int) [] ({ frames := 0, cells := 0, slots := 0, locals := 0 } : Room) #[(.ref a)] h0 (fun v h L => v = some (.int (3 : Int32)) ∧ h = h0 ∧ L = []) := by
  refine Own.Met.of (plainFor_of_name (by first | (simp [plainName, overriddenIn]; done) | decide +kernel)) ?_
  intro p e s m below meth c T0 hx hby hml hown hnm hret hlk hZ X0 e0
  have hown : s.vm.findClass "com/example/skuld/skuld/htn/Pattern" = some m.cls := hown
  have hml : c.maxLocals = 1 := hml
  have hnm : meth.name = "arity" := hnm
  have ef : entryFrame m #[(.ref a)] 1 = mkF m 0 #[.val (.ref a)] [] := by first | (simp [entryFrame, mkF, argsToLocals, Value.category]; done) | rfl
  rw [ef]
  refine Own.aloadN 1 X0 hx (hb hby d5_0) rfl rfl rfl ?_
  refine Own.getFld 4 X0 hx hZ hown (host := "") (Or.inl (w 29 rfl)) Via.refl e0 F3 (hb hby d5_1) rfl ?_
  intro T1 X1 e1
  refine Own.arrLen 5 X1 hx hZ e1 V1 (hb hby d5_4) rfl ?_
  refine Own.retInt X1 hx hlk hret (hb hby d5_5) (by decide) (by decide) ?_
  exact ⟨rfl, e1, rfl⟩
set_option maxRecDepth 65536 in
set_option maxHeartbeats 40000000 in
theorem m5_4 (l : Launch) (Z : State) (a0 : Array Value) (w : ∀ (i : Nat) {d : Jvm.Cond}, tables_1[i]? = some d → d.before a0 Z = true) (a : Addr) (b : Addr) (kb : ClassId) (v0 v1 v2 v3 : Int32) (h0 : Heap) (F3 : Fld Z h0 a "com/example/skuld/skuld/htn/Pattern" "slots" "[I" (.ref b)) (V1 : Arv Z h0 b kb .int (4 : Int32) [(.int v0), (.int v1), (.int v2), (.int v3)] (.int (0 : Int32))) :
    Own.Met l Z (⟨"com/example/skuld/skuld/htn/Pattern", "arity", "()I"⟩ : MethodName) prog_53_method_4_code 1 (some .int) [] ({ frames := 0, cells := 0, slots := 0, locals := 0 } : Room) #[(.ref a)] h0 (fun v h L => v = some (.int (4 : Int32)) ∧ h = h0 ∧ L = []) := by
  refine Own.Met.of (plainFor_of_name (by first | (simp [plainName, overriddenIn]; done) | decide +kernel)) ?_
  intro p e s m below meth c T0 hx hby hml hown hnm hret hlk hZ X0 e0
  have hown : s.vm.findClass "com/example/skuld/skuld/htn/Pattern" = some m.cls := hown
  have hml : c.maxLocals = 1 := hml
  have hnm : meth.name = "arity" := hnm
  have ef : entryFrame m #[(.ref a)] 1 = mkF m 0 #[.val (.ref a)] [] := by first | (simp [entryFrame, mkF, argsToLocals, Value.category]; done) | rfl
  rw [ef]
  refine Own.aloadN 1 X0 hx (hb hby d5_0) rfl rfl rfl ?_
  refine Own.getFld 4 X0 hx hZ hown (host := "") (Or.inl (w 29 rfl)) Via.refl e0 F3 (hb hby d5_1) rfl ?_
  intro T1 X1 e1
  refine Own.arrLen 5 X1 hx hZ e1 V1 (hb hby d5_4) rfl ?_
  refine Own.retInt X1 hx hlk hret (hb hby d5_5) (by decide) (by decide) ?_
  exact ⟨rfl, e1, rfl⟩
set_option maxRecDepth 65536 in
set_option maxHeartbeats 40000000 in
theorem m0 (l : Launch) (Z : State) (a0 : Array Value) (w : ∀ (i : Nat) {d : Jvm.Cond}, tables_1[i]? = some d → d.before a0 Z = true) (x0 : Int32) (x1 : Int32) (x2 : Int32) (x3 : Int32) (x4 : Int32)  (h0 : Heap) (n0 : Nat) (Z0 : n0 ≤ h0.size) :
    Own.MetW l Z x code maxLocals ret tables_1 room_1 #[(.int x0), (.int x1), (.int x2), (.int x3), (.int x4)] h0 (fun v h L => v = some (.int 1) ∧ Fr n0 L) := by
  refine Own.MetW.of (plainFor_of_name (by first | (simp [plainName, overriddenIn]; done) | decide +kernel)) ?_
  intro p e s m below meth c T0 hx hby hml hown hnm hret hlk hZ X0 e0
  have hown : s.vm.findClass "com/example/skuld/skuld/htn/PatternSlotsPinLaw" = some m.cls := hown
  have hml : c.maxLocals = 17 := hml
  have hnm : meth.name = "law" := hnm
  have hret : meth.sig.returnType = some .boolean := hret
  have ef : entryFrame m #[(.int x0), (.int x1), (.int x2), (.int x3), (.int x4)] maxLocals = mkF m 0 #[.val (.int x0), .val (.int x1), .val (.int x2), .val (.int x3), .val (.int x4), .unset, .unset, .unset, .unset, .unset, .unset, .unset, .unset, .unset, .unset, .unset, .unset] [] := by first | (simp [entryFrame, mkF, argsToLocals, Value.category, maxLocals]; done) | rfl
  rw [ef]
  have N0 := Fr.nil n0
  have hSA : ∀ d ∈ Bundle.stringAtoms, d.before a0 Z = true := fun d hd => by
    obtain ⟨i, hi⟩ := List.getElem?_of_mem ((by decide +kernel : ∀ d ∈ Bundle.stringAtoms, d ∈ tables_1) d hd)
    exact w i hi
  refine Own.iloadN 1 X0 hx (hb hby at_0) rfl rfl ?_
  refine Own.ldcInt 3 X0 hx hZ ((2147483647 : Int32)) hown (w 0 rfl) (hb hby at_1) rfl ?_
  refine Own.iand 4 X0 hx (hb hby at_3) rfl rfl ?_
  refine Own.iconst 5 X0 hx ((5 : Int32)) (hb hby at_4) rfl rfl ?_
  refine Own.irem 6 X0 hx (hb hby at_5) rfl (by decide) rfl ?_
  refine Own.istore 8 (fun v5_6 => #[.val (.int x0), .val (.int x1), .val (.int x2), .val (.int x3), .val (.int x4), .val (.int v5_6), .unset, .unset, .unset, .unset, .unset, .unset, .unset, .unset, .unset, .unset, .unset]) X0 hx (hb hby at_6) rfl (fun _ => rfl) fun v5_6 hv5_6 => ?_
  refine Own.iloadN 9 X0 hx (hb hby at_8) rfl rfl ?_
  refine Own.callSt 12 0 [(.int x1)] [] X0 hx hZ hown (m1 l Z a0 w x1 h0) (w 1 rfl) (w 2 rfl) (w 3 rfl) (w 4 rfl) (by decide) e0 (by decide) (by decide) (by decide) (by decide) (by rw [hml]; rfl) (lenOf pd_0 rfl) rfl (Nat.le_of_eq rfl) (hb hby at_9) rfl ?_
  rintro vv T1 L1 X1 ⟨rfl, hh1, rfl⟩
  have N1 := Fr.app N0 (Fr.nil _)
  refine Own.istore 14 (fun v6_12 => #[.val (.int x0), .val (.int x1), .val (.int x2), .val (.int x3), .val (.int x4), .val (.int v5_6), .val (.int v6_12), .unset, .unset, .unset, .unset, .unset, .unset, .unset, .unset, .unset, .unset]) X1 hx (hb hby at_12) rfl (fun _ => rfl) fun v6_12 hv6_12 => ?_
  refine Own.iloadN 15 X1 hx (hb hby at_14) rfl rfl ?_
  refine Own.callSt 18 0 [(.int x2)] [] X1 hx hZ hown (m1 l Z a0 w x2 _) (w 1 rfl) (w 2 rfl) (w 3 rfl) (w 4 rfl) (by decide) hh1 (by decide) (by decide) (by decide) (by decide) (by rw [hml]; rfl) (lenOf pd_0 rfl) rfl (Nat.le_of_eq rfl) (hb hby at_15) rfl ?_
  rintro vv T2 L2 X2 ⟨rfl, hh2, rfl⟩
  have N2 := Fr.app N1 (Fr.nil _)
  refine Own.istore 20 (fun v7_18 => #[.val (.int x0), .val (.int x1), .val (.int x2), .val (.int x3), .val (.int x4), .val (.int v5_6), .val (.int v6_12), .val (.int v7_18), .unset, .unset, .unset, .unset, .unset, .unset, .unset, .unset, .unset]) X2 hx (hb hby at_18) rfl (fun _ => rfl) fun v7_18 hv7_18 => ?_
  refine Own.iloadN 21 X2 hx (hb hby at_20) rfl rfl ?_
  refine Own.callSt 24 0 [(.int x3)] [] X2 hx hZ hown (m1 l Z a0 w x3 _) (w 1 rfl) (w 2 rfl) (w 3 rfl) (w 4 rfl) (by decide) hh2 (by decide) (by decide) (by decide) (by decide) (by rw [hml]; rfl) (lenOf pd_0 rfl) rfl (Nat.le_of_eq rfl) (hb hby at_21) rfl ?_
  rintro vv T3 L3 X3 ⟨rfl, hh3, rfl⟩
  have N3 := Fr.app N2 (Fr.nil _)
  refine Own.istore 26 (fun v8_24 => #[.val (.int x0), .val (.int x1), .val (.int x2), .val (.int x3), .val (.int x4), .val (.int v5_6), .val (.int v6_12), .val (.int v7_18), .val (.int v8_24), .unset, .unset, .unset, .unset, .unset, .unset, .unset, .unset]) X3 hx (hb hby at_24) rfl (fun _ => rfl) fun v8_24 hv8_24 => ?_
  refine Own.iload 28 X3 hx (hb hby at_26) rfl rfl ?_
  refine Own.callSt 31 0 [(.int x4)] [] X3 hx hZ hown (m1 l Z a0 w x4 _) (w 1 rfl) (w 2 rfl) (w 3 rfl) (w 4 rfl) (by decide) hh3 (by decide) (by decide) (by decide) (by decide) (by rw [hml]; rfl) (lenOf pd_0 rfl) rfl (Nat.le_of_eq rfl) (hb hby at_28) rfl ?_
  rintro vv T4 L4 X4 ⟨rfl, hh4, rfl⟩
  have N4 := Fr.app N3 (Fr.nil _)
  refine Own.istore 33 (fun v9_31 => #[.val (.int x0), .val (.int x1), .val (.int x2), .val (.int x3), .val (.int x4), .val (.int v5_6), .val (.int v6_12), .val (.int v7_18), .val (.int v8_24), .val (.int v9_31), .unset, .unset, .unset, .unset, .unset, .unset, .unset]) X4 hx (hb hby at_31) rfl (fun _ => rfl) fun v9_31 hv9_31 => ?_
  refine Own.iload 35 X4 hx (hb hby at_33) rfl rfl ?_
  have B5 := own_five x0
  rw [← hv5_6] at B5
  refine Own.if_ne 46 38 X4 hx (hb hby at_35) (by decide) rfl (fun e0x => ?_) (fun e0x => ?_)
  ·
    refine Own.iload 48 X4 hx (hb hby at_46) rfl rfl ?_
    refine Own.iconst 49 X4 hx ((1 : Int32)) (hb hby at_48) rfl rfl ?_
    refine Own.icmp_ne 65 52 X4 hx (hb hby at_49) (by decide) rfl (fun e1 => ?_) (fun e1 => ?_)
    ·
      refine Own.iload 67 X4 hx (hb hby at_65) rfl rfl ?_
      refine Own.iconst 68 X4 hx ((2 : Int32)) (hb hby at_67) rfl rfl ?_
      refine Own.icmp_ne 89 71 X4 hx (hb hby at_68) (by decide) rfl (fun e2 => ?_) (fun e2 => ?_)
      ·
        refine Own.iload 91 X4 hx (hb hby at_89) rfl rfl ?_
        refine Own.iconst 92 X4 hx ((3 : Int32)) (hb hby at_91) rfl rfl ?_
        refine Own.icmp_ne 118 95 X4 hx (hb hby at_92) (by decide) rfl (fun e3 => ?_) (fun e3 => ?_)
        ·
          obtain rfl : v5_6 = 4 := own_four B5 e0x e1 e2 e3
          refine Own.iconst 119 X4 hx ((4 : Int32)) (hb hby at_118) rfl rfl ?_
          refine Own.newArr 121 4 X4 hx hZ (w 5 rfl) hh4 (by decide) (by decide) (by decide) (hb hby at_119) rfl (by decide) (by decide) ?_
          intro T5 h5 sl k5 z5 X5 e5 E5 A5
          have g_sl : n0 ≤ sl := Nat.le_trans Z0 (Nat.le_of_eq z5.symm)
          have zl5 := Nat.le_trans Z0 E5.1
          have V5 : Arv Z h5 sl k5 .int (4 : Int32) [(.int (0 : Int32)), (.int (0 : Int32)), (.int (0 : Int32)), (.int (0 : Int32))] (.int (0 : Int32)) := A5
          refine Own.dup 122 X5 hx (hb hby at_121) rfl rfl ?_
          refine Own.iconst 123 X5 hx ((0 : Int32)) (hb hby at_122) rfl rfl ?_
          refine Own.iload 125 X5 hx (hb hby at_123) rfl rfl ?_
          refine Own.iastore 126 X5 hx hZ e5 V5 (by decide) (Nat.le_of_ble_eq_true rfl) (hb hby at_125) rfl ?_
          intro T7 h7 X7 e7 W7 A7
          have N7 := Fr.snoc X7 N4 g_sl
          have zl7 := Nat.le_trans zl5 (Nat.le_of_eq W7.size.symm)
          have V7 : Arv Z h7 sl k5 .int (4 : Int32) [(.int v6_12), (.int (0 : Int32)), (.int (0 : Int32)), (.int (0 : Int32))] (.int (0 : Int32)) := A7
          refine Own.dup 127 X7 hx (hb hby at_126) rfl rfl ?_
          refine Own.iconst 128 X7 hx ((1 : Int32)) (hb hby at_127) rfl rfl ?_
          refine Own.iload 130 X7 hx (hb hby at_128) rfl rfl ?_
          refine Own.iastore 131 X7 hx hZ e7 V7 (by decide) (Nat.le_of_ble_eq_true rfl) (hb hby at_130) rfl ?_
          intro T10 h10 X10 e10 W10 A10
          have N10 := Fr.snoc X10 N7 g_sl
          have zl10 := Nat.le_trans zl7 (Nat.le_of_eq W10.size.symm)
          have V10 : Arv Z h10 sl k5 .int (4 : Int32) [(.int v6_12), (.int v7_18), (.int (0 : Int32)), (.int (0 : Int32))] (.int (0 : Int32)) := A10
          refine Own.dup 132 X10 hx (hb hby at_131) rfl rfl ?_
          refine Own.iconst 133 X10 hx ((2 : Int32)) (hb hby at_132) rfl rfl ?_
          refine Own.iload 135 X10 hx (hb hby at_133) rfl rfl ?_
          refine Own.iastore 136 X10 hx hZ e10 V10 (by decide) (Nat.le_of_ble_eq_true rfl) (hb hby at_135) rfl ?_
          intro T13 h13 X13 e13 W13 A13
          have N13 := Fr.snoc X13 N10 g_sl
          have zl13 := Nat.le_trans zl10 (Nat.le_of_eq W13.size.symm)
          have V13 : Arv Z h13 sl k5 .int (4 : Int32) [(.int v6_12), (.int v7_18), (.int v8_24), (.int (0 : Int32))] (.int (0 : Int32)) := A13
          refine Own.dup 137 X13 hx (hb hby at_136) rfl rfl ?_
          refine Own.iconst 138 X13 hx ((3 : Int32)) (hb hby at_137) rfl rfl ?_
          refine Own.iload 140 X13 hx (hb hby at_138) rfl rfl ?_
          refine Own.iastore 141 X13 hx hZ e13 V13 (by decide) (Nat.le_of_ble_eq_true rfl) (hb hby at_140) rfl ?_
          intro T16 h16 X16 e16 W16 A16
          have N16 := Fr.snoc X16 N13 g_sl
          have zl16 := Nat.le_trans zl13 (Nat.le_of_eq W16.size.symm)
          have V16 : Arv Z h16 sl k5 .int (4 : Int32) [(.int v6_12), (.int v7_18), (.int v8_24), (.int v9_31)] (.int (0 : Int32)) := A16
          refine Own.astore 143 #[.val (.int x0), .val (.int x1), .val (.int x2), .val (.int x3), .val (.int x4), .val (.int (4 : Int32)), .val (.int v6_12), .val (.int v7_18), .val (.int v8_24), .val (.int v9_31), .val (.ref sl), .unset, .unset, .unset, .unset, .unset, .unset] X16 hx (hb hby at_141) rfl rfl rfl ?_
          refine Own.aload 145 X16 hx (hb hby at_143) rfl rfl rfl ?_
          refine Own.arrLen 146 X16 hx hZ e16 V16 (hb hby at_145) rfl ?_
          refine Own.newRefArr 149 4 X16 hx hZ hown (w 6 rfl) (w 7 rfl) e16 (by decide) (by decide) (by decide) (hb hby at_146) rfl (by decide) (by decide) ?_
          intro T19 h19 cn k19 z19 X19 e19 E19 A19 Ov19
          have ne_sl_cn : sl ≠ cn := Nat.ne_of_lt (Nat.lt_of_lt_of_le V16.lt (Nat.le_of_eq z19.symm))
          have g_cn : n0 ≤ cn := Nat.le_trans zl16 (Nat.le_of_eq z19.symm)
          have Vf_21 := V16.ext E19
          have zl19 := Nat.le_trans zl16 E19.1
          have V19 : Arv Z h19 cn k19 (.object "java/lang/String") (4 : Int32) [.null, .null, .null, .null] .null := A19
          refine Own.astore 151 #[.val (.int x0), .val (.int x1), .val (.int x2), .val (.int x3), .val (.int x4), .val (.int (4 : Int32)), .val (.int v6_12), .val (.int v7_18), .val (.int v8_24), .val (.int v9_31), .val (.ref sl), .val (.ref cn), .unset, .unset, .unset, .unset, .unset] X19 hx (hb hby at_149) rfl rfl rfl ?_
          refine Own.newObj 154 X19 hx hZ hown (w 8 rfl) (w 9 rfl) (w 10 rfl) e19 (hb hby at_151) rfl (by decide) (by decide) ?_
          intro T22 h22 p' z22 X22 e22 E22 A22 D22
          have ne_cn_p' : cn ≠ p' := Nat.ne_of_lt (Nat.lt_of_lt_of_le V19.lt (Nat.le_of_eq z22.symm))
          have ne_sl_p' : sl ≠ p' := Nat.ne_of_lt (Nat.lt_of_lt_of_le Vf_21.lt (Nat.le_of_eq z22.symm))
          have g_p' : n0 ≤ p' := Nat.le_trans zl19 (Nat.le_of_eq z22.symm)
          have Vf_24 := Vf_21.ext E22
          have Vf_25 := V19.ext E22
          have zl22 := Nat.le_trans zl19 E22.1
          have F22_name : Fld Z h22 p' "com/example/skuld/skuld/htn/Pattern" "name" "Ljava/lang/String;" .null := D22 (Or.inr (w 26 rfl)) (ty := (.object "java/lang/String")) (by decide)
          have F22_constants : Fld Z h22 p' "com/example/skuld/skuld/htn/Pattern" "constants" "[Ljava/lang/String;" .null := D22 (Or.inr (w 28 rfl)) (ty := (.array (.object "java/lang/String"))) (by decide)
          have F22_slots : Fld Z h22 p' "com/example/skuld/skuld/htn/Pattern" "slots" "[I" .null := D22 (Or.inr (w 30 rfl)) (ty := (.array .int)) (by decide)
          have F22_line : Fld Z h22 p' "com/example/skuld/skuld/htn/Pattern" "line" "I" (.int (0 : Int32)) := D22 (Or.inr (w 32 rfl)) (ty := .int) (by decide)
          refine Own.dup 155 X22 hx (hb hby at_154) rfl rfl ?_
          refine Own.ldcStr 157 4 X22 hx hZ hown (w 11 rfl) hSA e22 (hb hby at_155) rfl (by decide) (by decide) (by decide) (by decide) ?_
          intro lt T26 h26 X26 e26 E26 hZ hown
          have Vf_28 := Vf_24.ext E26
          have Vf_29 := Vf_25.ext E26
          have Ef_30 := A22.ext E26
          have Ff_31 := F22_name.ext E26
          have Ff_32 := F22_constants.ext E26
          have Ff_33 := F22_slots.ext E26
          have Ff_34 := F22_line.ext E26
          have zl26 := Nat.le_trans zl22 E26.1
          have zk26 := Nat.le_refl h26.size
          refine Own.aload 159 X26 hx (hb hby at_157) rfl rfl rfl ?_
          refine Own.aload 161 X26 hx (hb hby at_159) rfl rfl rfl ?_
          refine Own.iconst 162 X26 hx ((0 : Int32)) (hb hby at_161) rfl rfl ?_
          refine Own.callInit 165 1 p' [(.ref lt), (.ref cn), (.ref sl), (.int (0 : Int32))] [(.ref p')] X26 hx hZ hown (m2 l Z a0 w p' lt cn sl _ _ _ _ _ n0 h26 zl26 Ef_30 Ff_31 Ff_32 Ff_33 Ff_34 g_p') rfl (w 19 rfl) (w 20 rfl) (w 10 rfl) (w 21 rfl) (by decide) e26 (by decide) (by decide) (by decide) (by decide) (by rw [hml]; rfl) (lenOf pd_1 rfl) rfl (Nat.le_of_eq rfl) (hb hby at_162) rfl ?_
          rintro vv T35 L35 X35 ⟨rfl, N35q, K35, Fs35⟩
          have N35 := Fr.app N16 N35q
          have Vf_37 := Vf_28.keep K35 (ninS ne_sl_p' nin0)
          have Vf_38 := Vf_29.keep K35 (ninS ne_cn_p' nin0)
          have Ef_39 := Ef_30.keep K35
          have zl35 := Nat.le_trans zl26 K35.1
          have zk35 := Nat.le_trans zk26 K35.1
          refine Own.astore 167 #[.val (.int x0), .val (.int x1), .val (.int x2), .val (.int x3), .val (.int x4), .val (.int (4 : Int32)), .val (.int v6_12), .val (.int v7_18), .val (.int v8_24), .val (.int v9_31), .val (.ref sl), .val (.ref cn), .val (.ref p'), .unset, .unset, .unset, .unset] X35 hx (hb hby at_165) rfl rfl rfl ?_
          refine Own.aload 169 X35 hx (hb hby at_167) rfl rfl rfl ?_
          refine Own.callVt 172 0 p' [] [] X35 hx hZ hown (m4_4 l Z a0 w p' sl k5 v6_12 v7_18 v8_24 v9_31 n0 _ zl35 Fs35 Vf_37) Ef_39 (notFace_of_selects (args := #[]) (mvT hZ (w 36 rfl))) (w 33 rfl) (w 34 rfl) (w 36 rfl) (w 35 rfl) (w 10 rfl) (w 37 rfl) (by decide) rfl (by decide) (by decide) (by decide) (by decide) (by rw [hml]; rfl) (lenOf pd_2 rfl) rfl (Nat.le_of_eq rfl) (hb hby at_169) rfl ?_
          rintro vv T44 L44 X44 ⟨r, kr, ys, rfl, N44q, K44, szr, g_r, hys, Vr⟩
          have ne_cn_r : cn ≠ r := Nat.ne_of_lt (Nat.lt_of_lt_of_le Vf_38.lt szr)
          have ne_p'_r : p' ≠ r := Nat.ne_of_lt (Nat.lt_of_lt_of_le Ef_39.lt szr)
          have ne_sl_r : sl ≠ r := Nat.ne_of_lt (Nat.lt_of_lt_of_le Vf_37.lt szr)
          have N44 := Fr.app N35 N44q
          have Vf_46 := Vf_37.keep K44 nin0
          have Vf_47 := Vf_38.keep K44 nin0
          have Ef_48 := Ef_39.keep K44
          have Ff_49 := Fs35.keep K44 nin0
          have zl44 := Nat.le_trans zl35 K44.1
          have zk44 := Nat.le_trans zk35 K44.1
          refine Own.astore 174 #[.val (.int x0), .val (.int x1), .val (.int x2), .val (.int x3), .val (.int x4), .val (.int (4 : Int32)), .val (.int v6_12), .val (.int v7_18), .val (.int v8_24), .val (.int v9_31), .val (.ref sl), .val (.ref cn), .val (.ref p'), .val (.ref r), .unset, .unset, .unset] X44 hx (hb hby at_172) rfl rfl rfl ?_
          refine Own.iconst 175 X44 hx ((4 : Int32)) (hb hby at_174) rfl rfl ?_
          refine Own.newArr 177 4 X44 hx hZ (w 5 rfl) rfl (by decide) (by decide) (by decide) (hb hby at_175) rfl (by decide) (by decide) ?_
          intro T50 h50 ex k50 z50 X50 e50 E50 A50
          have ne_cn_ex : cn ≠ ex := Nat.ne_of_lt (Nat.lt_of_lt_of_le Vf_47.lt (Nat.le_of_eq z50.symm))
          have ne_p'_ex : p' ≠ ex := Nat.ne_of_lt (Nat.lt_of_lt_of_le Ef_48.lt (Nat.le_of_eq z50.symm))
          have ne_r_ex : r ≠ ex := Nat.ne_of_lt (Nat.lt_of_lt_of_le Vr.lt (Nat.le_of_eq z50.symm))
          have ne_sl_ex : sl ≠ ex := Nat.ne_of_lt (Nat.lt_of_lt_of_le Vf_46.lt (Nat.le_of_eq z50.symm))
          have g_ex : n0 ≤ ex := Nat.le_trans zl44 (Nat.le_of_eq z50.symm)
          have Vf_52 := Vf_46.ext E50
          have Vf_53 := Vf_47.ext E50
          have Ef_54 := Ef_48.ext E50
          have Ff_55 := Ff_49.ext E50
          have Vf_56 := Vr.ext E50
          have zl50 := Nat.le_trans zl44 E50.1
          have zk50 := Nat.le_trans zk44 E50.1
          have V50 : Arv Z h50 ex k50 .int (4 : Int32) [(.int (0 : Int32)), (.int (0 : Int32)), (.int (0 : Int32)), (.int (0 : Int32))] (.int (0 : Int32)) := A50
          refine Own.astore 179 #[.val (.int x0), .val (.int x1), .val (.int x2), .val (.int x3), .val (.int x4), .val (.int (4 : Int32)), .val (.int v6_12), .val (.int v7_18), .val (.int v8_24), .val (.int v9_31), .val (.ref sl), .val (.ref cn), .val (.ref p'), .val (.ref r), .val (.ref ex), .unset, .unset] X50 hx (hb hby at_177) rfl rfl rfl ?_
          refine Own.iconst 180 X50 hx ((0 : Int32)) (hb hby at_179) rfl rfl ?_
          refine Own.istoreV 182 #[.val (.int x0), .val (.int x1), .val (.int x2), .val (.int x3), .val (.int x4), .val (.int (4 : Int32)), .val (.int v6_12), .val (.int v7_18), .val (.int v8_24), .val (.int v9_31), .val (.ref sl), .val (.ref cn), .val (.ref p'), .val (.ref r), .val (.ref ex), .val (.int (0 : Int32)), .unset] X50 hx (hb hby at_180) rfl rfl ?_
          refine Own.iload 184 X50 hx (hb hby at_182) rfl rfl ?_
          refine Own.iconst 185 X50 hx ((1 : Int32)) (hb hby at_184) rfl rfl ?_
          refine Own.icmp_lt 203 188 X50 hx (hb hby at_185) (by decide) rfl (fun tk => absurd tk (by decide)) (fun tk => ?_)
          refine Own.iload 190 X50 hx (hb hby at_188) rfl rfl ?_
          refine Own.if_lt 203 193 X50 hx (hb hby at_190) (by decide) rfl (fun q0 => ?_) (fun q0 => ?_)
          ·
            refine Own.iload 205 X50 hx (hb hby at_203) rfl rfl ?_
            refine Own.iconst 206 X50 hx ((2 : Int32)) (hb hby at_205) rfl rfl ?_
            refine Own.icmp_lt 224 209 X50 hx (hb hby at_206) (by decide) rfl (fun tk => absurd tk (by decide)) (fun tk => ?_)
            refine Own.iload 211 X50 hx (hb hby at_209) rfl rfl ?_
            refine Own.if_lt 224 214 X50 hx (hb hby at_211) (by decide) rfl (fun q1 => ?_) (fun q1 => ?_)
            ·
              refine Own.iload 226 X50 hx (hb hby at_224) rfl rfl ?_
              refine Own.iconst 227 X50 hx ((3 : Int32)) (hb hby at_226) rfl rfl ?_
              refine Own.icmp_lt 245 230 X50 hx (hb hby at_227) (by decide) rfl (fun tk => absurd tk (by decide)) (fun tk => ?_)
              refine Own.iload 232 X50 hx (hb hby at_230) rfl rfl ?_
              refine Own.if_lt 245 235 X50 hx (hb hby at_232) (by decide) rfl (fun q2 => ?_) (fun q2 => ?_)
              ·
                refine Own.iload 247 X50 hx (hb hby at_245) rfl rfl ?_
                refine Own.iconst 248 X50 hx ((4 : Int32)) (hb hby at_247) rfl rfl ?_
                refine Own.icmp_lt 266 251 X50 hx (hb hby at_248) (by decide) rfl (fun tk => absurd tk (by decide)) (fun tk => ?_)
                refine Own.iload 253 X50 hx (hb hby at_251) rfl rfl ?_
                refine Own.if_lt 266 256 X50 hx (hb hby at_253) (by decide) rfl (fun q3 => ?_) (fun q3 => ?_)
                ·
                  refine Own.aload 268 X50 hx (hb hby at_266) rfl rfl rfl ?_
                  have hys2 : ys = [] := by rw [hys, own_f, List.filter_cons_of_neg (p := fun x => decide (¬ x < 0)) (by rw [decide_eq_true_iff]; exact fun u => u q0), List.filter_cons_of_neg (p := fun x => decide (¬ x < 0)) (by rw [decide_eq_true_iff]; exact fun u => u q1), List.filter_cons_of_neg (p := fun x => decide (¬ x < 0)) (by rw [decide_eq_true_iff]; exact fun u => u q2), List.filter_cons_of_neg (p := fun x => decide (¬ x < 0)) (by rw [decide_eq_true_iff]; exact fun u => u q3), List.filter_nil]
                  have Vr57 : Arv Z h50 r kr .int (0 : Int32) [] (.int (0 : Int32)) := by
                    have Vq := Vf_56
                    rw [hys2] at Vq
                    exact Vq
                  refine Own.ifnull 279 271 X50 hx (hb hby at_268) rfl (by decide) rfl (fun hh => nomatch hh) (fun _ _ => ?_)
                  refine Own.aload 273 X50 hx (hb hby at_271) rfl rfl rfl ?_
                  refine Own.arrLen 274 X50 hx hZ e50 Vr57 (hb hby at_273) rfl ?_
                  refine Own.iload 276 X50 hx (hb hby at_274) rfl rfl ?_
                  refine Own.icmp_eq 281 279 X50 hx (hb hby at_276) (by decide) rfl (fun tk => ?_) (fun tk => absurd tk (by decide))
                  refine Own.iload 283 X50 hx (hb hby at_281) rfl rfl ?_
                  refine Own.iconst 284 X50 hx ((1 : Int32)) (hb hby at_283) rfl rfl ?_
                  refine Own.icmp_lt 298 287 X50 hx (hb hby at_284) (by decide) rfl (fun tk => ?_) (fun tk => absurd tk (by decide))
                  refine Own.iload 300 X50 hx (hb hby at_298) rfl rfl ?_
                  refine Own.iconst 301 X50 hx ((2 : Int32)) (hb hby at_300) rfl rfl ?_
                  refine Own.icmp_lt 315 304 X50 hx (hb hby at_301) (by decide) rfl (fun tk => ?_) (fun tk => absurd tk (by decide))
                  refine Own.iload 317 X50 hx (hb hby at_315) rfl rfl ?_
                  refine Own.iconst 318 X50 hx ((3 : Int32)) (hb hby at_317) rfl rfl ?_
                  refine Own.icmp_lt 332 321 X50 hx (hb hby at_318) (by decide) rfl (fun tk => ?_) (fun tk => absurd tk (by decide))
                  refine Own.iload 334 X50 hx (hb hby at_332) rfl rfl ?_
                  refine Own.iconst 335 X50 hx ((4 : Int32)) (hb hby at_334) rfl rfl ?_
                  refine Own.icmp_lt 349 338 X50 hx (hb hby at_335) (by decide) rfl (fun tk => ?_) (fun tk => absurd tk (by decide))
                  refine Own.iconst 350 X50 hx ((1 : Int32)) (hb hby at_349) rfl rfl ?_
                  refine Own.goto 354 X50 hx (hb hby at_350) (by decide) ?_
                  refine Own.istoreV 356 #[.val (.int x0), .val (.int x1), .val (.int x2), .val (.int x3), .val (.int x4), .val (.int (4 : Int32)), .val (.int v6_12), .val (.int v7_18), .val (.int v8_24), .val (.int v9_31), .val (.ref sl), .val (.ref cn), .val (.ref p'), .val (.ref r), .val (.ref ex), .val (.int (0 : Int32)), .val (.int (1 : Int32))] X50 hx (hb hby at_354) rfl rfl ?_
                  refine Own.iload 358 X50 hx (hb hby at_356) rfl rfl ?_
                  refine Own.if_eq 375 361 X50 hx (hb hby at_358) (by decide) rfl (fun tk => absurd tk (by decide)) (fun tk => ?_)
                  refine Own.aload 363 X50 hx (hb hby at_361) rfl rfl rfl ?_
                  refine Own.callVt 366 0 p' [] [] X50 hx hZ hown (m5_4 l Z a0 w p' sl k5 v6_12 v7_18 v8_24 v9_31 _ Ff_55 Vf_52) Ef_54 (notFace_of_selects (args := #[]) (mvT hZ (w 41 rfl))) (w 38 rfl) (w 39 rfl) (w 41 rfl) (w 40 rfl) (w 10 rfl) (w 42 rfl) (by decide) e50 (by decide) (by decide) (by decide) (by decide) (by rw [hml]; rfl) (lenOf pd_3 rfl) rfl (Nat.le_of_eq rfl) (hb hby at_363) rfl ?_
                  rintro vv T58 L58 X58 ⟨rfl, hh58, rfl⟩
                  have N58 := Fr.app N44 (Fr.nil _)
                  refine Own.iload 368 X58 hx (hb hby at_366) rfl rfl ?_
                  refine Own.icmp_ne 375 371 X58 hx (hb hby at_368) (by decide) rfl (fun tk => absurd tk (by decide)) (fun tk => ?_)
                  refine Own.iconst 372 X58 hx ((1 : Int32)) (hb hby at_371) rfl rfl ?_
                  refine Own.goto 376 X58 hx (hb hby at_372) (by decide) ?_
                  refine Own.retBool X58 hx hlk hret (hb hby at_376) (by decide) (by decide) ?_
                  exact ⟨⟨rfl, N58⟩, by rw [hh58]; exact zk50⟩
                ·
                  refine Own.aload 258 X50 hx (hb hby at_256) rfl rfl rfl ?_
                  refine Own.iload 260 X50 hx (hb hby at_258) rfl rfl ?_
                  refine Own.iload 262 X50 hx (hb hby at_260) rfl rfl ?_
                  refine Own.iastore 263 X50 hx hZ e50 V50 (by decide) (Nat.le_of_ble_eq_true rfl) (hb hby at_262) rfl ?_
                  intro T59 h59 X59 e59 W59 A59
                  have N59 := Fr.snoc X59 N44 g_ex
                  have Vf_61 := Vf_52.other W59 ne_sl_ex
                  have Vf_62 := Vf_53.other W59 ne_cn_ex
                  have Ef_63 := Ef_54.wr W59
                  have Ff_64 := Ff_55.other W59 (Or.inl ne_p'_ex)
                  have Vf_65 := Vf_56.other W59 ne_r_ex
                  have zl59 := Nat.le_trans zl50 (Nat.le_of_eq W59.size.symm)
                  have zk59 := Nat.le_trans zk50 (Nat.le_of_eq W59.size.symm)
                  have V59 : Arv Z h59 ex k50 .int (4 : Int32) [(.int v9_31), (.int (0 : Int32)), (.int (0 : Int32)), (.int (0 : Int32))] (.int (0 : Int32)) := A59
                  refine Own.iinc 266 (fun c_67 => #[.val (.int x0), .val (.int x1), .val (.int x2), .val (.int x3), .val (.int x4), .val (.int (4 : Int32)), .val (.int v6_12), .val (.int v7_18), .val (.int v8_24), .val (.int v9_31), .val (.ref sl), .val (.ref cn), .val (.ref p'), .val (.ref r), .val (.ref ex), .val (.int c_67), .unset]) X59 hx ((1 : Int32)) (hb hby at_263) rfl rfl rfl (fun _ => rfl) fun c_67 hc_67 => ?_
                  obtain rfl : c_67 = (1 : Int32) := hc_67.trans (by decide)
                  refine Own.aload 268 X59 hx (hb hby at_266) rfl rfl rfl ?_
                  have hys2 : ys = [v9_31] := by rw [hys, own_f, List.filter_cons_of_neg (p := fun x => decide (¬ x < 0)) (by rw [decide_eq_true_iff]; exact fun u => u q0), List.filter_cons_of_neg (p := fun x => decide (¬ x < 0)) (by rw [decide_eq_true_iff]; exact fun u => u q1), List.filter_cons_of_neg (p := fun x => decide (¬ x < 0)) (by rw [decide_eq_true_iff]; exact fun u => u q2), List.filter_cons_of_pos (p := fun x => decide (¬ x < 0)) (decide_eq_true q3), List.filter_nil]
                  have Vr68 : Arv Z h59 r kr .int (1 : Int32) [(.int v9_31)] (.int (0 : Int32)) := by
                    have Vq := Vf_65
                    rw [hys2] at Vq
                    exact Vq
                  refine Own.ifnull 279 271 X59 hx (hb hby at_268) rfl (by decide) rfl (fun hh => nomatch hh) (fun _ _ => ?_)
                  refine Own.aload 273 X59 hx (hb hby at_271) rfl rfl rfl ?_
                  refine Own.arrLen 274 X59 hx hZ e59 Vr68 (hb hby at_273) rfl ?_
                  refine Own.iload 276 X59 hx (hb hby at_274) rfl rfl ?_
                  refine Own.icmp_eq 281 279 X59 hx (hb hby at_276) (by decide) rfl (fun tk => ?_) (fun tk => absurd tk (by decide))
                  refine Own.iload 283 X59 hx (hb hby at_281) rfl rfl ?_
                  refine Own.iconst 284 X59 hx ((1 : Int32)) (hb hby at_283) rfl rfl ?_
                  refine Own.icmp_lt 298 287 X59 hx (hb hby at_284) (by decide) rfl (fun tk => absurd tk (by decide)) (fun tk => ?_)
                  refine Own.aload 289 X59 hx (hb hby at_287) rfl rfl rfl ?_
                  refine Own.iconst 290 X59 hx ((0 : Int32)) (hb hby at_289) rfl rfl ?_
                  refine Own.iaload 291 X59 hx hZ e59 (v9_31) Vr68 (by decide) rfl (hb hby at_290) rfl ?_
                  refine Own.aload 293 X59 hx (hb hby at_291) rfl rfl rfl ?_
                  refine Own.iconst 294 X59 hx ((0 : Int32)) (hb hby at_293) rfl rfl ?_
                  refine Own.iaload 295 X59 hx hZ e59 (v9_31) V59 (by decide) rfl (hb hby at_294) rfl ?_
                  refine Own.icmp_ne 353 298 X59 hx (hb hby at_295) (by decide) rfl (fun tk => absurd rfl tk) (fun tk => ?_)
                  refine Own.iload 300 X59 hx (hb hby at_298) rfl rfl ?_
                  refine Own.iconst 301 X59 hx ((2 : Int32)) (hb hby at_300) rfl rfl ?_
                  refine Own.icmp_lt 315 304 X59 hx (hb hby at_301) (by decide) rfl (fun tk => ?_) (fun tk => absurd tk (by decide))
                  refine Own.iload 317 X59 hx (hb hby at_315) rfl rfl ?_
                  refine Own.iconst 318 X59 hx ((3 : Int32)) (hb hby at_317) rfl rfl ?_
                  refine Own.icmp_lt 332 321 X59 hx (hb hby at_318) (by decide) rfl (fun tk => ?_) (fun tk => absurd tk (by decide))
                  refine Own.iload 334 X59 hx (hb hby at_332) rfl rfl ?_
                  refine Own.iconst 335 X59 hx ((4 : Int32)) (hb hby at_334) rfl rfl ?_
                  refine Own.icmp_lt 349 338 X59 hx (hb hby at_335) (by decide) rfl (fun tk => ?_) (fun tk => absurd tk (by decide))
                  refine Own.iconst 350 X59 hx ((1 : Int32)) (hb hby at_349) rfl rfl ?_
                  refine Own.goto 354 X59 hx (hb hby at_350) (by decide) ?_
                  refine Own.istoreV 356 #[.val (.int x0), .val (.int x1), .val (.int x2), .val (.int x3), .val (.int x4), .val (.int (4 : Int32)), .val (.int v6_12), .val (.int v7_18), .val (.int v8_24), .val (.int v9_31), .val (.ref sl), .val (.ref cn), .val (.ref p'), .val (.ref r), .val (.ref ex), .val (.int (1 : Int32)), .val (.int (1 : Int32))] X59 hx (hb hby at_354) rfl rfl ?_
                  refine Own.iload 358 X59 hx (hb hby at_356) rfl rfl ?_
                  refine Own.if_eq 375 361 X59 hx (hb hby at_358) (by decide) rfl (fun tk => absurd tk (by decide)) (fun tk => ?_)
                  refine Own.aload 363 X59 hx (hb hby at_361) rfl rfl rfl ?_
                  refine Own.callVt 366 0 p' [] [] X59 hx hZ hown (m5_4 l Z a0 w p' sl k5 v6_12 v7_18 v8_24 v9_31 _ Ff_64 Vf_61) Ef_63 (notFace_of_selects (args := #[]) (mvT hZ (w 41 rfl))) (w 38 rfl) (w 39 rfl) (w 41 rfl) (w 40 rfl) (w 10 rfl) (w 42 rfl) (by decide) e59 (by decide) (by decide) (by decide) (by decide) (by rw [hml]; rfl) (lenOf pd_3 rfl) rfl (Nat.le_of_eq rfl) (hb hby at_363) rfl ?_
                  rintro vv T69 L69 X69 ⟨rfl, hh69, rfl⟩
                  have N69 := Fr.app N59 (Fr.nil _)
                  refine Own.iload 368 X69 hx (hb hby at_366) rfl rfl ?_
                  refine Own.icmp_ne 375 371 X69 hx (hb hby at_368) (by decide) rfl (fun tk => absurd tk (by decide)) (fun tk => ?_)
                  refine Own.iconst 372 X69 hx ((1 : Int32)) (hb hby at_371) rfl rfl ?_
                  refine Own.goto 376 X69 hx (hb hby at_372) (by decide) ?_
                  refine Own.retBool X69 hx hlk hret (hb hby at_376) (by decide) (by decide) ?_
                  exact ⟨⟨rfl, N69⟩, by rw [hh69]; exact zk59⟩
              ·
                refine Own.aload 237 X50 hx (hb hby at_235) rfl rfl rfl ?_
                refine Own.iload 239 X50 hx (hb hby at_237) rfl rfl ?_
                refine Own.iload 241 X50 hx (hb hby at_239) rfl rfl ?_
                refine Own.iastore 242 X50 hx hZ e50 V50 (by decide) (Nat.le_of_ble_eq_true rfl) (hb hby at_241) rfl ?_
                intro T70 h70 X70 e70 W70 A70
                have N70 := Fr.snoc X70 N44 g_ex
                have Vf_72 := Vf_52.other W70 ne_sl_ex
                have Vf_73 := Vf_53.other W70 ne_cn_ex
                have Ef_74 := Ef_54.wr W70
                have Ff_75 := Ff_55.other W70 (Or.inl ne_p'_ex)
                have Vf_76 := Vf_56.other W70 ne_r_ex
                have zl70 := Nat.le_trans zl50 (Nat.le_of_eq W70.size.symm)
                have zk70 := Nat.le_trans zk50 (Nat.le_of_eq W70.size.symm)
                have V70 : Arv Z h70 ex k50 .int (4 : Int32) [(.int v8_24), (.int (0 : Int32)), (.int (0 : Int32)), (.int (0 : Int32))] (.int (0 : Int32)) := A70
                refine Own.iinc 245 (fun c_78 => #[.val (.int x0), .val (.int x1), .val (.int x2), .val (.int x3), .val (.int x4), .val (.int (4 : Int32)), .val (.int v6_12), .val (.int v7_18), .val (.int v8_24), .val (.int v9_31), .val (.ref sl), .val (.ref cn), .val (.ref p'), .val (.ref r), .val (.ref ex), .val (.int c_78), .unset]) X70 hx ((1 : Int32)) (hb hby at_242) rfl rfl rfl (fun _ => rfl) fun c_78 hc_78 => ?_
                obtain rfl : c_78 = (1 : Int32) := hc_78.trans (by decide)
                refine Own.iload 247 X70 hx (hb hby at_245) rfl rfl ?_
                refine Own.iconst 248 X70 hx ((4 : Int32)) (hb hby at_247) rfl rfl ?_
                refine Own.icmp_lt 266 251 X70 hx (hb hby at_248) (by decide) rfl (fun tk => absurd tk (by decide)) (fun tk => ?_)
                refine Own.iload 253 X70 hx (hb hby at_251) rfl rfl ?_
                refine Own.if_lt 266 256 X70 hx (hb hby at_253) (by decide) rfl (fun q3 => ?_) (fun q3 => ?_)
                ·
                  refine Own.aload 268 X70 hx (hb hby at_266) rfl rfl rfl ?_
                  have hys2 : ys = [v8_24] := by rw [hys, own_f, List.filter_cons_of_neg (p := fun x => decide (¬ x < 0)) (by rw [decide_eq_true_iff]; exact fun u => u q0), List.filter_cons_of_neg (p := fun x => decide (¬ x < 0)) (by rw [decide_eq_true_iff]; exact fun u => u q1), List.filter_cons_of_pos (p := fun x => decide (¬ x < 0)) (decide_eq_true q2), List.filter_cons_of_neg (p := fun x => decide (¬ x < 0)) (by rw [decide_eq_true_iff]; exact fun u => u q3), List.filter_nil]
                  have Vr79 : Arv Z h70 r kr .int (1 : Int32) [(.int v8_24)] (.int (0 : Int32)) := by
                    have Vq := Vf_76
                    rw [hys2] at Vq
                    exact Vq
                  refine Own.ifnull 279 271 X70 hx (hb hby at_268) rfl (by decide) rfl (fun hh => nomatch hh) (fun _ _ => ?_)
                  refine Own.aload 273 X70 hx (hb hby at_271) rfl rfl rfl ?_
                  refine Own.arrLen 274 X70 hx hZ e70 Vr79 (hb hby at_273) rfl ?_
                  refine Own.iload 276 X70 hx (hb hby at_274) rfl rfl ?_
                  refine Own.icmp_eq 281 279 X70 hx (hb hby at_276) (by decide) rfl (fun tk => ?_) (fun tk => absurd tk (by decide))
                  refine Own.iload 283 X70 hx (hb hby at_281) rfl rfl ?_
                  refine Own.iconst 284 X70 hx ((1 : Int32)) (hb hby at_283) rfl rfl ?_
                  refine Own.icmp_lt 298 287 X70 hx (hb hby at_284) (by decide) rfl (fun tk => absurd tk (by decide)) (fun tk => ?_)
                  refine Own.aload 289 X70 hx (hb hby at_287) rfl rfl rfl ?_
                  refine Own.iconst 290 X70 hx ((0 : Int32)) (hb hby at_289) rfl rfl ?_
                  refine Own.iaload 291 X70 hx hZ e70 (v8_24) Vr79 (by decide) rfl (hb hby at_290) rfl ?_
                  refine Own.aload 293 X70 hx (hb hby at_291) rfl rfl rfl ?_
                  refine Own.iconst 294 X70 hx ((0 : Int32)) (hb hby at_293) rfl rfl ?_
                  refine Own.iaload 295 X70 hx hZ e70 (v8_24) V70 (by decide) rfl (hb hby at_294) rfl ?_
                  refine Own.icmp_ne 353 298 X70 hx (hb hby at_295) (by decide) rfl (fun tk => absurd rfl tk) (fun tk => ?_)
                  refine Own.iload 300 X70 hx (hb hby at_298) rfl rfl ?_
                  refine Own.iconst 301 X70 hx ((2 : Int32)) (hb hby at_300) rfl rfl ?_
                  refine Own.icmp_lt 315 304 X70 hx (hb hby at_301) (by decide) rfl (fun tk => ?_) (fun tk => absurd tk (by decide))
                  refine Own.iload 317 X70 hx (hb hby at_315) rfl rfl ?_
                  refine Own.iconst 318 X70 hx ((3 : Int32)) (hb hby at_317) rfl rfl ?_
                  refine Own.icmp_lt 332 321 X70 hx (hb hby at_318) (by decide) rfl (fun tk => ?_) (fun tk => absurd tk (by decide))
                  refine Own.iload 334 X70 hx (hb hby at_332) rfl rfl ?_
                  refine Own.iconst 335 X70 hx ((4 : Int32)) (hb hby at_334) rfl rfl ?_
                  refine Own.icmp_lt 349 338 X70 hx (hb hby at_335) (by decide) rfl (fun tk => ?_) (fun tk => absurd tk (by decide))
                  refine Own.iconst 350 X70 hx ((1 : Int32)) (hb hby at_349) rfl rfl ?_
                  refine Own.goto 354 X70 hx (hb hby at_350) (by decide) ?_
                  refine Own.istoreV 356 #[.val (.int x0), .val (.int x1), .val (.int x2), .val (.int x3), .val (.int x4), .val (.int (4 : Int32)), .val (.int v6_12), .val (.int v7_18), .val (.int v8_24), .val (.int v9_31), .val (.ref sl), .val (.ref cn), .val (.ref p'), .val (.ref r), .val (.ref ex), .val (.int (1 : Int32)), .val (.int (1 : Int32))] X70 hx (hb hby at_354) rfl rfl ?_
                  refine Own.iload 358 X70 hx (hb hby at_356) rfl rfl ?_
                  refine Own.if_eq 375 361 X70 hx (hb hby at_358) (by decide) rfl (fun tk => absurd tk (by decide)) (fun tk => ?_)
                  refine Own.aload 363 X70 hx (hb hby at_361) rfl rfl rfl ?_
                  refine Own.callVt 366 0 p' [] [] X70 hx hZ hown (m5_4 l Z a0 w p' sl k5 v6_12 v7_18 v8_24 v9_31 _ Ff_75 Vf_72) Ef_74 (notFace_of_selects (args := #[]) (mvT hZ (w 41 rfl))) (w 38 rfl) (w 39 rfl) (w 41 rfl) (w 40 rfl) (w 10 rfl) (w 42 rfl) (by decide) e70 (by decide) (by decide) (by decide) (by decide) (by rw [hml]; rfl) (lenOf pd_3 rfl) rfl (Nat.le_of_eq rfl) (hb hby at_363) rfl ?_
                  rintro vv T80 L80 X80 ⟨rfl, hh80, rfl⟩
                  have N80 := Fr.app N70 (Fr.nil _)
                  refine Own.iload 368 X80 hx (hb hby at_366) rfl rfl ?_
                  refine Own.icmp_ne 375 371 X80 hx (hb hby at_368) (by decide) rfl (fun tk => absurd tk (by decide)) (fun tk => ?_)
                  refine Own.iconst 372 X80 hx ((1 : Int32)) (hb hby at_371) rfl rfl ?_
                  refine Own.goto 376 X80 hx (hb hby at_372) (by decide) ?_
                  refine Own.retBool X80 hx hlk hret (hb hby at_376) (by decide) (by decide) ?_
                  exact ⟨⟨rfl, N80⟩, by rw [hh80]; exact zk70⟩
                ·
                  refine Own.aload 258 X70 hx (hb hby at_256) rfl rfl rfl ?_
                  refine Own.iload 260 X70 hx (hb hby at_258) rfl rfl ?_
                  refine Own.iload 262 X70 hx (hb hby at_260) rfl rfl ?_
                  refine Own.iastore 263 X70 hx hZ e70 V70 (by decide) (Nat.le_of_ble_eq_true rfl) (hb hby at_262) rfl ?_
                  intro T81 h81 X81 e81 W81 A81
                  have N81 := Fr.snoc X81 N70 g_ex
                  have Vf_83 := Vf_72.other W81 ne_sl_ex
                  have Vf_84 := Vf_73.other W81 ne_cn_ex
                  have Ef_85 := Ef_74.wr W81
                  have Ff_86 := Ff_75.other W81 (Or.inl ne_p'_ex)
                  have Vf_87 := Vf_76.other W81 ne_r_ex
                  have zl81 := Nat.le_trans zl70 (Nat.le_of_eq W81.size.symm)
                  have zk81 := Nat.le_trans zk70 (Nat.le_of_eq W81.size.symm)
                  have V81 : Arv Z h81 ex k50 .int (4 : Int32) [(.int v8_24), (.int v9_31), (.int (0 : Int32)), (.int (0 : Int32))] (.int (0 : Int32)) := A81
                  refine Own.iinc 266 (fun c_89 => #[.val (.int x0), .val (.int x1), .val (.int x2), .val (.int x3), .val (.int x4), .val (.int (4 : Int32)), .val (.int v6_12), .val (.int v7_18), .val (.int v8_24), .val (.int v9_31), .val (.ref sl), .val (.ref cn), .val (.ref p'), .val (.ref r), .val (.ref ex), .val (.int c_89), .unset]) X81 hx ((1 : Int32)) (hb hby at_263) rfl rfl rfl (fun _ => rfl) fun c_89 hc_89 => ?_
                  obtain rfl : c_89 = (2 : Int32) := hc_89.trans (by decide)
                  refine Own.aload 268 X81 hx (hb hby at_266) rfl rfl rfl ?_
                  have hys2 : ys = [v8_24, v9_31] := by rw [hys, own_f, List.filter_cons_of_neg (p := fun x => decide (¬ x < 0)) (by rw [decide_eq_true_iff]; exact fun u => u q0), List.filter_cons_of_neg (p := fun x => decide (¬ x < 0)) (by rw [decide_eq_true_iff]; exact fun u => u q1), List.filter_cons_of_pos (p := fun x => decide (¬ x < 0)) (decide_eq_true q2), List.filter_cons_of_pos (p := fun x => decide (¬ x < 0)) (decide_eq_true q3), List.filter_nil]
                  have Vr90 : Arv Z h81 r kr .int (2 : Int32) [(.int v8_24), (.int v9_31)] (.int (0 : Int32)) := by
                    have Vq := Vf_87
                    rw [hys2] at Vq
                    exact Vq
                  refine Own.ifnull 279 271 X81 hx (hb hby at_268) rfl (by decide) rfl (fun hh => nomatch hh) (fun _ _ => ?_)
                  refine Own.aload 273 X81 hx (hb hby at_271) rfl rfl rfl ?_
                  refine Own.arrLen 274 X81 hx hZ e81 Vr90 (hb hby at_273) rfl ?_
                  refine Own.iload 276 X81 hx (hb hby at_274) rfl rfl ?_
                  refine Own.icmp_eq 281 279 X81 hx (hb hby at_276) (by decide) rfl (fun tk => ?_) (fun tk => absurd tk (by decide))
                  refine Own.iload 283 X81 hx (hb hby at_281) rfl rfl ?_
                  refine Own.iconst 284 X81 hx ((1 : Int32)) (hb hby at_283) rfl rfl ?_
                  refine Own.icmp_lt 298 287 X81 hx (hb hby at_284) (by decide) rfl (fun tk => absurd tk (by decide)) (fun tk => ?_)
                  refine Own.aload 289 X81 hx (hb hby at_287) rfl rfl rfl ?_
                  refine Own.iconst 290 X81 hx ((0 : Int32)) (hb hby at_289) rfl rfl ?_
                  refine Own.iaload 291 X81 hx hZ e81 (v8_24) Vr90 (by decide) rfl (hb hby at_290) rfl ?_
                  refine Own.aload 293 X81 hx (hb hby at_291) rfl rfl rfl ?_
                  refine Own.iconst 294 X81 hx ((0 : Int32)) (hb hby at_293) rfl rfl ?_
                  refine Own.iaload 295 X81 hx hZ e81 (v8_24) V81 (by decide) rfl (hb hby at_294) rfl ?_
                  refine Own.icmp_ne 353 298 X81 hx (hb hby at_295) (by decide) rfl (fun tk => absurd rfl tk) (fun tk => ?_)
                  refine Own.iload 300 X81 hx (hb hby at_298) rfl rfl ?_
                  refine Own.iconst 301 X81 hx ((2 : Int32)) (hb hby at_300) rfl rfl ?_
                  refine Own.icmp_lt 315 304 X81 hx (hb hby at_301) (by decide) rfl (fun tk => absurd tk (by decide)) (fun tk => ?_)
                  refine Own.aload 306 X81 hx (hb hby at_304) rfl rfl rfl ?_
                  refine Own.iconst 307 X81 hx ((1 : Int32)) (hb hby at_306) rfl rfl ?_
                  refine Own.iaload 308 X81 hx hZ e81 (v9_31) Vr90 (by decide) rfl (hb hby at_307) rfl ?_
                  refine Own.aload 310 X81 hx (hb hby at_308) rfl rfl rfl ?_
                  refine Own.iconst 311 X81 hx ((1 : Int32)) (hb hby at_310) rfl rfl ?_
                  refine Own.iaload 312 X81 hx hZ e81 (v9_31) V81 (by decide) rfl (hb hby at_311) rfl ?_
                  refine Own.icmp_ne 353 315 X81 hx (hb hby at_312) (by decide) rfl (fun tk => absurd rfl tk) (fun tk => ?_)
                  refine Own.iload 317 X81 hx (hb hby at_315) rfl rfl ?_
                  refine Own.iconst 318 X81 hx ((3 : Int32)) (hb hby at_317) rfl rfl ?_
                  refine Own.icmp_lt 332 321 X81 hx (hb hby at_318) (by decide) rfl (fun tk => ?_) (fun tk => absurd tk (by decide))
                  refine Own.iload 334 X81 hx (hb hby at_332) rfl rfl ?_
                  refine Own.iconst 335 X81 hx ((4 : Int32)) (hb hby at_334) rfl rfl ?_
                  refine Own.icmp_lt 349 338 X81 hx (hb hby at_335) (by decide) rfl (fun tk => ?_) (fun tk => absurd tk (by decide))
                  refine Own.iconst 350 X81 hx ((1 : Int32)) (hb hby at_349) rfl rfl ?_
                  refine Own.goto 354 X81 hx (hb hby at_350) (by decide) ?_
                  refine Own.istoreV 356 #[.val (.int x0), .val (.int x1), .val (.int x2), .val (.int x3), .val (.int x4), .val (.int (4 : Int32)), .val (.int v6_12), .val (.int v7_18), .val (.int v8_24), .val (.int v9_31), .val (.ref sl), .val (.ref cn), .val (.ref p'), .val (.ref r), .val (.ref ex), .val (.int (2 : Int32)), .val (.int (1 : Int32))] X81 hx (hb hby at_354) rfl rfl ?_
                  refine Own.iload 358 X81 hx (hb hby at_356) rfl rfl ?_
                  refine Own.if_eq 375 361 X81 hx (hb hby at_358) (by decide) rfl (fun tk => absurd tk (by decide)) (fun tk => ?_)
                  refine Own.aload 363 X81 hx (hb hby at_361) rfl rfl rfl ?_
                  refine Own.callVt 366 0 p' [] [] X81 hx hZ hown (m5_4 l Z a0 w p' sl k5 v6_12 v7_18 v8_24 v9_31 _ Ff_86 Vf_83) Ef_85 (notFace_of_selects (args := #[]) (mvT hZ (w 41 rfl))) (w 38 rfl) (w 39 rfl) (w 41 rfl) (w 40 rfl) (w 10 rfl) (w 42 rfl) (by decide) e81 (by decide) (by decide) (by decide) (by decide) (by rw [hml]; rfl) (lenOf pd_3 rfl) rfl (Nat.le_of_eq rfl) (hb hby at_363) rfl ?_
                  rintro vv T91 L91 X91 ⟨rfl, hh91, rfl⟩
                  have N91 := Fr.app N81 (Fr.nil _)
                  refine Own.iload 368 X91 hx (hb hby at_366) rfl rfl ?_
                  refine Own.icmp_ne 375 371 X91 hx (hb hby at_368) (by decide) rfl (fun tk => absurd tk (by decide)) (fun tk => ?_)
                  refine Own.iconst 372 X91 hx ((1 : Int32)) (hb hby at_371) rfl rfl ?_
                  refine Own.goto 376 X91 hx (hb hby at_372) (by decide) ?_
                  refine Own.retBool X91 hx hlk hret (hb hby at_376) (by decide) (by decide) ?_
                  exact ⟨⟨rfl, N91⟩, by rw [hh91]; exact zk81⟩
            ·
              refine Own.aload 216 X50 hx (hb hby at_214) rfl rfl rfl ?_
              refine Own.iload 218 X50 hx (hb hby at_216) rfl rfl ?_
              refine Own.iload 220 X50 hx (hb hby at_218) rfl rfl ?_
              refine Own.iastore 221 X50 hx hZ e50 V50 (by decide) (Nat.le_of_ble_eq_true rfl) (hb hby at_220) rfl ?_
              intro T92 h92 X92 e92 W92 A92
              have N92 := Fr.snoc X92 N44 g_ex
              have Vf_94 := Vf_52.other W92 ne_sl_ex
              have Vf_95 := Vf_53.other W92 ne_cn_ex
              have Ef_96 := Ef_54.wr W92
              have Ff_97 := Ff_55.other W92 (Or.inl ne_p'_ex)
              have Vf_98 := Vf_56.other W92 ne_r_ex
              have zl92 := Nat.le_trans zl50 (Nat.le_of_eq W92.size.symm)
              have zk92 := Nat.le_trans zk50 (Nat.le_of_eq W92.size.symm)
              have V92 : Arv Z h92 ex k50 .int (4 : Int32) [(.int v7_18), (.int (0 : Int32)), (.int (0 : Int32)), (.int (0 : Int32))] (.int (0 : Int32)) := A92
              refine Own.iinc 224 (fun c_100 => #[.val (.int x0), .val (.int x1), .val (.int x2), .val (.int x3), .val (.int x4), .val (.int (4 : Int32)), .val (.int v6_12), .val (.int v7_18), .val (.int v8_24), .val (.int v9_31), .val (.ref sl), .val (.ref cn), .val (.ref p'), .val (.ref r), .val (.ref ex), .val (.int c_100), .unset]) X92 hx ((1 : Int32)) (hb hby at_221) rfl rfl rfl (fun _ => rfl) fun c_100 hc_100 => ?_
              obtain rfl : c_100 = (1 : Int32) := hc_100.trans (by decide)
              refine Own.iload 226 X92 hx (hb hby at_224) rfl rfl ?_
              refine Own.iconst 227 X92 hx ((3 : Int32)) (hb hby at_226) rfl rfl ?_
              refine Own.icmp_lt 245 230 X92 hx (hb hby at_227) (by decide) rfl (fun tk => absurd tk (by decide)) (fun tk => ?_)
              refine Own.iload 232 X92 hx (hb hby at_230) rfl rfl ?_
              refine Own.if_lt 245 235 X92 hx (hb hby at_232) (by decide) rfl (fun q2 => ?_) (fun q2 => ?_)
              ·
                refine Own.iload 247 X92 hx (hb hby at_245) rfl rfl ?_
                refine Own.iconst 248 X92 hx ((4 : Int32)) (hb hby at_247) rfl rfl ?_
                refine Own.icmp_lt 266 251 X92 hx (hb hby at_248) (by decide) rfl (fun tk => absurd tk (by decide)) (fun tk => ?_)
                refine Own.iload 253 X92 hx (hb hby at_251) rfl rfl ?_
                refine Own.if_lt 266 256 X92 hx (hb hby at_253) (by decide) rfl (fun q3 => ?_) (fun q3 => ?_)
                ·
                  refine Own.aload 268 X92 hx (hb hby at_266) rfl rfl rfl ?_
                  have hys2 : ys = [v7_18] := by rw [hys, own_f, List.filter_cons_of_neg (p := fun x => decide (¬ x < 0)) (by rw [decide_eq_true_iff]; exact fun u => u q0), List.filter_cons_of_pos (p := fun x => decide (¬ x < 0)) (decide_eq_true q1), List.filter_cons_of_neg (p := fun x => decide (¬ x < 0)) (by rw [decide_eq_true_iff]; exact fun u => u q2), List.filter_cons_of_neg (p := fun x => decide (¬ x < 0)) (by rw [decide_eq_true_iff]; exact fun u => u q3), List.filter_nil]
                  have Vr101 : Arv Z h92 r kr .int (1 : Int32) [(.int v7_18)] (.int (0 : Int32)) := by
                    have Vq := Vf_98
                    rw [hys2] at Vq
                    exact Vq
                  refine Own.ifnull 279 271 X92 hx (hb hby at_268) rfl (by decide) rfl (fun hh => nomatch hh) (fun _ _ => ?_)
                  refine Own.aload 273 X92 hx (hb hby at_271) rfl rfl rfl ?_
                  refine Own.arrLen 274 X92 hx hZ e92 Vr101 (hb hby at_273) rfl ?_
                  refine Own.iload 276 X92 hx (hb hby at_274) rfl rfl ?_
                  refine Own.icmp_eq 281 279 X92 hx (hb hby at_276) (by decide) rfl (fun tk => ?_) (fun tk => absurd tk (by decide))
                  refine Own.iload 283 X92 hx (hb hby at_281) rfl rfl ?_
                  refine Own.iconst 284 X92 hx ((1 : Int32)) (hb hby at_283) rfl rfl ?_
                  refine Own.icmp_lt 298 287 X92 hx (hb hby at_284) (by decide) rfl (fun tk => absurd tk (by decide)) (fun tk => ?_)
                  refine Own.aload 289 X92 hx (hb hby at_287) rfl rfl rfl ?_
                  refine Own.iconst 290 X92 hx ((0 : Int32)) (hb hby at_289) rfl rfl ?_
                  refine Own.iaload 291 X92 hx hZ e92 (v7_18) Vr101 (by decide) rfl (hb hby at_290) rfl ?_
                  refine Own.aload 293 X92 hx (hb hby at_291) rfl rfl rfl ?_
                  refine Own.iconst 294 X92 hx ((0 : Int32)) (hb hby at_293) rfl rfl ?_
                  refine Own.iaload 295 X92 hx hZ e92 (v7_18) V92 (by decide) rfl (hb hby at_294) rfl ?_
                  refine Own.icmp_ne 353 298 X92 hx (hb hby at_295) (by decide) rfl (fun tk => absurd rfl tk) (fun tk => ?_)
                  refine Own.iload 300 X92 hx (hb hby at_298) rfl rfl ?_
                  refine Own.iconst 301 X92 hx ((2 : Int32)) (hb hby at_300) rfl rfl ?_
                  refine Own.icmp_lt 315 304 X92 hx (hb hby at_301) (by decide) rfl (fun tk => ?_) (fun tk => absurd tk (by decide))
                  refine Own.iload 317 X92 hx (hb hby at_315) rfl rfl ?_
                  refine Own.iconst 318 X92 hx ((3 : Int32)) (hb hby at_317) rfl rfl ?_
                  refine Own.icmp_lt 332 321 X92 hx (hb hby at_318) (by decide) rfl (fun tk => ?_) (fun tk => absurd tk (by decide))
                  refine Own.iload 334 X92 hx (hb hby at_332) rfl rfl ?_
                  refine Own.iconst 335 X92 hx ((4 : Int32)) (hb hby at_334) rfl rfl ?_
                  refine Own.icmp_lt 349 338 X92 hx (hb hby at_335) (by decide) rfl (fun tk => ?_) (fun tk => absurd tk (by decide))
                  refine Own.iconst 350 X92 hx ((1 : Int32)) (hb hby at_349) rfl rfl ?_
                  refine Own.goto 354 X92 hx (hb hby at_350) (by decide) ?_
                  refine Own.istoreV 356 #[.val (.int x0), .val (.int x1), .val (.int x2), .val (.int x3), .val (.int x4), .val (.int (4 : Int32)), .val (.int v6_12), .val (.int v7_18), .val (.int v8_24), .val (.int v9_31), .val (.ref sl), .val (.ref cn), .val (.ref p'), .val (.ref r), .val (.ref ex), .val (.int (1 : Int32)), .val (.int (1 : Int32))] X92 hx (hb hby at_354) rfl rfl ?_
                  refine Own.iload 358 X92 hx (hb hby at_356) rfl rfl ?_
                  refine Own.if_eq 375 361 X92 hx (hb hby at_358) (by decide) rfl (fun tk => absurd tk (by decide)) (fun tk => ?_)
                  refine Own.aload 363 X92 hx (hb hby at_361) rfl rfl rfl ?_
                  refine Own.callVt 366 0 p' [] [] X92 hx hZ hown (m5_4 l Z a0 w p' sl k5 v6_12 v7_18 v8_24 v9_31 _ Ff_97 Vf_94) Ef_96 (notFace_of_selects (args := #[]) (mvT hZ (w 41 rfl))) (w 38 rfl) (w 39 rfl) (w 41 rfl) (w 40 rfl) (w 10 rfl) (w 42 rfl) (by decide) e92 (by decide) (by decide) (by decide) (by decide) (by rw [hml]; rfl) (lenOf pd_3 rfl) rfl (Nat.le_of_eq rfl) (hb hby at_363) rfl ?_
                  rintro vv T102 L102 X102 ⟨rfl, hh102, rfl⟩
                  have N102 := Fr.app N92 (Fr.nil _)
                  refine Own.iload 368 X102 hx (hb hby at_366) rfl rfl ?_
                  refine Own.icmp_ne 375 371 X102 hx (hb hby at_368) (by decide) rfl (fun tk => absurd tk (by decide)) (fun tk => ?_)
                  refine Own.iconst 372 X102 hx ((1 : Int32)) (hb hby at_371) rfl rfl ?_
                  refine Own.goto 376 X102 hx (hb hby at_372) (by decide) ?_
                  refine Own.retBool X102 hx hlk hret (hb hby at_376) (by decide) (by decide) ?_
                  exact ⟨⟨rfl, N102⟩, by rw [hh102]; exact zk92⟩
                ·
                  refine Own.aload 258 X92 hx (hb hby at_256) rfl rfl rfl ?_
                  refine Own.iload 260 X92 hx (hb hby at_258) rfl rfl ?_
                  refine Own.iload 262 X92 hx (hb hby at_260) rfl rfl ?_
                  refine Own.iastore 263 X92 hx hZ e92 V92 (by decide) (Nat.le_of_ble_eq_true rfl) (hb hby at_262) rfl ?_
                  intro T103 h103 X103 e103 W103 A103
                  have N103 := Fr.snoc X103 N92 g_ex
                  have Vf_105 := Vf_94.other W103 ne_sl_ex
                  have Vf_106 := Vf_95.other W103 ne_cn_ex
                  have Ef_107 := Ef_96.wr W103
                  have Ff_108 := Ff_97.other W103 (Or.inl ne_p'_ex)
                  have Vf_109 := Vf_98.other W103 ne_r_ex
                  have zl103 := Nat.le_trans zl92 (Nat.le_of_eq W103.size.symm)
                  have zk103 := Nat.le_trans zk92 (Nat.le_of_eq W103.size.symm)
                  have V103 : Arv Z h103 ex k50 .int (4 : Int32) [(.int v7_18), (.int v9_31), (.int (0 : Int32)), (.int (0 : Int32))] (.int (0 : Int32)) := A103
                  refine Own.iinc 266 (fun c_111 => #[.val (.int x0), .val (.int x1), .val (.int x2), .val (.int x3), .val (.int x4), .val (.int (4 : Int32)), .val (.int v6_12), .val (.int v7_18), .val (.int v8_24), .val (.int v9_31), .val (.ref sl), .val (.ref cn), .val (.ref p'), .val (.ref r), .val (.ref ex), .val (.int c_111), .unset]) X103 hx ((1 : Int32)) (hb hby at_263) rfl rfl rfl (fun _ => rfl) fun c_111 hc_111 => ?_
                  obtain rfl : c_111 = (2 : Int32) := hc_111.trans (by decide)
                  refine Own.aload 268 X103 hx (hb hby at_266) rfl rfl rfl ?_
                  have hys2 : ys = [v7_18, v9_31] := by rw [hys, own_f, List.filter_cons_of_neg (p := fun x => decide (¬ x < 0)) (by rw [decide_eq_true_iff]; exact fun u => u q0), List.filter_cons_of_pos (p := fun x => decide (¬ x < 0)) (decide_eq_true q1), List.filter_cons_of_neg (p := fun x => decide (¬ x < 0)) (by rw [decide_eq_true_iff]; exact fun u => u q2), List.filter_cons_of_pos (p := fun x => decide (¬ x < 0)) (decide_eq_true q3), List.filter_nil]
                  have Vr112 : Arv Z h103 r kr .int (2 : Int32) [(.int v7_18), (.int v9_31)] (.int (0 : Int32)) := by
                    have Vq := Vf_109
                    rw [hys2] at Vq
                    exact Vq
                  refine Own.ifnull 279 271 X103 hx (hb hby at_268) rfl (by decide) rfl (fun hh => nomatch hh) (fun _ _ => ?_)
                  refine Own.aload 273 X103 hx (hb hby at_271) rfl rfl rfl ?_
                  refine Own.arrLen 274 X103 hx hZ e103 Vr112 (hb hby at_273) rfl ?_
                  refine Own.iload 276 X103 hx (hb hby at_274) rfl rfl ?_
                  refine Own.icmp_eq 281 279 X103 hx (hb hby at_276) (by decide) rfl (fun tk => ?_) (fun tk => absurd tk (by decide))
                  refine Own.iload 283 X103 hx (hb hby at_281) rfl rfl ?_
                  refine Own.iconst 284 X103 hx ((1 : Int32)) (hb hby at_283) rfl rfl ?_
                  refine Own.icmp_lt 298 287 X103 hx (hb hby at_284) (by decide) rfl (fun tk => absurd tk (by decide)) (fun tk => ?_)
                  refine Own.aload 289 X103 hx (hb hby at_287) rfl rfl rfl ?_
                  refine Own.iconst 290 X103 hx ((0 : Int32)) (hb hby at_289) rfl rfl ?_
                  refine Own.iaload 291 X103 hx hZ e103 (v7_18) Vr112 (by decide) rfl (hb hby at_290) rfl ?_
                  refine Own.aload 293 X103 hx (hb hby at_291) rfl rfl rfl ?_
                  refine Own.iconst 294 X103 hx ((0 : Int32)) (hb hby at_293) rfl rfl ?_
                  refine Own.iaload 295 X103 hx hZ e103 (v7_18) V103 (by decide) rfl (hb hby at_294) rfl ?_
                  refine Own.icmp_ne 353 298 X103 hx (hb hby at_295) (by decide) rfl (fun tk => absurd rfl tk) (fun tk => ?_)
                  refine Own.iload 300 X103 hx (hb hby at_298) rfl rfl ?_
                  refine Own.iconst 301 X103 hx ((2 : Int32)) (hb hby at_300) rfl rfl ?_
                  refine Own.icmp_lt 315 304 X103 hx (hb hby at_301) (by decide) rfl (fun tk => absurd tk (by decide)) (fun tk => ?_)
                  refine Own.aload 306 X103 hx (hb hby at_304) rfl rfl rfl ?_
                  refine Own.iconst 307 X103 hx ((1 : Int32)) (hb hby at_306) rfl rfl ?_
                  refine Own.iaload 308 X103 hx hZ e103 (v9_31) Vr112 (by decide) rfl (hb hby at_307) rfl ?_
                  refine Own.aload 310 X103 hx (hb hby at_308) rfl rfl rfl ?_
                  refine Own.iconst 311 X103 hx ((1 : Int32)) (hb hby at_310) rfl rfl ?_
                  refine Own.iaload 312 X103 hx hZ e103 (v9_31) V103 (by decide) rfl (hb hby at_311) rfl ?_
                  refine Own.icmp_ne 353 315 X103 hx (hb hby at_312) (by decide) rfl (fun tk => absurd rfl tk) (fun tk => ?_)
                  refine Own.iload 317 X103 hx (hb hby at_315) rfl rfl ?_
                  refine Own.iconst 318 X103 hx ((3 : Int32)) (hb hby at_317) rfl rfl ?_
                  refine Own.icmp_lt 332 321 X103 hx (hb hby at_318) (by decide) rfl (fun tk => ?_) (fun tk => absurd tk (by decide))
                  refine Own.iload 334 X103 hx (hb hby at_332) rfl rfl ?_
                  refine Own.iconst 335 X103 hx ((4 : Int32)) (hb hby at_334) rfl rfl ?_
                  refine Own.icmp_lt 349 338 X103 hx (hb hby at_335) (by decide) rfl (fun tk => ?_) (fun tk => absurd tk (by decide))
                  refine Own.iconst 350 X103 hx ((1 : Int32)) (hb hby at_349) rfl rfl ?_
                  refine Own.goto 354 X103 hx (hb hby at_350) (by decide) ?_
                  refine Own.istoreV 356 #[.val (.int x0), .val (.int x1), .val (.int x2), .val (.int x3), .val (.int x4), .val (.int (4 : Int32)), .val (.int v6_12), .val (.int v7_18), .val (.int v8_24), .val (.int v9_31), .val (.ref sl), .val (.ref cn), .val (.ref p'), .val (.ref r), .val (.ref ex), .val (.int (2 : Int32)), .val (.int (1 : Int32))] X103 hx (hb hby at_354) rfl rfl ?_
                  refine Own.iload 358 X103 hx (hb hby at_356) rfl rfl ?_
                  refine Own.if_eq 375 361 X103 hx (hb hby at_358) (by decide) rfl (fun tk => absurd tk (by decide)) (fun tk => ?_)
                  refine Own.aload 363 X103 hx (hb hby at_361) rfl rfl rfl ?_
                  refine Own.callVt 366 0 p' [] [] X103 hx hZ hown (m5_4 l Z a0 w p' sl k5 v6_12 v7_18 v8_24 v9_31 _ Ff_108 Vf_105) Ef_107 (notFace_of_selects (args := #[]) (mvT hZ (w 41 rfl))) (w 38 rfl) (w 39 rfl) (w 41 rfl) (w 40 rfl) (w 10 rfl) (w 42 rfl) (by decide) e103 (by decide) (by decide) (by decide) (by decide) (by rw [hml]; rfl) (lenOf pd_3 rfl) rfl (Nat.le_of_eq rfl) (hb hby at_363) rfl ?_
                  rintro vv T113 L113 X113 ⟨rfl, hh113, rfl⟩
                  have N113 := Fr.app N103 (Fr.nil _)
                  refine Own.iload 368 X113 hx (hb hby at_366) rfl rfl ?_
                  refine Own.icmp_ne 375 371 X113 hx (hb hby at_368) (by decide) rfl (fun tk => absurd tk (by decide)) (fun tk => ?_)
                  refine Own.iconst 372 X113 hx ((1 : Int32)) (hb hby at_371) rfl rfl ?_
                  refine Own.goto 376 X113 hx (hb hby at_372) (by decide) ?_
                  refine Own.retBool X113 hx hlk hret (hb hby at_376) (by decide) (by decide) ?_
                  exact ⟨⟨rfl, N113⟩, by rw [hh113]; exact zk103⟩
              ·
                refine Own.aload 237 X92 hx (hb hby at_235) rfl rfl rfl ?_
                refine Own.iload 239 X92 hx (hb hby at_237) rfl rfl ?_
                refine Own.iload 241 X92 hx (hb hby at_239) rfl rfl ?_
                refine Own.iastore 242 X92 hx hZ e92 V92 (by decide) (Nat.le_of_ble_eq_true rfl) (hb hby at_241) rfl ?_
                intro T114 h114 X114 e114 W114 A114
                have N114 := Fr.snoc X114 N92 g_ex
                have Vf_116 := Vf_94.other W114 ne_sl_ex
                have Vf_117 := Vf_95.other W114 ne_cn_ex
                have Ef_118 := Ef_96.wr W114
                have Ff_119 := Ff_97.other W114 (Or.inl ne_p'_ex)
                have Vf_120 := Vf_98.other W114 ne_r_ex
                have zl114 := Nat.le_trans zl92 (Nat.le_of_eq W114.size.symm)
                have zk114 := Nat.le_trans zk92 (Nat.le_of_eq W114.size.symm)
                have V114 : Arv Z h114 ex k50 .int (4 : Int32) [(.int v7_18), (.int v8_24), (.int (0 : Int32)), (.int (0 : Int32))] (.int (0 : Int32)) := A114
                refine Own.iinc 245 (fun c_122 => #[.val (.int x0), .val (.int x1), .val (.int x2), .val (.int x3), .val (.int x4), .val (.int (4 : Int32)), .val (.int v6_12), .val (.int v7_18), .val (.int v8_24), .val (.int v9_31), .val (.ref sl), .val (.ref cn), .val (.ref p'), .val (.ref r), .val (.ref ex), .val (.int c_122), .unset]) X114 hx ((1 : Int32)) (hb hby at_242) rfl rfl rfl (fun _ => rfl) fun c_122 hc_122 => ?_
                obtain rfl : c_122 = (2 : Int32) := hc_122.trans (by decide)
                refine Own.iload 247 X114 hx (hb hby at_245) rfl rfl ?_
                refine Own.iconst 248 X114 hx ((4 : Int32)) (hb hby at_247) rfl rfl ?_
                refine Own.icmp_lt 266 251 X114 hx (hb hby at_248) (by decide) rfl (fun tk => absurd tk (by decide)) (fun tk => ?_)
                refine Own.iload 253 X114 hx (hb hby at_251) rfl rfl ?_
                refine Own.if_lt 266 256 X114 hx (hb hby at_253) (by decide) rfl (fun q3 => ?_) (fun q3 => ?_)
                ·
                  refine Own.aload 268 X114 hx (hb hby at_266) rfl rfl rfl ?_
                  have hys2 : ys = [v7_18, v8_24] := by rw [hys, own_f, List.filter_cons_of_neg (p := fun x => decide (¬ x < 0)) (by rw [decide_eq_true_iff]; exact fun u => u q0), List.filter_cons_of_pos (p := fun x => decide (¬ x < 0)) (decide_eq_true q1), List.filter_cons_of_pos (p := fun x => decide (¬ x < 0)) (decide_eq_true q2), List.filter_cons_of_neg (p := fun x => decide (¬ x < 0)) (by rw [decide_eq_true_iff]; exact fun u => u q3), List.filter_nil]
                  have Vr123 : Arv Z h114 r kr .int (2 : Int32) [(.int v7_18), (.int v8_24)] (.int (0 : Int32)) := by
                    have Vq := Vf_120
                    rw [hys2] at Vq
                    exact Vq
                  refine Own.ifnull 279 271 X114 hx (hb hby at_268) rfl (by decide) rfl (fun hh => nomatch hh) (fun _ _ => ?_)
                  refine Own.aload 273 X114 hx (hb hby at_271) rfl rfl rfl ?_
                  refine Own.arrLen 274 X114 hx hZ e114 Vr123 (hb hby at_273) rfl ?_
                  refine Own.iload 276 X114 hx (hb hby at_274) rfl rfl ?_
                  refine Own.icmp_eq 281 279 X114 hx (hb hby at_276) (by decide) rfl (fun tk => ?_) (fun tk => absurd tk (by decide))
                  refine Own.iload 283 X114 hx (hb hby at_281) rfl rfl ?_
                  refine Own.iconst 284 X114 hx ((1 : Int32)) (hb hby at_283) rfl rfl ?_
                  refine Own.icmp_lt 298 287 X114 hx (hb hby at_284) (by decide) rfl (fun tk => absurd tk (by decide)) (fun tk => ?_)
                  refine Own.aload 289 X114 hx (hb hby at_287) rfl rfl rfl ?_
                  refine Own.iconst 290 X114 hx ((0 : Int32)) (hb hby at_289) rfl rfl ?_
                  refine Own.iaload 291 X114 hx hZ e114 (v7_18) Vr123 (by decide) rfl (hb hby at_290) rfl ?_
                  refine Own.aload 293 X114 hx (hb hby at_291) rfl rfl rfl ?_
                  refine Own.iconst 294 X114 hx ((0 : Int32)) (hb hby at_293) rfl rfl ?_
                  refine Own.iaload 295 X114 hx hZ e114 (v7_18) V114 (by decide) rfl (hb hby at_294) rfl ?_
                  refine Own.icmp_ne 353 298 X114 hx (hb hby at_295) (by decide) rfl (fun tk => absurd rfl tk) (fun tk => ?_)
                  refine Own.iload 300 X114 hx (hb hby at_298) rfl rfl ?_
                  refine Own.iconst 301 X114 hx ((2 : Int32)) (hb hby at_300) rfl rfl ?_
                  refine Own.icmp_lt 315 304 X114 hx (hb hby at_301) (by decide) rfl (fun tk => absurd tk (by decide)) (fun tk => ?_)
                  refine Own.aload 306 X114 hx (hb hby at_304) rfl rfl rfl ?_
                  refine Own.iconst 307 X114 hx ((1 : Int32)) (hb hby at_306) rfl rfl ?_
                  refine Own.iaload 308 X114 hx hZ e114 (v8_24) Vr123 (by decide) rfl (hb hby at_307) rfl ?_
                  refine Own.aload 310 X114 hx (hb hby at_308) rfl rfl rfl ?_
                  refine Own.iconst 311 X114 hx ((1 : Int32)) (hb hby at_310) rfl rfl ?_
                  refine Own.iaload 312 X114 hx hZ e114 (v8_24) V114 (by decide) rfl (hb hby at_311) rfl ?_
                  refine Own.icmp_ne 353 315 X114 hx (hb hby at_312) (by decide) rfl (fun tk => absurd rfl tk) (fun tk => ?_)
                  refine Own.iload 317 X114 hx (hb hby at_315) rfl rfl ?_
                  refine Own.iconst 318 X114 hx ((3 : Int32)) (hb hby at_317) rfl rfl ?_
                  refine Own.icmp_lt 332 321 X114 hx (hb hby at_318) (by decide) rfl (fun tk => ?_) (fun tk => absurd tk (by decide))
                  refine Own.iload 334 X114 hx (hb hby at_332) rfl rfl ?_
                  refine Own.iconst 335 X114 hx ((4 : Int32)) (hb hby at_334) rfl rfl ?_
                  refine Own.icmp_lt 349 338 X114 hx (hb hby at_335) (by decide) rfl (fun tk => ?_) (fun tk => absurd tk (by decide))
                  refine Own.iconst 350 X114 hx ((1 : Int32)) (hb hby at_349) rfl rfl ?_
                  refine Own.goto 354 X114 hx (hb hby at_350) (by decide) ?_
                  refine Own.istoreV 356 #[.val (.int x0), .val (.int x1), .val (.int x2), .val (.int x3), .val (.int x4), .val (.int (4 : Int32)), .val (.int v6_12), .val (.int v7_18), .val (.int v8_24), .val (.int v9_31), .val (.ref sl), .val (.ref cn), .val (.ref p'), .val (.ref r), .val (.ref ex), .val (.int (2 : Int32)), .val (.int (1 : Int32))] X114 hx (hb hby at_354) rfl rfl ?_
                  refine Own.iload 358 X114 hx (hb hby at_356) rfl rfl ?_
                  refine Own.if_eq 375 361 X114 hx (hb hby at_358) (by decide) rfl (fun tk => absurd tk (by decide)) (fun tk => ?_)
                  refine Own.aload 363 X114 hx (hb hby at_361) rfl rfl rfl ?_
                  refine Own.callVt 366 0 p' [] [] X114 hx hZ hown (m5_4 l Z a0 w p' sl k5 v6_12 v7_18 v8_24 v9_31 _ Ff_119 Vf_116) Ef_118 (notFace_of_selects (args := #[]) (mvT hZ (w 41 rfl))) (w 38 rfl) (w 39 rfl) (w 41 rfl) (w 40 rfl) (w 10 rfl) (w 42 rfl) (by decide) e114 (by decide) (by decide) (by decide) (by decide) (by rw [hml]; rfl) (lenOf pd_3 rfl) rfl (Nat.le_of_eq rfl) (hb hby at_363) rfl ?_
                  rintro vv T124 L124 X124 ⟨rfl, hh124, rfl⟩
                  have N124 := Fr.app N114 (Fr.nil _)
                  refine Own.iload 368 X124 hx (hb hby at_366) rfl rfl ?_
                  refine Own.icmp_ne 375 371 X124 hx (hb hby at_368) (by decide) rfl (fun tk => absurd tk (by decide)) (fun tk => ?_)
                  refine Own.iconst 372 X124 hx ((1 : Int32)) (hb hby at_371) rfl rfl ?_
                  refine Own.goto 376 X124 hx (hb hby at_372) (by decide) ?_
                  refine Own.retBool X124 hx hlk hret (hb hby at_376) (by decide) (by decide) ?_
                  exact ⟨⟨rfl, N124⟩, by rw [hh124]; exact zk114⟩
                ·
                  refine Own.aload 258 X114 hx (hb hby at_256) rfl rfl rfl ?_
                  refine Own.iload 260 X114 hx (hb hby at_258) rfl rfl ?_
                  refine Own.iload 262 X114 hx (hb hby at_260) rfl rfl ?_
                  refine Own.iastore 263 X114 hx hZ e114 V114 (by decide) (Nat.le_of_ble_eq_true rfl) (hb hby at_262) rfl ?_
                  intro T125 h125 X125 e125 W125 A125
                  have N125 := Fr.snoc X125 N114 g_ex
                  have Vf_127 := Vf_116.other W125 ne_sl_ex
                  have Vf_128 := Vf_117.other W125 ne_cn_ex
                  have Ef_129 := Ef_118.wr W125
                  have Ff_130 := Ff_119.other W125 (Or.inl ne_p'_ex)
                  have Vf_131 := Vf_120.other W125 ne_r_ex
                  have zl125 := Nat.le_trans zl114 (Nat.le_of_eq W125.size.symm)
                  have zk125 := Nat.le_trans zk114 (Nat.le_of_eq W125.size.symm)
                  have V125 : Arv Z h125 ex k50 .int (4 : Int32) [(.int v7_18), (.int v8_24), (.int v9_31), (.int (0 : Int32))] (.int (0 : Int32)) := A125
                  refine Own.iinc 266 (fun c_133 => #[.val (.int x0), .val (.int x1), .val (.int x2), .val (.int x3), .val (.int x4), .val (.int (4 : Int32)), .val (.int v6_12), .val (.int v7_18), .val (.int v8_24), .val (.int v9_31), .val (.ref sl), .val (.ref cn), .val (.ref p'), .val (.ref r), .val (.ref ex), .val (.int c_133), .unset]) X125 hx ((1 : Int32)) (hb hby at_263) rfl rfl rfl (fun _ => rfl) fun c_133 hc_133 => ?_
                  obtain rfl : c_133 = (3 : Int32) := hc_133.trans (by decide)
                  refine Own.aload 268 X125 hx (hb hby at_266) rfl rfl rfl ?_
                  have hys2 : ys = [v7_18, v8_24, v9_31] := by rw [hys, own_f, List.filter_cons_of_neg (p := fun x => decide (¬ x < 0)) (by rw [decide_eq_true_iff]; exact fun u => u q0), List.filter_cons_of_pos (p := fun x => decide (¬ x < 0)) (decide_eq_true q1), List.filter_cons_of_pos (p := fun x => decide (¬ x < 0)) (decide_eq_true q2), List.filter_cons_of_pos (p := fun x => decide (¬ x < 0)) (decide_eq_true q3), List.filter_nil]
                  have Vr134 : Arv Z h125 r kr .int (3 : Int32) [(.int v7_18), (.int v8_24), (.int v9_31)] (.int (0 : Int32)) := by
                    have Vq := Vf_131
                    rw [hys2] at Vq
                    exact Vq
                  refine Own.ifnull 279 271 X125 hx (hb hby at_268) rfl (by decide) rfl (fun hh => nomatch hh) (fun _ _ => ?_)
                  refine Own.aload 273 X125 hx (hb hby at_271) rfl rfl rfl ?_
                  refine Own.arrLen 274 X125 hx hZ e125 Vr134 (hb hby at_273) rfl ?_
                  refine Own.iload 276 X125 hx (hb hby at_274) rfl rfl ?_
                  refine Own.icmp_eq 281 279 X125 hx (hb hby at_276) (by decide) rfl (fun tk => ?_) (fun tk => absurd tk (by decide))
                  refine Own.iload 283 X125 hx (hb hby at_281) rfl rfl ?_
                  refine Own.iconst 284 X125 hx ((1 : Int32)) (hb hby at_283) rfl rfl ?_
                  refine Own.icmp_lt 298 287 X125 hx (hb hby at_284) (by decide) rfl (fun tk => absurd tk (by decide)) (fun tk => ?_)
                  refine Own.aload 289 X125 hx (hb hby at_287) rfl rfl rfl ?_
                  refine Own.iconst 290 X125 hx ((0 : Int32)) (hb hby at_289) rfl rfl ?_
                  refine Own.iaload 291 X125 hx hZ e125 (v7_18) Vr134 (by decide) rfl (hb hby at_290) rfl ?_
                  refine Own.aload 293 X125 hx (hb hby at_291) rfl rfl rfl ?_
                  refine Own.iconst 294 X125 hx ((0 : Int32)) (hb hby at_293) rfl rfl ?_
                  refine Own.iaload 295 X125 hx hZ e125 (v7_18) V125 (by decide) rfl (hb hby at_294) rfl ?_
                  refine Own.icmp_ne 353 298 X125 hx (hb hby at_295) (by decide) rfl (fun tk => absurd rfl tk) (fun tk => ?_)
                  refine Own.iload 300 X125 hx (hb hby at_298) rfl rfl ?_
                  refine Own.iconst 301 X125 hx ((2 : Int32)) (hb hby at_300) rfl rfl ?_
                  refine Own.icmp_lt 315 304 X125 hx (hb hby at_301) (by decide) rfl (fun tk => absurd tk (by decide)) (fun tk => ?_)
                  refine Own.aload 306 X125 hx (hb hby at_304) rfl rfl rfl ?_
                  refine Own.iconst 307 X125 hx ((1 : Int32)) (hb hby at_306) rfl rfl ?_
                  refine Own.iaload 308 X125 hx hZ e125 (v8_24) Vr134 (by decide) rfl (hb hby at_307) rfl ?_
                  refine Own.aload 310 X125 hx (hb hby at_308) rfl rfl rfl ?_
                  refine Own.iconst 311 X125 hx ((1 : Int32)) (hb hby at_310) rfl rfl ?_
                  refine Own.iaload 312 X125 hx hZ e125 (v8_24) V125 (by decide) rfl (hb hby at_311) rfl ?_
                  refine Own.icmp_ne 353 315 X125 hx (hb hby at_312) (by decide) rfl (fun tk => absurd rfl tk) (fun tk => ?_)
                  refine Own.iload 317 X125 hx (hb hby at_315) rfl rfl ?_
                  refine Own.iconst 318 X125 hx ((3 : Int32)) (hb hby at_317) rfl rfl ?_
                  refine Own.icmp_lt 332 321 X125 hx (hb hby at_318) (by decide) rfl (fun tk => absurd tk (by decide)) (fun tk => ?_)
                  refine Own.aload 323 X125 hx (hb hby at_321) rfl rfl rfl ?_
                  refine Own.iconst 324 X125 hx ((2 : Int32)) (hb hby at_323) rfl rfl ?_
                  refine Own.iaload 325 X125 hx hZ e125 (v9_31) Vr134 (by decide) rfl (hb hby at_324) rfl ?_
                  refine Own.aload 327 X125 hx (hb hby at_325) rfl rfl rfl ?_
                  refine Own.iconst 328 X125 hx ((2 : Int32)) (hb hby at_327) rfl rfl ?_
                  refine Own.iaload 329 X125 hx hZ e125 (v9_31) V125 (by decide) rfl (hb hby at_328) rfl ?_
                  refine Own.icmp_ne 353 332 X125 hx (hb hby at_329) (by decide) rfl (fun tk => absurd rfl tk) (fun tk => ?_)
                  refine Own.iload 334 X125 hx (hb hby at_332) rfl rfl ?_
                  refine Own.iconst 335 X125 hx ((4 : Int32)) (hb hby at_334) rfl rfl ?_
                  refine Own.icmp_lt 349 338 X125 hx (hb hby at_335) (by decide) rfl (fun tk => ?_) (fun tk => absurd tk (by decide))
                  refine Own.iconst 350 X125 hx ((1 : Int32)) (hb hby at_349) rfl rfl ?_
                  refine Own.goto 354 X125 hx (hb hby at_350) (by decide) ?_
                  refine Own.istoreV 356 #[.val (.int x0), .val (.int x1), .val (.int x2), .val (.int x3), .val (.int x4), .val (.int (4 : Int32)), .val (.int v6_12), .val (.int v7_18), .val (.int v8_24), .val (.int v9_31), .val (.ref sl), .val (.ref cn), .val (.ref p'), .val (.ref r), .val (.ref ex), .val (.int (3 : Int32)), .val (.int (1 : Int32))] X125 hx (hb hby at_354) rfl rfl ?_
                  refine Own.iload 358 X125 hx (hb hby at_356) rfl rfl ?_
                  refine Own.if_eq 375 361 X125 hx (hb hby at_358) (by decide) rfl (fun tk => absurd tk (by decide)) (fun tk => ?_)
                  refine Own.aload 363 X125 hx (hb hby at_361) rfl rfl rfl ?_
                  refine Own.callVt 366 0 p' [] [] X125 hx hZ hown (m5_4 l Z a0 w p' sl k5 v6_12 v7_18 v8_24 v9_31 _ Ff_130 Vf_127) Ef_129 (notFace_of_selects (args := #[]) (mvT hZ (w 41 rfl))) (w 38 rfl) (w 39 rfl) (w 41 rfl) (w 40 rfl) (w 10 rfl) (w 42 rfl) (by decide) e125 (by decide) (by decide) (by decide) (by decide) (by rw [hml]; rfl) (lenOf pd_3 rfl) rfl (Nat.le_of_eq rfl) (hb hby at_363) rfl ?_
                  rintro vv T135 L135 X135 ⟨rfl, hh135, rfl⟩
                  have N135 := Fr.app N125 (Fr.nil _)
                  refine Own.iload 368 X135 hx (hb hby at_366) rfl rfl ?_
                  refine Own.icmp_ne 375 371 X135 hx (hb hby at_368) (by decide) rfl (fun tk => absurd tk (by decide)) (fun tk => ?_)
                  refine Own.iconst 372 X135 hx ((1 : Int32)) (hb hby at_371) rfl rfl ?_
                  refine Own.goto 376 X135 hx (hb hby at_372) (by decide) ?_
                  refine Own.retBool X135 hx hlk hret (hb hby at_376) (by decide) (by decide) ?_
                  exact ⟨⟨rfl, N135⟩, by rw [hh135]; exact zk125⟩
          ·
            refine Own.aload 195 X50 hx (hb hby at_193) rfl rfl rfl ?_
            refine Own.iload 197 X50 hx (hb hby at_195) rfl rfl ?_
            refine Own.iload 199 X50 hx (hb hby at_197) rfl rfl ?_
            refine Own.iastore 200 X50 hx hZ e50 V50 (by decide) (Nat.le_of_ble_eq_true rfl) (hb hby at_199) rfl ?_
            intro T136 h136 X136 e136 W136 A136
            have N136 := Fr.snoc X136 N44 g_ex
            have Vf_138 := Vf_52.other W136 ne_sl_ex
            have Vf_139 := Vf_53.other W136 ne_cn_ex
            have Ef_140 := Ef_54.wr W136
            have Ff_141 := Ff_55.other W136 (Or.inl ne_p'_ex)
            have Vf_142 := Vf_56.other W136 ne_r_ex
            have zl136 := Nat.le_trans zl50 (Nat.le_of_eq W136.size.symm)
            have zk136 := Nat.le_trans zk50 (Nat.le_of_eq W136.size.symm)
            have V136 : Arv Z h136 ex k50 .int (4 : Int32) [(.int v6_12), (.int (0 : Int32)), (.int (0 : Int32)), (.int (0 : Int32))] (.int (0 : Int32)) := A136
            refine Own.iinc 203 (fun c_144 => #[.val (.int x0), .val (.int x1), .val (.int x2), .val (.int x3), .val (.int x4), .val (.int (4 : Int32)), .val (.int v6_12), .val (.int v7_18), .val (.int v8_24), .val (.int v9_31), .val (.ref sl), .val (.ref cn), .val (.ref p'), .val (.ref r), .val (.ref ex), .val (.int c_144), .unset]) X136 hx ((1 : Int32)) (hb hby at_200) rfl rfl rfl (fun _ => rfl) fun c_144 hc_144 => ?_
            obtain rfl : c_144 = (1 : Int32) := hc_144.trans (by decide)
            refine Own.iload 205 X136 hx (hb hby at_203) rfl rfl ?_
            refine Own.iconst 206 X136 hx ((2 : Int32)) (hb hby at_205) rfl rfl ?_
            refine Own.icmp_lt 224 209 X136 hx (hb hby at_206) (by decide) rfl (fun tk => absurd tk (by decide)) (fun tk => ?_)
            refine Own.iload 211 X136 hx (hb hby at_209) rfl rfl ?_
            refine Own.if_lt 224 214 X136 hx (hb hby at_211) (by decide) rfl (fun q1 => ?_) (fun q1 => ?_)
            ·
              refine Own.iload 226 X136 hx (hb hby at_224) rfl rfl ?_
              refine Own.iconst 227 X136 hx ((3 : Int32)) (hb hby at_226) rfl rfl ?_
              refine Own.icmp_lt 245 230 X136 hx (hb hby at_227) (by decide) rfl (fun tk => absurd tk (by decide)) (fun tk => ?_)
              refine Own.iload 232 X136 hx (hb hby at_230) rfl rfl ?_
              refine Own.if_lt 245 235 X136 hx (hb hby at_232) (by decide) rfl (fun q2 => ?_) (fun q2 => ?_)
              ·
                refine Own.iload 247 X136 hx (hb hby at_245) rfl rfl ?_
                refine Own.iconst 248 X136 hx ((4 : Int32)) (hb hby at_247) rfl rfl ?_
                refine Own.icmp_lt 266 251 X136 hx (hb hby at_248) (by decide) rfl (fun tk => absurd tk (by decide)) (fun tk => ?_)
                refine Own.iload 253 X136 hx (hb hby at_251) rfl rfl ?_
                refine Own.if_lt 266 256 X136 hx (hb hby at_253) (by decide) rfl (fun q3 => ?_) (fun q3 => ?_)
                ·
                  refine Own.aload 268 X136 hx (hb hby at_266) rfl rfl rfl ?_
                  have hys2 : ys = [v6_12] := by rw [hys, own_f, List.filter_cons_of_pos (p := fun x => decide (¬ x < 0)) (decide_eq_true q0), List.filter_cons_of_neg (p := fun x => decide (¬ x < 0)) (by rw [decide_eq_true_iff]; exact fun u => u q1), List.filter_cons_of_neg (p := fun x => decide (¬ x < 0)) (by rw [decide_eq_true_iff]; exact fun u => u q2), List.filter_cons_of_neg (p := fun x => decide (¬ x < 0)) (by rw [decide_eq_true_iff]; exact fun u => u q3), List.filter_nil]
                  have Vr145 : Arv Z h136 r kr .int (1 : Int32) [(.int v6_12)] (.int (0 : Int32)) := by
                    have Vq := Vf_142
                    rw [hys2] at Vq
                    exact Vq
                  refine Own.ifnull 279 271 X136 hx (hb hby at_268) rfl (by decide) rfl (fun hh => nomatch hh) (fun _ _ => ?_)
                  refine Own.aload 273 X136 hx (hb hby at_271) rfl rfl rfl ?_
                  refine Own.arrLen 274 X136 hx hZ e136 Vr145 (hb hby at_273) rfl ?_
                  refine Own.iload 276 X136 hx (hb hby at_274) rfl rfl ?_
                  refine Own.icmp_eq 281 279 X136 hx (hb hby at_276) (by decide) rfl (fun tk => ?_) (fun tk => absurd tk (by decide))
                  refine Own.iload 283 X136 hx (hb hby at_281) rfl rfl ?_
                  refine Own.iconst 284 X136 hx ((1 : Int32)) (hb hby at_283) rfl rfl ?_
                  refine Own.icmp_lt 298 287 X136 hx (hb hby at_284) (by decide) rfl (fun tk => absurd tk (by decide)) (fun tk => ?_)
                  refine Own.aload 289 X136 hx (hb hby at_287) rfl rfl rfl ?_
                  refine Own.iconst 290 X136 hx ((0 : Int32)) (hb hby at_289) rfl rfl ?_
                  refine Own.iaload 291 X136 hx hZ e136 (v6_12) Vr145 (by decide) rfl (hb hby at_290) rfl ?_
                  refine Own.aload 293 X136 hx (hb hby at_291) rfl rfl rfl ?_
                  refine Own.iconst 294 X136 hx ((0 : Int32)) (hb hby at_293) rfl rfl ?_
                  refine Own.iaload 295 X136 hx hZ e136 (v6_12) V136 (by decide) rfl (hb hby at_294) rfl ?_
                  refine Own.icmp_ne 353 298 X136 hx (hb hby at_295) (by decide) rfl (fun tk => absurd rfl tk) (fun tk => ?_)
                  refine Own.iload 300 X136 hx (hb hby at_298) rfl rfl ?_
                  refine Own.iconst 301 X136 hx ((2 : Int32)) (hb hby at_300) rfl rfl ?_
                  refine Own.icmp_lt 315 304 X136 hx (hb hby at_301) (by decide) rfl (fun tk => ?_) (fun tk => absurd tk (by decide))
                  refine Own.iload 317 X136 hx (hb hby at_315) rfl rfl ?_
                  refine Own.iconst 318 X136 hx ((3 : Int32)) (hb hby at_317) rfl rfl ?_
                  refine Own.icmp_lt 332 321 X136 hx (hb hby at_318) (by decide) rfl (fun tk => ?_) (fun tk => absurd tk (by decide))
                  refine Own.iload 334 X136 hx (hb hby at_332) rfl rfl ?_
                  refine Own.iconst 335 X136 hx ((4 : Int32)) (hb hby at_334) rfl rfl ?_
                  refine Own.icmp_lt 349 338 X136 hx (hb hby at_335) (by decide) rfl (fun tk => ?_) (fun tk => absurd tk (by decide))
                  refine Own.iconst 350 X136 hx ((1 : Int32)) (hb hby at_349) rfl rfl ?_
                  refine Own.goto 354 X136 hx (hb hby at_350) (by decide) ?_
                  refine Own.istoreV 356 #[.val (.int x0), .val (.int x1), .val (.int x2), .val (.int x3), .val (.int x4), .val (.int (4 : Int32)), .val (.int v6_12), .val (.int v7_18), .val (.int v8_24), .val (.int v9_31), .val (.ref sl), .val (.ref cn), .val (.ref p'), .val (.ref r), .val (.ref ex), .val (.int (1 : Int32)), .val (.int (1 : Int32))] X136 hx (hb hby at_354) rfl rfl ?_
                  refine Own.iload 358 X136 hx (hb hby at_356) rfl rfl ?_
                  refine Own.if_eq 375 361 X136 hx (hb hby at_358) (by decide) rfl (fun tk => absurd tk (by decide)) (fun tk => ?_)
                  refine Own.aload 363 X136 hx (hb hby at_361) rfl rfl rfl ?_
                  refine Own.callVt 366 0 p' [] [] X136 hx hZ hown (m5_4 l Z a0 w p' sl k5 v6_12 v7_18 v8_24 v9_31 _ Ff_141 Vf_138) Ef_140 (notFace_of_selects (args := #[]) (mvT hZ (w 41 rfl))) (w 38 rfl) (w 39 rfl) (w 41 rfl) (w 40 rfl) (w 10 rfl) (w 42 rfl) (by decide) e136 (by decide) (by decide) (by decide) (by decide) (by rw [hml]; rfl) (lenOf pd_3 rfl) rfl (Nat.le_of_eq rfl) (hb hby at_363) rfl ?_
                  rintro vv T146 L146 X146 ⟨rfl, hh146, rfl⟩
                  have N146 := Fr.app N136 (Fr.nil _)
                  refine Own.iload 368 X146 hx (hb hby at_366) rfl rfl ?_
                  refine Own.icmp_ne 375 371 X146 hx (hb hby at_368) (by decide) rfl (fun tk => absurd tk (by decide)) (fun tk => ?_)
                  refine Own.iconst 372 X146 hx ((1 : Int32)) (hb hby at_371) rfl rfl ?_
                  refine Own.goto 376 X146 hx (hb hby at_372) (by decide) ?_
                  refine Own.retBool X146 hx hlk hret (hb hby at_376) (by decide) (by decide) ?_
                  exact ⟨⟨rfl, N146⟩, by rw [hh146]; exact zk136⟩
                ·
                  refine Own.aload 258 X136 hx (hb hby at_256) rfl rfl rfl ?_
                  refine Own.iload 260 X136 hx (hb hby at_258) rfl rfl ?_
                  refine Own.iload 262 X136 hx (hb hby at_260) rfl rfl ?_
                  refine Own.iastore 263 X136 hx hZ e136 V136 (by decide) (Nat.le_of_ble_eq_true rfl) (hb hby at_262) rfl ?_
                  intro T147 h147 X147 e147 W147 A147
                  have N147 := Fr.snoc X147 N136 g_ex
                  have Vf_149 := Vf_138.other W147 ne_sl_ex
                  have Vf_150 := Vf_139.other W147 ne_cn_ex
                  have Ef_151 := Ef_140.wr W147
                  have Ff_152 := Ff_141.other W147 (Or.inl ne_p'_ex)
                  have Vf_153 := Vf_142.other W147 ne_r_ex
                  have zl147 := Nat.le_trans zl136 (Nat.le_of_eq W147.size.symm)
                  have zk147 := Nat.le_trans zk136 (Nat.le_of_eq W147.size.symm)
                  have V147 : Arv Z h147 ex k50 .int (4 : Int32) [(.int v6_12), (.int v9_31), (.int (0 : Int32)), (.int (0 : Int32))] (.int (0 : Int32)) := A147
                  refine Own.iinc 266 (fun c_155 => #[.val (.int x0), .val (.int x1), .val (.int x2), .val (.int x3), .val (.int x4), .val (.int (4 : Int32)), .val (.int v6_12), .val (.int v7_18), .val (.int v8_24), .val (.int v9_31), .val (.ref sl), .val (.ref cn), .val (.ref p'), .val (.ref r), .val (.ref ex), .val (.int c_155), .unset]) X147 hx ((1 : Int32)) (hb hby at_263) rfl rfl rfl (fun _ => rfl) fun c_155 hc_155 => ?_
                  obtain rfl : c_155 = (2 : Int32) := hc_155.trans (by decide)
                  refine Own.aload 268 X147 hx (hb hby at_266) rfl rfl rfl ?_
                  have hys2 : ys = [v6_12, v9_31] := by rw [hys, own_f, List.filter_cons_of_pos (p := fun x => decide (¬ x < 0)) (decide_eq_true q0), List.filter_cons_of_neg (p := fun x => decide (¬ x < 0)) (by rw [decide_eq_true_iff]; exact fun u => u q1), List.filter_cons_of_neg (p := fun x => decide (¬ x < 0)) (by rw [decide_eq_true_iff]; exact fun u => u q2), List.filter_cons_of_pos (p := fun x => decide (¬ x < 0)) (decide_eq_true q3), List.filter_nil]
                  have Vr156 : Arv Z h147 r kr .int (2 : Int32) [(.int v6_12), (.int v9_31)] (.int (0 : Int32)) := by
                    have Vq := Vf_153
                    rw [hys2] at Vq
                    exact Vq
                  refine Own.ifnull 279 271 X147 hx (hb hby at_268) rfl (by decide) rfl (fun hh => nomatch hh) (fun _ _ => ?_)
                  refine Own.aload 273 X147 hx (hb hby at_271) rfl rfl rfl ?_
                  refine Own.arrLen 274 X147 hx hZ e147 Vr156 (hb hby at_273) rfl ?_
                  refine Own.iload 276 X147 hx (hb hby at_274) rfl rfl ?_
                  refine Own.icmp_eq 281 279 X147 hx (hb hby at_276) (by decide) rfl (fun tk => ?_) (fun tk => absurd tk (by decide))
                  refine Own.iload 283 X147 hx (hb hby at_281) rfl rfl ?_
                  refine Own.iconst 284 X147 hx ((1 : Int32)) (hb hby at_283) rfl rfl ?_
                  refine Own.icmp_lt 298 287 X147 hx (hb hby at_284) (by decide) rfl (fun tk => absurd tk (by decide)) (fun tk => ?_)
                  refine Own.aload 289 X147 hx (hb hby at_287) rfl rfl rfl ?_
                  refine Own.iconst 290 X147 hx ((0 : Int32)) (hb hby at_289) rfl rfl ?_
                  refine Own.iaload 291 X147 hx hZ e147 (v6_12) Vr156 (by decide) rfl (hb hby at_290) rfl ?_
                  refine Own.aload 293 X147 hx (hb hby at_291) rfl rfl rfl ?_
                  refine Own.iconst 294 X147 hx ((0 : Int32)) (hb hby at_293) rfl rfl ?_
                  refine Own.iaload 295 X147 hx hZ e147 (v6_12) V147 (by decide) rfl (hb hby at_294) rfl ?_
                  refine Own.icmp_ne 353 298 X147 hx (hb hby at_295) (by decide) rfl (fun tk => absurd rfl tk) (fun tk => ?_)
                  refine Own.iload 300 X147 hx (hb hby at_298) rfl rfl ?_
                  refine Own.iconst 301 X147 hx ((2 : Int32)) (hb hby at_300) rfl rfl ?_
                  refine Own.icmp_lt 315 304 X147 hx (hb hby at_301) (by decide) rfl (fun tk => absurd tk (by decide)) (fun tk => ?_)
                  refine Own.aload 306 X147 hx (hb hby at_304) rfl rfl rfl ?_
                  refine Own.iconst 307 X147 hx ((1 : Int32)) (hb hby at_306) rfl rfl ?_
                  refine Own.iaload 308 X147 hx hZ e147 (v9_31) Vr156 (by decide) rfl (hb hby at_307) rfl ?_
                  refine Own.aload 310 X147 hx (hb hby at_308) rfl rfl rfl ?_
                  refine Own.iconst 311 X147 hx ((1 : Int32)) (hb hby at_310) rfl rfl ?_
                  refine Own.iaload 312 X147 hx hZ e147 (v9_31) V147 (by decide) rfl (hb hby at_311) rfl ?_
                  refine Own.icmp_ne 353 315 X147 hx (hb hby at_312) (by decide) rfl (fun tk => absurd rfl tk) (fun tk => ?_)
                  refine Own.iload 317 X147 hx (hb hby at_315) rfl rfl ?_
                  refine Own.iconst 318 X147 hx ((3 : Int32)) (hb hby at_317) rfl rfl ?_
                  refine Own.icmp_lt 332 321 X147 hx (hb hby at_318) (by decide) rfl (fun tk => ?_) (fun tk => absurd tk (by decide))
                  refine Own.iload 334 X147 hx (hb hby at_332) rfl rfl ?_
                  refine Own.iconst 335 X147 hx ((4 : Int32)) (hb hby at_334) rfl rfl ?_
                  refine Own.icmp_lt 349 338 X147 hx (hb hby at_335) (by decide) rfl (fun tk => ?_) (fun tk => absurd tk (by decide))
                  refine Own.iconst 350 X147 hx ((1 : Int32)) (hb hby at_349) rfl rfl ?_
                  refine Own.goto 354 X147 hx (hb hby at_350) (by decide) ?_
                  refine Own.istoreV 356 #[.val (.int x0), .val (.int x1), .val (.int x2), .val (.int x3), .val (.int x4), .val (.int (4 : Int32)), .val (.int v6_12), .val (.int v7_18), .val (.int v8_24), .val (.int v9_31), .val (.ref sl), .val (.ref cn), .val (.ref p'), .val (.ref r), .val (.ref ex), .val (.int (2 : Int32)), .val (.int (1 : Int32))] X147 hx (hb hby at_354) rfl rfl ?_
                  refine Own.iload 358 X147 hx (hb hby at_356) rfl rfl ?_
                  refine Own.if_eq 375 361 X147 hx (hb hby at_358) (by decide) rfl (fun tk => absurd tk (by decide)) (fun tk => ?_)
                  refine Own.aload 363 X147 hx (hb hby at_361) rfl rfl rfl ?_
                  refine Own.callVt 366 0 p' [] [] X147 hx hZ hown (m5_4 l Z a0 w p' sl k5 v6_12 v7_18 v8_24 v9_31 _ Ff_152 Vf_149) Ef_151 (notFace_of_selects (args := #[]) (mvT hZ (w 41 rfl))) (w 38 rfl) (w 39 rfl) (w 41 rfl) (w 40 rfl) (w 10 rfl) (w 42 rfl) (by decide) e147 (by decide) (by decide) (by decide) (by decide) (by rw [hml]; rfl) (lenOf pd_3 rfl) rfl (Nat.le_of_eq rfl) (hb hby at_363) rfl ?_
                  rintro vv T157 L157 X157 ⟨rfl, hh157, rfl⟩
                  have N157 := Fr.app N147 (Fr.nil _)
                  refine Own.iload 368 X157 hx (hb hby at_366) rfl rfl ?_
                  refine Own.icmp_ne 375 371 X157 hx (hb hby at_368) (by decide) rfl (fun tk => absurd tk (by decide)) (fun tk => ?_)
                  refine Own.iconst 372 X157 hx ((1 : Int32)) (hb hby at_371) rfl rfl ?_
                  refine Own.goto 376 X157 hx (hb hby at_372) (by decide) ?_
                  refine Own.retBool X157 hx hlk hret (hb hby at_376) (by decide) (by decide) ?_
                  exact ⟨⟨rfl, N157⟩, by rw [hh157]; exact zk147⟩
              ·
                refine Own.aload 237 X136 hx (hb hby at_235) rfl rfl rfl ?_
                refine Own.iload 239 X136 hx (hb hby at_237) rfl rfl ?_
                refine Own.iload 241 X136 hx (hb hby at_239) rfl rfl ?_
                refine Own.iastore 242 X136 hx hZ e136 V136 (by decide) (Nat.le_of_ble_eq_true rfl) (hb hby at_241) rfl ?_
                intro T158 h158 X158 e158 W158 A158
                have N158 := Fr.snoc X158 N136 g_ex
                have Vf_160 := Vf_138.other W158 ne_sl_ex
                have Vf_161 := Vf_139.other W158 ne_cn_ex
                have Ef_162 := Ef_140.wr W158
                have Ff_163 := Ff_141.other W158 (Or.inl ne_p'_ex)
                have Vf_164 := Vf_142.other W158 ne_r_ex
                have zl158 := Nat.le_trans zl136 (Nat.le_of_eq W158.size.symm)
                have zk158 := Nat.le_trans zk136 (Nat.le_of_eq W158.size.symm)
                have V158 : Arv Z h158 ex k50 .int (4 : Int32) [(.int v6_12), (.int v8_24), (.int (0 : Int32)), (.int (0 : Int32))] (.int (0 : Int32)) := A158
                refine Own.iinc 245 (fun c_166 => #[.val (.int x0), .val (.int x1), .val (.int x2), .val (.int x3), .val (.int x4), .val (.int (4 : Int32)), .val (.int v6_12), .val (.int v7_18), .val (.int v8_24), .val (.int v9_31), .val (.ref sl), .val (.ref cn), .val (.ref p'), .val (.ref r), .val (.ref ex), .val (.int c_166), .unset]) X158 hx ((1 : Int32)) (hb hby at_242) rfl rfl rfl (fun _ => rfl) fun c_166 hc_166 => ?_
                obtain rfl : c_166 = (2 : Int32) := hc_166.trans (by decide)
                refine Own.iload 247 X158 hx (hb hby at_245) rfl rfl ?_
                refine Own.iconst 248 X158 hx ((4 : Int32)) (hb hby at_247) rfl rfl ?_
                refine Own.icmp_lt 266 251 X158 hx (hb hby at_248) (by decide) rfl (fun tk => absurd tk (by decide)) (fun tk => ?_)
                refine Own.iload 253 X158 hx (hb hby at_251) rfl rfl ?_
                refine Own.if_lt 266 256 X158 hx (hb hby at_253) (by decide) rfl (fun q3 => ?_) (fun q3 => ?_)
                ·
                  refine Own.aload 268 X158 hx (hb hby at_266) rfl rfl rfl ?_
                  have hys2 : ys = [v6_12, v8_24] := by rw [hys, own_f, List.filter_cons_of_pos (p := fun x => decide (¬ x < 0)) (decide_eq_true q0), List.filter_cons_of_neg (p := fun x => decide (¬ x < 0)) (by rw [decide_eq_true_iff]; exact fun u => u q1), List.filter_cons_of_pos (p := fun x => decide (¬ x < 0)) (decide_eq_true q2), List.filter_cons_of_neg (p := fun x => decide (¬ x < 0)) (by rw [decide_eq_true_iff]; exact fun u => u q3), List.filter_nil]
                  have Vr167 : Arv Z h158 r kr .int (2 : Int32) [(.int v6_12), (.int v8_24)] (.int (0 : Int32)) := by
                    have Vq := Vf_164
                    rw [hys2] at Vq
                    exact Vq
                  refine Own.ifnull 279 271 X158 hx (hb hby at_268) rfl (by decide) rfl (fun hh => nomatch hh) (fun _ _ => ?_)
                  refine Own.aload 273 X158 hx (hb hby at_271) rfl rfl rfl ?_
                  refine Own.arrLen 274 X158 hx hZ e158 Vr167 (hb hby at_273) rfl ?_
                  refine Own.iload 276 X158 hx (hb hby at_274) rfl rfl ?_
                  refine Own.icmp_eq 281 279 X158 hx (hb hby at_276) (by decide) rfl (fun tk => ?_) (fun tk => absurd tk (by decide))
                  refine Own.iload 283 X158 hx (hb hby at_281) rfl rfl ?_
                  refine Own.iconst 284 X158 hx ((1 : Int32)) (hb hby at_283) rfl rfl ?_
                  refine Own.icmp_lt 298 287 X158 hx (hb hby at_284) (by decide) rfl (fun tk => absurd tk (by decide)) (fun tk => ?_)
                  refine Own.aload 289 X158 hx (hb hby at_287) rfl rfl rfl ?_
                  refine Own.iconst 290 X158 hx ((0 : Int32)) (hb hby at_289) rfl rfl ?_
                  refine Own.iaload 291 X158 hx hZ e158 (v6_12) Vr167 (by decide) rfl (hb hby at_290) rfl ?_
                  refine Own.aload 293 X158 hx (hb hby at_291) rfl rfl rfl ?_
                  refine Own.iconst 294 X158 hx ((0 : Int32)) (hb hby at_293) rfl rfl ?_
                  refine Own.iaload 295 X158 hx hZ e158 (v6_12) V158 (by decide) rfl (hb hby at_294) rfl ?_
                  refine Own.icmp_ne 353 298 X158 hx (hb hby at_295) (by decide) rfl (fun tk => absurd rfl tk) (fun tk => ?_)
                  refine Own.iload 300 X158 hx (hb hby at_298) rfl rfl ?_
                  refine Own.iconst 301 X158 hx ((2 : Int32)) (hb hby at_300) rfl rfl ?_
                  refine Own.icmp_lt 315 304 X158 hx (hb hby at_301) (by decide) rfl (fun tk => absurd tk (by decide)) (fun tk => ?_)
                  refine Own.aload 306 X158 hx (hb hby at_304) rfl rfl rfl ?_
                  refine Own.iconst 307 X158 hx ((1 : Int32)) (hb hby at_306) rfl rfl ?_
                  refine Own.iaload 308 X158 hx hZ e158 (v8_24) Vr167 (by decide) rfl (hb hby at_307) rfl ?_
                  refine Own.aload 310 X158 hx (hb hby at_308) rfl rfl rfl ?_
                  refine Own.iconst 311 X158 hx ((1 : Int32)) (hb hby at_310) rfl rfl ?_
                  refine Own.iaload 312 X158 hx hZ e158 (v8_24) V158 (by decide) rfl (hb hby at_311) rfl ?_
                  refine Own.icmp_ne 353 315 X158 hx (hb hby at_312) (by decide) rfl (fun tk => absurd rfl tk) (fun tk => ?_)
                  refine Own.iload 317 X158 hx (hb hby at_315) rfl rfl ?_
                  refine Own.iconst 318 X158 hx ((3 : Int32)) (hb hby at_317) rfl rfl ?_
                  refine Own.icmp_lt 332 321 X158 hx (hb hby at_318) (by decide) rfl (fun tk => ?_) (fun tk => absurd tk (by decide))
                  refine Own.iload 334 X158 hx (hb hby at_332) rfl rfl ?_
                  refine Own.iconst 335 X158 hx ((4 : Int32)) (hb hby at_334) rfl rfl ?_
                  refine Own.icmp_lt 349 338 X158 hx (hb hby at_335) (by decide) rfl (fun tk => ?_) (fun tk => absurd tk (by decide))
                  refine Own.iconst 350 X158 hx ((1 : Int32)) (hb hby at_349) rfl rfl ?_
                  refine Own.goto 354 X158 hx (hb hby at_350) (by decide) ?_
                  refine Own.istoreV 356 #[.val (.int x0), .val (.int x1), .val (.int x2), .val (.int x3), .val (.int x4), .val (.int (4 : Int32)), .val (.int v6_12), .val (.int v7_18), .val (.int v8_24), .val (.int v9_31), .val (.ref sl), .val (.ref cn), .val (.ref p'), .val (.ref r), .val (.ref ex), .val (.int (2 : Int32)), .val (.int (1 : Int32))] X158 hx (hb hby at_354) rfl rfl ?_
                  refine Own.iload 358 X158 hx (hb hby at_356) rfl rfl ?_
                  refine Own.if_eq 375 361 X158 hx (hb hby at_358) (by decide) rfl (fun tk => absurd tk (by decide)) (fun tk => ?_)
                  refine Own.aload 363 X158 hx (hb hby at_361) rfl rfl rfl ?_
                  refine Own.callVt 366 0 p' [] [] X158 hx hZ hown (m5_4 l Z a0 w p' sl k5 v6_12 v7_18 v8_24 v9_31 _ Ff_163 Vf_160) Ef_162 (notFace_of_selects (args := #[]) (mvT hZ (w 41 rfl))) (w 38 rfl) (w 39 rfl) (w 41 rfl) (w 40 rfl) (w 10 rfl) (w 42 rfl) (by decide) e158 (by decide) (by decide) (by decide) (by decide) (by rw [hml]; rfl) (lenOf pd_3 rfl) rfl (Nat.le_of_eq rfl) (hb hby at_363) rfl ?_
                  rintro vv T168 L168 X168 ⟨rfl, hh168, rfl⟩
                  have N168 := Fr.app N158 (Fr.nil _)
                  refine Own.iload 368 X168 hx (hb hby at_366) rfl rfl ?_
                  refine Own.icmp_ne 375 371 X168 hx (hb hby at_368) (by decide) rfl (fun tk => absurd tk (by decide)) (fun tk => ?_)
                  refine Own.iconst 372 X168 hx ((1 : Int32)) (hb hby at_371) rfl rfl ?_
                  refine Own.goto 376 X168 hx (hb hby at_372) (by decide) ?_
                  refine Own.retBool X168 hx hlk hret (hb hby at_376) (by decide) (by decide) ?_
                  exact ⟨⟨rfl, N168⟩, by rw [hh168]; exact zk158⟩
                ·
                  refine Own.aload 258 X158 hx (hb hby at_256) rfl rfl rfl ?_
                  refine Own.iload 260 X158 hx (hb hby at_258) rfl rfl ?_
                  refine Own.iload 262 X158 hx (hb hby at_260) rfl rfl ?_
                  refine Own.iastore 263 X158 hx hZ e158 V158 (by decide) (Nat.le_of_ble_eq_true rfl) (hb hby at_262) rfl ?_
                  intro T169 h169 X169 e169 W169 A169
                  have N169 := Fr.snoc X169 N158 g_ex
                  have Vf_171 := Vf_160.other W169 ne_sl_ex
                  have Vf_172 := Vf_161.other W169 ne_cn_ex
                  have Ef_173 := Ef_162.wr W169
                  have Ff_174 := Ff_163.other W169 (Or.inl ne_p'_ex)
                  have Vf_175 := Vf_164.other W169 ne_r_ex
                  have zl169 := Nat.le_trans zl158 (Nat.le_of_eq W169.size.symm)
                  have zk169 := Nat.le_trans zk158 (Nat.le_of_eq W169.size.symm)
                  have V169 : Arv Z h169 ex k50 .int (4 : Int32) [(.int v6_12), (.int v8_24), (.int v9_31), (.int (0 : Int32))] (.int (0 : Int32)) := A169
                  refine Own.iinc 266 (fun c_177 => #[.val (.int x0), .val (.int x1), .val (.int x2), .val (.int x3), .val (.int x4), .val (.int (4 : Int32)), .val (.int v6_12), .val (.int v7_18), .val (.int v8_24), .val (.int v9_31), .val (.ref sl), .val (.ref cn), .val (.ref p'), .val (.ref r), .val (.ref ex), .val (.int c_177), .unset]) X169 hx ((1 : Int32)) (hb hby at_263) rfl rfl rfl (fun _ => rfl) fun c_177 hc_177 => ?_
                  obtain rfl : c_177 = (3 : Int32) := hc_177.trans (by decide)
                  refine Own.aload 268 X169 hx (hb hby at_266) rfl rfl rfl ?_
                  have hys2 : ys = [v6_12, v8_24, v9_31] := by rw [hys, own_f, List.filter_cons_of_pos (p := fun x => decide (¬ x < 0)) (decide_eq_true q0), List.filter_cons_of_neg (p := fun x => decide (¬ x < 0)) (by rw [decide_eq_true_iff]; exact fun u => u q1), List.filter_cons_of_pos (p := fun x => decide (¬ x < 0)) (decide_eq_true q2), List.filter_cons_of_pos (p := fun x => decide (¬ x < 0)) (decide_eq_true q3), List.filter_nil]
                  have Vr178 : Arv Z h169 r kr .int (3 : Int32) [(.int v6_12), (.int v8_24), (.int v9_31)] (.int (0 : Int32)) := by
                    have Vq := Vf_175
                    rw [hys2] at Vq
                    exact Vq
                  refine Own.ifnull 279 271 X169 hx (hb hby at_268) rfl (by decide) rfl (fun hh => nomatch hh) (fun _ _ => ?_)
                  refine Own.aload 273 X169 hx (hb hby at_271) rfl rfl rfl ?_
                  refine Own.arrLen 274 X169 hx hZ e169 Vr178 (hb hby at_273) rfl ?_
                  refine Own.iload 276 X169 hx (hb hby at_274) rfl rfl ?_
                  refine Own.icmp_eq 281 279 X169 hx (hb hby at_276) (by decide) rfl (fun tk => ?_) (fun tk => absurd tk (by decide))
                  refine Own.iload 283 X169 hx (hb hby at_281) rfl rfl ?_
                  refine Own.iconst 284 X169 hx ((1 : Int32)) (hb hby at_283) rfl rfl ?_
                  refine Own.icmp_lt 298 287 X169 hx (hb hby at_284) (by decide) rfl (fun tk => absurd tk (by decide)) (fun tk => ?_)
                  refine Own.aload 289 X169 hx (hb hby at_287) rfl rfl rfl ?_
                  refine Own.iconst 290 X169 hx ((0 : Int32)) (hb hby at_289) rfl rfl ?_
                  refine Own.iaload 291 X169 hx hZ e169 (v6_12) Vr178 (by decide) rfl (hb hby at_290) rfl ?_
                  refine Own.aload 293 X169 hx (hb hby at_291) rfl rfl rfl ?_
                  refine Own.iconst 294 X169 hx ((0 : Int32)) (hb hby at_293) rfl rfl ?_
                  refine Own.iaload 295 X169 hx hZ e169 (v6_12) V169 (by decide) rfl (hb hby at_294) rfl ?_
                  refine Own.icmp_ne 353 298 X169 hx (hb hby at_295) (by decide) rfl (fun tk => absurd rfl tk) (fun tk => ?_)
                  refine Own.iload 300 X169 hx (hb hby at_298) rfl rfl ?_
                  refine Own.iconst 301 X169 hx ((2 : Int32)) (hb hby at_300) rfl rfl ?_
                  refine Own.icmp_lt 315 304 X169 hx (hb hby at_301) (by decide) rfl (fun tk => absurd tk (by decide)) (fun tk => ?_)
                  refine Own.aload 306 X169 hx (hb hby at_304) rfl rfl rfl ?_
                  refine Own.iconst 307 X169 hx ((1 : Int32)) (hb hby at_306) rfl rfl ?_
                  refine Own.iaload 308 X169 hx hZ e169 (v8_24) Vr178 (by decide) rfl (hb hby at_307) rfl ?_
                  refine Own.aload 310 X169 hx (hb hby at_308) rfl rfl rfl ?_
                  refine Own.iconst 311 X169 hx ((1 : Int32)) (hb hby at_310) rfl rfl ?_
                  refine Own.iaload 312 X169 hx hZ e169 (v8_24) V169 (by decide) rfl (hb hby at_311) rfl ?_
                  refine Own.icmp_ne 353 315 X169 hx (hb hby at_312) (by decide) rfl (fun tk => absurd rfl tk) (fun tk => ?_)
                  refine Own.iload 317 X169 hx (hb hby at_315) rfl rfl ?_
                  refine Own.iconst 318 X169 hx ((3 : Int32)) (hb hby at_317) rfl rfl ?_
                  refine Own.icmp_lt 332 321 X169 hx (hb hby at_318) (by decide) rfl (fun tk => absurd tk (by decide)) (fun tk => ?_)
                  refine Own.aload 323 X169 hx (hb hby at_321) rfl rfl rfl ?_
                  refine Own.iconst 324 X169 hx ((2 : Int32)) (hb hby at_323) rfl rfl ?_
                  refine Own.iaload 325 X169 hx hZ e169 (v9_31) Vr178 (by decide) rfl (hb hby at_324) rfl ?_
                  refine Own.aload 327 X169 hx (hb hby at_325) rfl rfl rfl ?_
                  refine Own.iconst 328 X169 hx ((2 : Int32)) (hb hby at_327) rfl rfl ?_
                  refine Own.iaload 329 X169 hx hZ e169 (v9_31) V169 (by decide) rfl (hb hby at_328) rfl ?_
                  refine Own.icmp_ne 353 332 X169 hx (hb hby at_329) (by decide) rfl (fun tk => absurd rfl tk) (fun tk => ?_)
                  refine Own.iload 334 X169 hx (hb hby at_332) rfl rfl ?_
                  refine Own.iconst 335 X169 hx ((4 : Int32)) (hb hby at_334) rfl rfl ?_
                  refine Own.icmp_lt 349 338 X169 hx (hb hby at_335) (by decide) rfl (fun tk => ?_) (fun tk => absurd tk (by decide))
                  refine Own.iconst 350 X169 hx ((1 : Int32)) (hb hby at_349) rfl rfl ?_
                  refine Own.goto 354 X169 hx (hb hby at_350) (by decide) ?_
                  refine Own.istoreV 356 #[.val (.int x0), .val (.int x1), .val (.int x2), .val (.int x3), .val (.int x4), .val (.int (4 : Int32)), .val (.int v6_12), .val (.int v7_18), .val (.int v8_24), .val (.int v9_31), .val (.ref sl), .val (.ref cn), .val (.ref p'), .val (.ref r), .val (.ref ex), .val (.int (3 : Int32)), .val (.int (1 : Int32))] X169 hx (hb hby at_354) rfl rfl ?_
                  refine Own.iload 358 X169 hx (hb hby at_356) rfl rfl ?_
                  refine Own.if_eq 375 361 X169 hx (hb hby at_358) (by decide) rfl (fun tk => absurd tk (by decide)) (fun tk => ?_)
                  refine Own.aload 363 X169 hx (hb hby at_361) rfl rfl rfl ?_
                  refine Own.callVt 366 0 p' [] [] X169 hx hZ hown (m5_4 l Z a0 w p' sl k5 v6_12 v7_18 v8_24 v9_31 _ Ff_174 Vf_171) Ef_173 (notFace_of_selects (args := #[]) (mvT hZ (w 41 rfl))) (w 38 rfl) (w 39 rfl) (w 41 rfl) (w 40 rfl) (w 10 rfl) (w 42 rfl) (by decide) e169 (by decide) (by decide) (by decide) (by decide) (by rw [hml]; rfl) (lenOf pd_3 rfl) rfl (Nat.le_of_eq rfl) (hb hby at_363) rfl ?_
                  rintro vv T179 L179 X179 ⟨rfl, hh179, rfl⟩
                  have N179 := Fr.app N169 (Fr.nil _)
                  refine Own.iload 368 X179 hx (hb hby at_366) rfl rfl ?_
                  refine Own.icmp_ne 375 371 X179 hx (hb hby at_368) (by decide) rfl (fun tk => absurd tk (by decide)) (fun tk => ?_)
                  refine Own.iconst 372 X179 hx ((1 : Int32)) (hb hby at_371) rfl rfl ?_
                  refine Own.goto 376 X179 hx (hb hby at_372) (by decide) ?_
                  refine Own.retBool X179 hx hlk hret (hb hby at_376) (by decide) (by decide) ?_
                  exact ⟨⟨rfl, N179⟩, by rw [hh179]; exact zk169⟩
            ·
              refine Own.aload 216 X136 hx (hb hby at_214) rfl rfl rfl ?_
              refine Own.iload 218 X136 hx (hb hby at_216) rfl rfl ?_
              refine Own.iload 220 X136 hx (hb hby at_218) rfl rfl ?_
              refine Own.iastore 221 X136 hx hZ e136 V136 (by decide) (Nat.le_of_ble_eq_true rfl) (hb hby at_220) rfl ?_
              intro T180 h180 X180 e180 W180 A180
              have N180 := Fr.snoc X180 N136 g_ex
              have Vf_182 := Vf_138.other W180 ne_sl_ex
              have Vf_183 := Vf_139.other W180 ne_cn_ex
              have Ef_184 := Ef_140.wr W180
              have Ff_185 := Ff_141.other W180 (Or.inl ne_p'_ex)
              have Vf_186 := Vf_142.other W180 ne_r_ex
              have zl180 := Nat.le_trans zl136 (Nat.le_of_eq W180.size.symm)
              have zk180 := Nat.le_trans zk136 (Nat.le_of_eq W180.size.symm)
              have V180 : Arv Z h180 ex k50 .int (4 : Int32) [(.int v6_12), (.int v7_18), (.int (0 : Int32)), (.int (0 : Int32))] (.int (0 : Int32)) := A180
              refine Own.iinc 224 (fun c_188 => #[.val (.int x0), .val (.int x1), .val (.int x2), .val (.int x3), .val (.int x4), .val (.int (4 : Int32)), .val (.int v6_12), .val (.int v7_18), .val (.int v8_24), .val (.int v9_31), .val (.ref sl), .val (.ref cn), .val (.ref p'), .val (.ref r), .val (.ref ex), .val (.int c_188), .unset]) X180 hx ((1 : Int32)) (hb hby at_221) rfl rfl rfl (fun _ => rfl) fun c_188 hc_188 => ?_
              obtain rfl : c_188 = (2 : Int32) := hc_188.trans (by decide)
              refine Own.iload 226 X180 hx (hb hby at_224) rfl rfl ?_
              refine Own.iconst 227 X180 hx ((3 : Int32)) (hb hby at_226) rfl rfl ?_
              refine Own.icmp_lt 245 230 X180 hx (hb hby at_227) (by decide) rfl (fun tk => absurd tk (by decide)) (fun tk => ?_)
              refine Own.iload 232 X180 hx (hb hby at_230) rfl rfl ?_
              refine Own.if_lt 245 235 X180 hx (hb hby at_232) (by decide) rfl (fun q2 => ?_) (fun q2 => ?_)
              ·
                refine Own.iload 247 X180 hx (hb hby at_245) rfl rfl ?_
                refine Own.iconst 248 X180 hx ((4 : Int32)) (hb hby at_247) rfl rfl ?_
                refine Own.icmp_lt 266 251 X180 hx (hb hby at_248) (by decide) rfl (fun tk => absurd tk (by decide)) (fun tk => ?_)
                refine Own.iload 253 X180 hx (hb hby at_251) rfl rfl ?_
                refine Own.if_lt 266 256 X180 hx (hb hby at_253) (by decide) rfl (fun q3 => ?_) (fun q3 => ?_)
                ·
                  refine Own.aload 268 X180 hx (hb hby at_266) rfl rfl rfl ?_
                  have hys2 : ys = [v6_12, v7_18] := by rw [hys, own_f, List.filter_cons_of_pos (p := fun x => decide (¬ x < 0)) (decide_eq_true q0), List.filter_cons_of_pos (p := fun x => decide (¬ x < 0)) (decide_eq_true q1), List.filter_cons_of_neg (p := fun x => decide (¬ x < 0)) (by rw [decide_eq_true_iff]; exact fun u => u q2), List.filter_cons_of_neg (p := fun x => decide (¬ x < 0)) (by rw [decide_eq_true_iff]; exact fun u => u q3), List.filter_nil]
                  have Vr189 : Arv Z h180 r kr .int (2 : Int32) [(.int v6_12), (.int v7_18)] (.int (0 : Int32)) := by
                    have Vq := Vf_186
                    rw [hys2] at Vq
                    exact Vq
                  refine Own.ifnull 279 271 X180 hx (hb hby at_268) rfl (by decide) rfl (fun hh => nomatch hh) (fun _ _ => ?_)
                  refine Own.aload 273 X180 hx (hb hby at_271) rfl rfl rfl ?_
                  refine Own.arrLen 274 X180 hx hZ e180 Vr189 (hb hby at_273) rfl ?_
                  refine Own.iload 276 X180 hx (hb hby at_274) rfl rfl ?_
                  refine Own.icmp_eq 281 279 X180 hx (hb hby at_276) (by decide) rfl (fun tk => ?_) (fun tk => absurd tk (by decide))
                  refine Own.iload 283 X180 hx (hb hby at_281) rfl rfl ?_
                  refine Own.iconst 284 X180 hx ((1 : Int32)) (hb hby at_283) rfl rfl ?_
                  refine Own.icmp_lt 298 287 X180 hx (hb hby at_284) (by decide) rfl (fun tk => absurd tk (by decide)) (fun tk => ?_)
                  refine Own.aload 289 X180 hx (hb hby at_287) rfl rfl rfl ?_
                  refine Own.iconst 290 X180 hx ((0 : Int32)) (hb hby at_289) rfl rfl ?_
                  refine Own.iaload 291 X180 hx hZ e180 (v6_12) Vr189 (by decide) rfl (hb hby at_290) rfl ?_
                  refine Own.aload 293 X180 hx (hb hby at_291) rfl rfl rfl ?_
                  refine Own.iconst 294 X180 hx ((0 : Int32)) (hb hby at_293) rfl rfl ?_
                  refine Own.iaload 295 X180 hx hZ e180 (v6_12) V180 (by decide) rfl (hb hby at_294) rfl ?_
                  refine Own.icmp_ne 353 298 X180 hx (hb hby at_295) (by decide) rfl (fun tk => absurd rfl tk) (fun tk => ?_)
                  refine Own.iload 300 X180 hx (hb hby at_298) rfl rfl ?_
                  refine Own.iconst 301 X180 hx ((2 : Int32)) (hb hby at_300) rfl rfl ?_
                  refine Own.icmp_lt 315 304 X180 hx (hb hby at_301) (by decide) rfl (fun tk => absurd tk (by decide)) (fun tk => ?_)
                  refine Own.aload 306 X180 hx (hb hby at_304) rfl rfl rfl ?_
                  refine Own.iconst 307 X180 hx ((1 : Int32)) (hb hby at_306) rfl rfl ?_
                  refine Own.iaload 308 X180 hx hZ e180 (v7_18) Vr189 (by decide) rfl (hb hby at_307) rfl ?_
                  refine Own.aload 310 X180 hx (hb hby at_308) rfl rfl rfl ?_
                  refine Own.iconst 311 X180 hx ((1 : Int32)) (hb hby at_310) rfl rfl ?_
                  refine Own.iaload 312 X180 hx hZ e180 (v7_18) V180 (by decide) rfl (hb hby at_311) rfl ?_
                  refine Own.icmp_ne 353 315 X180 hx (hb hby at_312) (by decide) rfl (fun tk => absurd rfl tk) (fun tk => ?_)
                  refine Own.iload 317 X180 hx (hb hby at_315) rfl rfl ?_
                  refine Own.iconst 318 X180 hx ((3 : Int32)) (hb hby at_317) rfl rfl ?_
                  refine Own.icmp_lt 332 321 X180 hx (hb hby at_318) (by decide) rfl (fun tk => ?_) (fun tk => absurd tk (by decide))
                  refine Own.iload 334 X180 hx (hb hby at_332) rfl rfl ?_
                  refine Own.iconst 335 X180 hx ((4 : Int32)) (hb hby at_334) rfl rfl ?_
                  refine Own.icmp_lt 349 338 X180 hx (hb hby at_335) (by decide) rfl (fun tk => ?_) (fun tk => absurd tk (by decide))
                  refine Own.iconst 350 X180 hx ((1 : Int32)) (hb hby at_349) rfl rfl ?_
                  refine Own.goto 354 X180 hx (hb hby at_350) (by decide) ?_
                  refine Own.istoreV 356 #[.val (.int x0), .val (.int x1), .val (.int x2), .val (.int x3), .val (.int x4), .val (.int (4 : Int32)), .val (.int v6_12), .val (.int v7_18), .val (.int v8_24), .val (.int v9_31), .val (.ref sl), .val (.ref cn), .val (.ref p'), .val (.ref r), .val (.ref ex), .val (.int (2 : Int32)), .val (.int (1 : Int32))] X180 hx (hb hby at_354) rfl rfl ?_
                  refine Own.iload 358 X180 hx (hb hby at_356) rfl rfl ?_
                  refine Own.if_eq 375 361 X180 hx (hb hby at_358) (by decide) rfl (fun tk => absurd tk (by decide)) (fun tk => ?_)
                  refine Own.aload 363 X180 hx (hb hby at_361) rfl rfl rfl ?_
                  refine Own.callVt 366 0 p' [] [] X180 hx hZ hown (m5_4 l Z a0 w p' sl k5 v6_12 v7_18 v8_24 v9_31 _ Ff_185 Vf_182) Ef_184 (notFace_of_selects (args := #[]) (mvT hZ (w 41 rfl))) (w 38 rfl) (w 39 rfl) (w 41 rfl) (w 40 rfl) (w 10 rfl) (w 42 rfl) (by decide) e180 (by decide) (by decide) (by decide) (by decide) (by rw [hml]; rfl) (lenOf pd_3 rfl) rfl (Nat.le_of_eq rfl) (hb hby at_363) rfl ?_
                  rintro vv T190 L190 X190 ⟨rfl, hh190, rfl⟩
                  have N190 := Fr.app N180 (Fr.nil _)
                  refine Own.iload 368 X190 hx (hb hby at_366) rfl rfl ?_
                  refine Own.icmp_ne 375 371 X190 hx (hb hby at_368) (by decide) rfl (fun tk => absurd tk (by decide)) (fun tk => ?_)
                  refine Own.iconst 372 X190 hx ((1 : Int32)) (hb hby at_371) rfl rfl ?_
                  refine Own.goto 376 X190 hx (hb hby at_372) (by decide) ?_
                  refine Own.retBool X190 hx hlk hret (hb hby at_376) (by decide) (by decide) ?_
                  exact ⟨⟨rfl, N190⟩, by rw [hh190]; exact zk180⟩
                ·
                  refine Own.aload 258 X180 hx (hb hby at_256) rfl rfl rfl ?_
                  refine Own.iload 260 X180 hx (hb hby at_258) rfl rfl ?_
                  refine Own.iload 262 X180 hx (hb hby at_260) rfl rfl ?_
                  refine Own.iastore 263 X180 hx hZ e180 V180 (by decide) (Nat.le_of_ble_eq_true rfl) (hb hby at_262) rfl ?_
                  intro T191 h191 X191 e191 W191 A191
                  have N191 := Fr.snoc X191 N180 g_ex
                  have Vf_193 := Vf_182.other W191 ne_sl_ex
                  have Vf_194 := Vf_183.other W191 ne_cn_ex
                  have Ef_195 := Ef_184.wr W191
                  have Ff_196 := Ff_185.other W191 (Or.inl ne_p'_ex)
                  have Vf_197 := Vf_186.other W191 ne_r_ex
                  have zl191 := Nat.le_trans zl180 (Nat.le_of_eq W191.size.symm)
                  have zk191 := Nat.le_trans zk180 (Nat.le_of_eq W191.size.symm)
                  have V191 : Arv Z h191 ex k50 .int (4 : Int32) [(.int v6_12), (.int v7_18), (.int v9_31), (.int (0 : Int32))] (.int (0 : Int32)) := A191
                  refine Own.iinc 266 (fun c_199 => #[.val (.int x0), .val (.int x1), .val (.int x2), .val (.int x3), .val (.int x4), .val (.int (4 : Int32)), .val (.int v6_12), .val (.int v7_18), .val (.int v8_24), .val (.int v9_31), .val (.ref sl), .val (.ref cn), .val (.ref p'), .val (.ref r), .val (.ref ex), .val (.int c_199), .unset]) X191 hx ((1 : Int32)) (hb hby at_263) rfl rfl rfl (fun _ => rfl) fun c_199 hc_199 => ?_
                  obtain rfl : c_199 = (3 : Int32) := hc_199.trans (by decide)
                  refine Own.aload 268 X191 hx (hb hby at_266) rfl rfl rfl ?_
                  have hys2 : ys = [v6_12, v7_18, v9_31] := by rw [hys, own_f, List.filter_cons_of_pos (p := fun x => decide (¬ x < 0)) (decide_eq_true q0), List.filter_cons_of_pos (p := fun x => decide (¬ x < 0)) (decide_eq_true q1), List.filter_cons_of_neg (p := fun x => decide (¬ x < 0)) (by rw [decide_eq_true_iff]; exact fun u => u q2), List.filter_cons_of_pos (p := fun x => decide (¬ x < 0)) (decide_eq_true q3), List.filter_nil]
                  have Vr200 : Arv Z h191 r kr .int (3 : Int32) [(.int v6_12), (.int v7_18), (.int v9_31)] (.int (0 : Int32)) := by
                    have Vq := Vf_197
                    rw [hys2] at Vq
                    exact Vq
                  refine Own.ifnull 279 271 X191 hx (hb hby at_268) rfl (by decide) rfl (fun hh => nomatch hh) (fun _ _ => ?_)
                  refine Own.aload 273 X191 hx (hb hby at_271) rfl rfl rfl ?_
                  refine Own.arrLen 274 X191 hx hZ e191 Vr200 (hb hby at_273) rfl ?_
                  refine Own.iload 276 X191 hx (hb hby at_274) rfl rfl ?_
                  refine Own.icmp_eq 281 279 X191 hx (hb hby at_276) (by decide) rfl (fun tk => ?_) (fun tk => absurd tk (by decide))
                  refine Own.iload 283 X191 hx (hb hby at_281) rfl rfl ?_
                  refine Own.iconst 284 X191 hx ((1 : Int32)) (hb hby at_283) rfl rfl ?_
                  refine Own.icmp_lt 298 287 X191 hx (hb hby at_284) (by decide) rfl (fun tk => absurd tk (by decide)) (fun tk => ?_)
                  refine Own.aload 289 X191 hx (hb hby at_287) rfl rfl rfl ?_
                  refine Own.iconst 290 X191 hx ((0 : Int32)) (hb hby at_289) rfl rfl ?_
                  refine Own.iaload 291 X191 hx hZ e191 (v6_12) Vr200 (by decide) rfl (hb hby at_290) rfl ?_
                  refine Own.aload 293 X191 hx (hb hby at_291) rfl rfl rfl ?_
                  refine Own.iconst 294 X191 hx ((0 : Int32)) (hb hby at_293) rfl rfl ?_
                  refine Own.iaload 295 X191 hx hZ e191 (v6_12) V191 (by decide) rfl (hb hby at_294) rfl ?_
                  refine Own.icmp_ne 353 298 X191 hx (hb hby at_295) (by decide) rfl (fun tk => absurd rfl tk) (fun tk => ?_)
                  refine Own.iload 300 X191 hx (hb hby at_298) rfl rfl ?_
                  refine Own.iconst 301 X191 hx ((2 : Int32)) (hb hby at_300) rfl rfl ?_
                  refine Own.icmp_lt 315 304 X191 hx (hb hby at_301) (by decide) rfl (fun tk => absurd tk (by decide)) (fun tk => ?_)
                  refine Own.aload 306 X191 hx (hb hby at_304) rfl rfl rfl ?_
                  refine Own.iconst 307 X191 hx ((1 : Int32)) (hb hby at_306) rfl rfl ?_
                  refine Own.iaload 308 X191 hx hZ e191 (v7_18) Vr200 (by decide) rfl (hb hby at_307) rfl ?_
                  refine Own.aload 310 X191 hx (hb hby at_308) rfl rfl rfl ?_
                  refine Own.iconst 311 X191 hx ((1 : Int32)) (hb hby at_310) rfl rfl ?_
                  refine Own.iaload 312 X191 hx hZ e191 (v7_18) V191 (by decide) rfl (hb hby at_311) rfl ?_
                  refine Own.icmp_ne 353 315 X191 hx (hb hby at_312) (by decide) rfl (fun tk => absurd rfl tk) (fun tk => ?_)
                  refine Own.iload 317 X191 hx (hb hby at_315) rfl rfl ?_
                  refine Own.iconst 318 X191 hx ((3 : Int32)) (hb hby at_317) rfl rfl ?_
                  refine Own.icmp_lt 332 321 X191 hx (hb hby at_318) (by decide) rfl (fun tk => absurd tk (by decide)) (fun tk => ?_)
                  refine Own.aload 323 X191 hx (hb hby at_321) rfl rfl rfl ?_
                  refine Own.iconst 324 X191 hx ((2 : Int32)) (hb hby at_323) rfl rfl ?_
                  refine Own.iaload 325 X191 hx hZ e191 (v9_31) Vr200 (by decide) rfl (hb hby at_324) rfl ?_
                  refine Own.aload 327 X191 hx (hb hby at_325) rfl rfl rfl ?_
                  refine Own.iconst 328 X191 hx ((2 : Int32)) (hb hby at_327) rfl rfl ?_
                  refine Own.iaload 329 X191 hx hZ e191 (v9_31) V191 (by decide) rfl (hb hby at_328) rfl ?_
                  refine Own.icmp_ne 353 332 X191 hx (hb hby at_329) (by decide) rfl (fun tk => absurd rfl tk) (fun tk => ?_)
                  refine Own.iload 334 X191 hx (hb hby at_332) rfl rfl ?_
                  refine Own.iconst 335 X191 hx ((4 : Int32)) (hb hby at_334) rfl rfl ?_
                  refine Own.icmp_lt 349 338 X191 hx (hb hby at_335) (by decide) rfl (fun tk => ?_) (fun tk => absurd tk (by decide))
                  refine Own.iconst 350 X191 hx ((1 : Int32)) (hb hby at_349) rfl rfl ?_
                  refine Own.goto 354 X191 hx (hb hby at_350) (by decide) ?_
                  refine Own.istoreV 356 #[.val (.int x0), .val (.int x1), .val (.int x2), .val (.int x3), .val (.int x4), .val (.int (4 : Int32)), .val (.int v6_12), .val (.int v7_18), .val (.int v8_24), .val (.int v9_31), .val (.ref sl), .val (.ref cn), .val (.ref p'), .val (.ref r), .val (.ref ex), .val (.int (3 : Int32)), .val (.int (1 : Int32))] X191 hx (hb hby at_354) rfl rfl ?_
                  refine Own.iload 358 X191 hx (hb hby at_356) rfl rfl ?_
                  refine Own.if_eq 375 361 X191 hx (hb hby at_358) (by decide) rfl (fun tk => absurd tk (by decide)) (fun tk => ?_)
                  refine Own.aload 363 X191 hx (hb hby at_361) rfl rfl rfl ?_
                  refine Own.callVt 366 0 p' [] [] X191 hx hZ hown (m5_4 l Z a0 w p' sl k5 v6_12 v7_18 v8_24 v9_31 _ Ff_196 Vf_193) Ef_195 (notFace_of_selects (args := #[]) (mvT hZ (w 41 rfl))) (w 38 rfl) (w 39 rfl) (w 41 rfl) (w 40 rfl) (w 10 rfl) (w 42 rfl) (by decide) e191 (by decide) (by decide) (by decide) (by decide) (by rw [hml]; rfl) (lenOf pd_3 rfl) rfl (Nat.le_of_eq rfl) (hb hby at_363) rfl ?_
                  rintro vv T201 L201 X201 ⟨rfl, hh201, rfl⟩
                  have N201 := Fr.app N191 (Fr.nil _)
                  refine Own.iload 368 X201 hx (hb hby at_366) rfl rfl ?_
                  refine Own.icmp_ne 375 371 X201 hx (hb hby at_368) (by decide) rfl (fun tk => absurd tk (by decide)) (fun tk => ?_)
                  refine Own.iconst 372 X201 hx ((1 : Int32)) (hb hby at_371) rfl rfl ?_
                  refine Own.goto 376 X201 hx (hb hby at_372) (by decide) ?_
                  refine Own.retBool X201 hx hlk hret (hb hby at_376) (by decide) (by decide) ?_
                  exact ⟨⟨rfl, N201⟩, by rw [hh201]; exact zk191⟩
              ·
                refine Own.aload 237 X180 hx (hb hby at_235) rfl rfl rfl ?_
                refine Own.iload 239 X180 hx (hb hby at_237) rfl rfl ?_
                refine Own.iload 241 X180 hx (hb hby at_239) rfl rfl ?_
                refine Own.iastore 242 X180 hx hZ e180 V180 (by decide) (Nat.le_of_ble_eq_true rfl) (hb hby at_241) rfl ?_
                intro T202 h202 X202 e202 W202 A202
                have N202 := Fr.snoc X202 N180 g_ex
                have Vf_204 := Vf_182.other W202 ne_sl_ex
                have Vf_205 := Vf_183.other W202 ne_cn_ex
                have Ef_206 := Ef_184.wr W202
                have Ff_207 := Ff_185.other W202 (Or.inl ne_p'_ex)
                have Vf_208 := Vf_186.other W202 ne_r_ex
                have zl202 := Nat.le_trans zl180 (Nat.le_of_eq W202.size.symm)
                have zk202 := Nat.le_trans zk180 (Nat.le_of_eq W202.size.symm)
                have V202 : Arv Z h202 ex k50 .int (4 : Int32) [(.int v6_12), (.int v7_18), (.int v8_24), (.int (0 : Int32))] (.int (0 : Int32)) := A202
                refine Own.iinc 245 (fun c_210 => #[.val (.int x0), .val (.int x1), .val (.int x2), .val (.int x3), .val (.int x4), .val (.int (4 : Int32)), .val (.int v6_12), .val (.int v7_18), .val (.int v8_24), .val (.int v9_31), .val (.ref sl), .val (.ref cn), .val (.ref p'), .val (.ref r), .val (.ref ex), .val (.int c_210), .unset]) X202 hx ((1 : Int32)) (hb hby at_242) rfl rfl rfl (fun _ => rfl) fun c_210 hc_210 => ?_
                obtain rfl : c_210 = (3 : Int32) := hc_210.trans (by decide)
                refine Own.iload 247 X202 hx (hb hby at_245) rfl rfl ?_
                refine Own.iconst 248 X202 hx ((4 : Int32)) (hb hby at_247) rfl rfl ?_
                refine Own.icmp_lt 266 251 X202 hx (hb hby at_248) (by decide) rfl (fun tk => absurd tk (by decide)) (fun tk => ?_)
                refine Own.iload 253 X202 hx (hb hby at_251) rfl rfl ?_
                refine Own.if_lt 266 256 X202 hx (hb hby at_253) (by decide) rfl (fun q3 => ?_) (fun q3 => ?_)
                ·
                  refine Own.aload 268 X202 hx (hb hby at_266) rfl rfl rfl ?_
                  have hys2 : ys = [v6_12, v7_18, v8_24] := by rw [hys, own_f, List.filter_cons_of_pos (p := fun x => decide (¬ x < 0)) (decide_eq_true q0), List.filter_cons_of_pos (p := fun x => decide (¬ x < 0)) (decide_eq_true q1), List.filter_cons_of_pos (p := fun x => decide (¬ x < 0)) (decide_eq_true q2), List.filter_cons_of_neg (p := fun x => decide (¬ x < 0)) (by rw [decide_eq_true_iff]; exact fun u => u q3), List.filter_nil]
                  have Vr211 : Arv Z h202 r kr .int (3 : Int32) [(.int v6_12), (.int v7_18), (.int v8_24)] (.int (0 : Int32)) := by
                    have Vq := Vf_208
                    rw [hys2] at Vq
                    exact Vq
                  refine Own.ifnull 279 271 X202 hx (hb hby at_268) rfl (by decide) rfl (fun hh => nomatch hh) (fun _ _ => ?_)
                  refine Own.aload 273 X202 hx (hb hby at_271) rfl rfl rfl ?_
                  refine Own.arrLen 274 X202 hx hZ e202 Vr211 (hb hby at_273) rfl ?_
                  refine Own.iload 276 X202 hx (hb hby at_274) rfl rfl ?_
                  refine Own.icmp_eq 281 279 X202 hx (hb hby at_276) (by decide) rfl (fun tk => ?_) (fun tk => absurd tk (by decide))
                  refine Own.iload 283 X202 hx (hb hby at_281) rfl rfl ?_
                  refine Own.iconst 284 X202 hx ((1 : Int32)) (hb hby at_283) rfl rfl ?_
                  refine Own.icmp_lt 298 287 X202 hx (hb hby at_284) (by decide) rfl (fun tk => absurd tk (by decide)) (fun tk => ?_)
                  refine Own.aload 289 X202 hx (hb hby at_287) rfl rfl rfl ?_
                  refine Own.iconst 290 X202 hx ((0 : Int32)) (hb hby at_289) rfl rfl ?_
                  refine Own.iaload 291 X202 hx hZ e202 (v6_12) Vr211 (by decide) rfl (hb hby at_290) rfl ?_
                  refine Own.aload 293 X202 hx (hb hby at_291) rfl rfl rfl ?_
                  refine Own.iconst 294 X202 hx ((0 : Int32)) (hb hby at_293) rfl rfl ?_
                  refine Own.iaload 295 X202 hx hZ e202 (v6_12) V202 (by decide) rfl (hb hby at_294) rfl ?_
                  refine Own.icmp_ne 353 298 X202 hx (hb hby at_295) (by decide) rfl (fun tk => absurd rfl tk) (fun tk => ?_)
                  refine Own.iload 300 X202 hx (hb hby at_298) rfl rfl ?_
                  refine Own.iconst 301 X202 hx ((2 : Int32)) (hb hby at_300) rfl rfl ?_
                  refine Own.icmp_lt 315 304 X202 hx (hb hby at_301) (by decide) rfl (fun tk => absurd tk (by decide)) (fun tk => ?_)
                  refine Own.aload 306 X202 hx (hb hby at_304) rfl rfl rfl ?_
                  refine Own.iconst 307 X202 hx ((1 : Int32)) (hb hby at_306) rfl rfl ?_
                  refine Own.iaload 308 X202 hx hZ e202 (v7_18) Vr211 (by decide) rfl (hb hby at_307) rfl ?_
                  refine Own.aload 310 X202 hx (hb hby at_308) rfl rfl rfl ?_
                  refine Own.iconst 311 X202 hx ((1 : Int32)) (hb hby at_310) rfl rfl ?_
                  refine Own.iaload 312 X202 hx hZ e202 (v7_18) V202 (by decide) rfl (hb hby at_311) rfl ?_
                  refine Own.icmp_ne 353 315 X202 hx (hb hby at_312) (by decide) rfl (fun tk => absurd rfl tk) (fun tk => ?_)
                  refine Own.iload 317 X202 hx (hb hby at_315) rfl rfl ?_
                  refine Own.iconst 318 X202 hx ((3 : Int32)) (hb hby at_317) rfl rfl ?_
                  refine Own.icmp_lt 332 321 X202 hx (hb hby at_318) (by decide) rfl (fun tk => absurd tk (by decide)) (fun tk => ?_)
                  refine Own.aload 323 X202 hx (hb hby at_321) rfl rfl rfl ?_
                  refine Own.iconst 324 X202 hx ((2 : Int32)) (hb hby at_323) rfl rfl ?_
                  refine Own.iaload 325 X202 hx hZ e202 (v8_24) Vr211 (by decide) rfl (hb hby at_324) rfl ?_
                  refine Own.aload 327 X202 hx (hb hby at_325) rfl rfl rfl ?_
                  refine Own.iconst 328 X202 hx ((2 : Int32)) (hb hby at_327) rfl rfl ?_
                  refine Own.iaload 329 X202 hx hZ e202 (v8_24) V202 (by decide) rfl (hb hby at_328) rfl ?_
                  refine Own.icmp_ne 353 332 X202 hx (hb hby at_329) (by decide) rfl (fun tk => absurd rfl tk) (fun tk => ?_)
                  refine Own.iload 334 X202 hx (hb hby at_332) rfl rfl ?_
                  refine Own.iconst 335 X202 hx ((4 : Int32)) (hb hby at_334) rfl rfl ?_
                  refine Own.icmp_lt 349 338 X202 hx (hb hby at_335) (by decide) rfl (fun tk => ?_) (fun tk => absurd tk (by decide))
                  refine Own.iconst 350 X202 hx ((1 : Int32)) (hb hby at_349) rfl rfl ?_
                  refine Own.goto 354 X202 hx (hb hby at_350) (by decide) ?_
                  refine Own.istoreV 356 #[.val (.int x0), .val (.int x1), .val (.int x2), .val (.int x3), .val (.int x4), .val (.int (4 : Int32)), .val (.int v6_12), .val (.int v7_18), .val (.int v8_24), .val (.int v9_31), .val (.ref sl), .val (.ref cn), .val (.ref p'), .val (.ref r), .val (.ref ex), .val (.int (3 : Int32)), .val (.int (1 : Int32))] X202 hx (hb hby at_354) rfl rfl ?_
                  refine Own.iload 358 X202 hx (hb hby at_356) rfl rfl ?_
                  refine Own.if_eq 375 361 X202 hx (hb hby at_358) (by decide) rfl (fun tk => absurd tk (by decide)) (fun tk => ?_)
                  refine Own.aload 363 X202 hx (hb hby at_361) rfl rfl rfl ?_
                  refine Own.callVt 366 0 p' [] [] X202 hx hZ hown (m5_4 l Z a0 w p' sl k5 v6_12 v7_18 v8_24 v9_31 _ Ff_207 Vf_204) Ef_206 (notFace_of_selects (args := #[]) (mvT hZ (w 41 rfl))) (w 38 rfl) (w 39 rfl) (w 41 rfl) (w 40 rfl) (w 10 rfl) (w 42 rfl) (by decide) e202 (by decide) (by decide) (by decide) (by decide) (by rw [hml]; rfl) (lenOf pd_3 rfl) rfl (Nat.le_of_eq rfl) (hb hby at_363) rfl ?_
                  rintro vv T212 L212 X212 ⟨rfl, hh212, rfl⟩
                  have N212 := Fr.app N202 (Fr.nil _)
                  refine Own.iload 368 X212 hx (hb hby at_366) rfl rfl ?_
                  refine Own.icmp_ne 375 371 X212 hx (hb hby at_368) (by decide) rfl (fun tk => absurd tk (by decide)) (fun tk => ?_)
                  refine Own.iconst 372 X212 hx ((1 : Int32)) (hb hby at_371) rfl rfl ?_
                  refine Own.goto 376 X212 hx (hb hby at_372) (by decide) ?_
                  refine Own.retBool X212 hx hlk hret (hb hby at_376) (by decide) (by decide) ?_
                  exact ⟨⟨rfl, N212⟩, by rw [hh212]; exact zk202⟩
                ·
                  refine Own.aload 258 X202 hx (hb hby at_256) rfl rfl rfl ?_
                  refine Own.iload 260 X202 hx (hb hby at_258) rfl rfl ?_
                  refine Own.iload 262 X202 hx (hb hby at_260) rfl rfl ?_
                  refine Own.iastore 263 X202 hx hZ e202 V202 (by decide) (Nat.le_of_ble_eq_true rfl) (hb hby at_262) rfl ?_
                  intro T213 h213 X213 e213 W213 A213
                  have N213 := Fr.snoc X213 N202 g_ex
                  have Vf_215 := Vf_204.other W213 ne_sl_ex
                  have Vf_216 := Vf_205.other W213 ne_cn_ex
                  have Ef_217 := Ef_206.wr W213
                  have Ff_218 := Ff_207.other W213 (Or.inl ne_p'_ex)
                  have Vf_219 := Vf_208.other W213 ne_r_ex
                  have zl213 := Nat.le_trans zl202 (Nat.le_of_eq W213.size.symm)
                  have zk213 := Nat.le_trans zk202 (Nat.le_of_eq W213.size.symm)
                  have V213 : Arv Z h213 ex k50 .int (4 : Int32) [(.int v6_12), (.int v7_18), (.int v8_24), (.int v9_31)] (.int (0 : Int32)) := A213
                  refine Own.iinc 266 (fun c_221 => #[.val (.int x0), .val (.int x1), .val (.int x2), .val (.int x3), .val (.int x4), .val (.int (4 : Int32)), .val (.int v6_12), .val (.int v7_18), .val (.int v8_24), .val (.int v9_31), .val (.ref sl), .val (.ref cn), .val (.ref p'), .val (.ref r), .val (.ref ex), .val (.int c_221), .unset]) X213 hx ((1 : Int32)) (hb hby at_263) rfl rfl rfl (fun _ => rfl) fun c_221 hc_221 => ?_
                  obtain rfl : c_221 = (4 : Int32) := hc_221.trans (by decide)
                  refine Own.aload 268 X213 hx (hb hby at_266) rfl rfl rfl ?_
                  have hys2 : ys = [v6_12, v7_18, v8_24, v9_31] := by rw [hys, own_f, List.filter_cons_of_pos (p := fun x => decide (¬ x < 0)) (decide_eq_true q0), List.filter_cons_of_pos (p := fun x => decide (¬ x < 0)) (decide_eq_true q1), List.filter_cons_of_pos (p := fun x => decide (¬ x < 0)) (decide_eq_true q2), List.filter_cons_of_pos (p := fun x => decide (¬ x < 0)) (decide_eq_true q3), List.filter_nil]
                  have Vr222 : Arv Z h213 r kr .int (4 : Int32) [(.int v6_12), (.int v7_18), (.int v8_24), (.int v9_31)] (.int (0 : Int32)) := by
                    have Vq := Vf_219
                    rw [hys2] at Vq
                    exact Vq
                  refine Own.ifnull 279 271 X213 hx (hb hby at_268) rfl (by decide) rfl (fun hh => nomatch hh) (fun _ _ => ?_)
                  refine Own.aload 273 X213 hx (hb hby at_271) rfl rfl rfl ?_
                  refine Own.arrLen 274 X213 hx hZ e213 Vr222 (hb hby at_273) rfl ?_
                  refine Own.iload 276 X213 hx (hb hby at_274) rfl rfl ?_
                  refine Own.icmp_eq 281 279 X213 hx (hb hby at_276) (by decide) rfl (fun tk => ?_) (fun tk => absurd tk (by decide))
                  refine Own.iload 283 X213 hx (hb hby at_281) rfl rfl ?_
                  refine Own.iconst 284 X213 hx ((1 : Int32)) (hb hby at_283) rfl rfl ?_
                  refine Own.icmp_lt 298 287 X213 hx (hb hby at_284) (by decide) rfl (fun tk => absurd tk (by decide)) (fun tk => ?_)
                  refine Own.aload 289 X213 hx (hb hby at_287) rfl rfl rfl ?_
                  refine Own.iconst 290 X213 hx ((0 : Int32)) (hb hby at_289) rfl rfl ?_
                  refine Own.iaload 291 X213 hx hZ e213 (v6_12) Vr222 (by decide) rfl (hb hby at_290) rfl ?_
                  refine Own.aload 293 X213 hx (hb hby at_291) rfl rfl rfl ?_
                  refine Own.iconst 294 X213 hx ((0 : Int32)) (hb hby at_293) rfl rfl ?_
                  refine Own.iaload 295 X213 hx hZ e213 (v6_12) V213 (by decide) rfl (hb hby at_294) rfl ?_
                  refine Own.icmp_ne 353 298 X213 hx (hb hby at_295) (by decide) rfl (fun tk => absurd rfl tk) (fun tk => ?_)
                  refine Own.iload 300 X213 hx (hb hby at_298) rfl rfl ?_
                  refine Own.iconst 301 X213 hx ((2 : Int32)) (hb hby at_300) rfl rfl ?_
                  refine Own.icmp_lt 315 304 X213 hx (hb hby at_301) (by decide) rfl (fun tk => absurd tk (by decide)) (fun tk => ?_)
                  refine Own.aload 306 X213 hx (hb hby at_304) rfl rfl rfl ?_
                  refine Own.iconst 307 X213 hx ((1 : Int32)) (hb hby at_306) rfl rfl ?_
                  refine Own.iaload 308 X213 hx hZ e213 (v7_18) Vr222 (by decide) rfl (hb hby at_307) rfl ?_
                  refine Own.aload 310 X213 hx (hb hby at_308) rfl rfl rfl ?_
                  refine Own.iconst 311 X213 hx ((1 : Int32)) (hb hby at_310) rfl rfl ?_
                  refine Own.iaload 312 X213 hx hZ e213 (v7_18) V213 (by decide) rfl (hb hby at_311) rfl ?_
                  refine Own.icmp_ne 353 315 X213 hx (hb hby at_312) (by decide) rfl (fun tk => absurd rfl tk) (fun tk => ?_)
                  refine Own.iload 317 X213 hx (hb hby at_315) rfl rfl ?_
                  refine Own.iconst 318 X213 hx ((3 : Int32)) (hb hby at_317) rfl rfl ?_
                  refine Own.icmp_lt 332 321 X213 hx (hb hby at_318) (by decide) rfl (fun tk => absurd tk (by decide)) (fun tk => ?_)
                  refine Own.aload 323 X213 hx (hb hby at_321) rfl rfl rfl ?_
                  refine Own.iconst 324 X213 hx ((2 : Int32)) (hb hby at_323) rfl rfl ?_
                  refine Own.iaload 325 X213 hx hZ e213 (v8_24) Vr222 (by decide) rfl (hb hby at_324) rfl ?_
                  refine Own.aload 327 X213 hx (hb hby at_325) rfl rfl rfl ?_
                  refine Own.iconst 328 X213 hx ((2 : Int32)) (hb hby at_327) rfl rfl ?_
                  refine Own.iaload 329 X213 hx hZ e213 (v8_24) V213 (by decide) rfl (hb hby at_328) rfl ?_
                  refine Own.icmp_ne 353 332 X213 hx (hb hby at_329) (by decide) rfl (fun tk => absurd rfl tk) (fun tk => ?_)
                  refine Own.iload 334 X213 hx (hb hby at_332) rfl rfl ?_
                  refine Own.iconst 335 X213 hx ((4 : Int32)) (hb hby at_334) rfl rfl ?_
                  refine Own.icmp_lt 349 338 X213 hx (hb hby at_335) (by decide) rfl (fun tk => absurd tk (by decide)) (fun tk => ?_)
                  refine Own.aload 340 X213 hx (hb hby at_338) rfl rfl rfl ?_
                  refine Own.iconst 341 X213 hx ((3 : Int32)) (hb hby at_340) rfl rfl ?_
                  refine Own.iaload 342 X213 hx hZ e213 (v9_31) Vr222 (by decide) rfl (hb hby at_341) rfl ?_
                  refine Own.aload 344 X213 hx (hb hby at_342) rfl rfl rfl ?_
                  refine Own.iconst 345 X213 hx ((3 : Int32)) (hb hby at_344) rfl rfl ?_
                  refine Own.iaload 346 X213 hx hZ e213 (v9_31) V213 (by decide) rfl (hb hby at_345) rfl ?_
                  refine Own.icmp_ne 353 349 X213 hx (hb hby at_346) (by decide) rfl (fun tk => absurd rfl tk) (fun tk => ?_)
                  refine Own.iconst 350 X213 hx ((1 : Int32)) (hb hby at_349) rfl rfl ?_
                  refine Own.goto 354 X213 hx (hb hby at_350) (by decide) ?_
                  refine Own.istoreV 356 #[.val (.int x0), .val (.int x1), .val (.int x2), .val (.int x3), .val (.int x4), .val (.int (4 : Int32)), .val (.int v6_12), .val (.int v7_18), .val (.int v8_24), .val (.int v9_31), .val (.ref sl), .val (.ref cn), .val (.ref p'), .val (.ref r), .val (.ref ex), .val (.int (4 : Int32)), .val (.int (1 : Int32))] X213 hx (hb hby at_354) rfl rfl ?_
                  refine Own.iload 358 X213 hx (hb hby at_356) rfl rfl ?_
                  refine Own.if_eq 375 361 X213 hx (hb hby at_358) (by decide) rfl (fun tk => absurd tk (by decide)) (fun tk => ?_)
                  refine Own.aload 363 X213 hx (hb hby at_361) rfl rfl rfl ?_
                  refine Own.callVt 366 0 p' [] [] X213 hx hZ hown (m5_4 l Z a0 w p' sl k5 v6_12 v7_18 v8_24 v9_31 _ Ff_218 Vf_215) Ef_217 (notFace_of_selects (args := #[]) (mvT hZ (w 41 rfl))) (w 38 rfl) (w 39 rfl) (w 41 rfl) (w 40 rfl) (w 10 rfl) (w 42 rfl) (by decide) e213 (by decide) (by decide) (by decide) (by decide) (by rw [hml]; rfl) (lenOf pd_3 rfl) rfl (Nat.le_of_eq rfl) (hb hby at_363) rfl ?_
                  rintro vv T223 L223 X223 ⟨rfl, hh223, rfl⟩
                  have N223 := Fr.app N213 (Fr.nil _)
                  refine Own.iload 368 X223 hx (hb hby at_366) rfl rfl ?_
                  refine Own.icmp_ne 375 371 X223 hx (hb hby at_368) (by decide) rfl (fun tk => absurd tk (by decide)) (fun tk => ?_)
                  refine Own.iconst 372 X223 hx ((1 : Int32)) (hb hby at_371) rfl rfl ?_
                  refine Own.goto 376 X223 hx (hb hby at_372) (by decide) ?_
                  refine Own.retBool X223 hx hlk hret (hb hby at_376) (by decide) (by decide) ?_
                  exact ⟨⟨rfl, N223⟩, by rw [hh223]; exact zk213⟩
        ·
          subst e3
          refine Own.iconst 96 X4 hx ((3 : Int32)) (hb hby at_95) rfl rfl ?_
          refine Own.newArr 98 3 X4 hx hZ (w 5 rfl) hh4 (by decide) (by decide) (by decide) (hb hby at_96) rfl (by decide) (by decide) ?_
          intro T224 h224 sl k224 z224 X224 e224 E224 A224
          have g_sl : n0 ≤ sl := Nat.le_trans Z0 (Nat.le_of_eq z224.symm)
          have zl224 := Nat.le_trans Z0 E224.1
          have V224 : Arv Z h224 sl k224 .int (3 : Int32) [(.int (0 : Int32)), (.int (0 : Int32)), (.int (0 : Int32))] (.int (0 : Int32)) := A224
          refine Own.dup 99 X224 hx (hb hby at_98) rfl rfl ?_
          refine Own.iconst 100 X224 hx ((0 : Int32)) (hb hby at_99) rfl rfl ?_
          refine Own.iload 102 X224 hx (hb hby at_100) rfl rfl ?_
          refine Own.iastore 103 X224 hx hZ e224 V224 (by decide) (Nat.le_of_ble_eq_true rfl) (hb hby at_102) rfl ?_
          intro T226 h226 X226 e226 W226 A226
          have N226 := Fr.snoc X226 N4 g_sl
          have zl226 := Nat.le_trans zl224 (Nat.le_of_eq W226.size.symm)
          have V226 : Arv Z h226 sl k224 .int (3 : Int32) [(.int v6_12), (.int (0 : Int32)), (.int (0 : Int32))] (.int (0 : Int32)) := A226
          refine Own.dup 104 X226 hx (hb hby at_103) rfl rfl ?_
          refine Own.iconst 105 X226 hx ((1 : Int32)) (hb hby at_104) rfl rfl ?_
          refine Own.iload 107 X226 hx (hb hby at_105) rfl rfl ?_
          refine Own.iastore 108 X226 hx hZ e226 V226 (by decide) (Nat.le_of_ble_eq_true rfl) (hb hby at_107) rfl ?_
          intro T229 h229 X229 e229 W229 A229
          have N229 := Fr.snoc X229 N226 g_sl
          have zl229 := Nat.le_trans zl226 (Nat.le_of_eq W229.size.symm)
          have V229 : Arv Z h229 sl k224 .int (3 : Int32) [(.int v6_12), (.int v7_18), (.int (0 : Int32))] (.int (0 : Int32)) := A229
          refine Own.dup 109 X229 hx (hb hby at_108) rfl rfl ?_
          refine Own.iconst 110 X229 hx ((2 : Int32)) (hb hby at_109) rfl rfl ?_
          refine Own.iload 112 X229 hx (hb hby at_110) rfl rfl ?_
          refine Own.iastore 113 X229 hx hZ e229 V229 (by decide) (Nat.le_of_ble_eq_true rfl) (hb hby at_112) rfl ?_
          intro T232 h232 X232 e232 W232 A232
          have N232 := Fr.snoc X232 N229 g_sl
          have zl232 := Nat.le_trans zl229 (Nat.le_of_eq W232.size.symm)
          have V232 : Arv Z h232 sl k224 .int (3 : Int32) [(.int v6_12), (.int v7_18), (.int v8_24)] (.int (0 : Int32)) := A232
          refine Own.astore 115 #[.val (.int x0), .val (.int x1), .val (.int x2), .val (.int x3), .val (.int x4), .val (.int (3 : Int32)), .val (.int v6_12), .val (.int v7_18), .val (.int v8_24), .val (.int v9_31), .val (.ref sl), .unset, .unset, .unset, .unset, .unset, .unset] X232 hx (hb hby at_113) rfl rfl rfl ?_
          refine Own.goto 143 X232 hx (hb hby at_115) (by decide) ?_
          refine Own.aload 145 X232 hx (hb hby at_143) rfl rfl rfl ?_
          refine Own.arrLen 146 X232 hx hZ e232 V232 (hb hby at_145) rfl ?_
          refine Own.newRefArr 149 3 X232 hx hZ hown (w 6 rfl) (w 7 rfl) e232 (by decide) (by decide) (by decide) (hb hby at_146) rfl (by decide) (by decide) ?_
          intro T235 h235 cn k235 z235 X235 e235 E235 A235 Ov235
          have ne_sl_cn : sl ≠ cn := Nat.ne_of_lt (Nat.lt_of_lt_of_le V232.lt (Nat.le_of_eq z235.symm))
          have g_cn : n0 ≤ cn := Nat.le_trans zl232 (Nat.le_of_eq z235.symm)
          have Vf_237 := V232.ext E235
          have zl235 := Nat.le_trans zl232 E235.1
          have V235 : Arv Z h235 cn k235 (.object "java/lang/String") (3 : Int32) [.null, .null, .null] .null := A235
          refine Own.astore 151 #[.val (.int x0), .val (.int x1), .val (.int x2), .val (.int x3), .val (.int x4), .val (.int (3 : Int32)), .val (.int v6_12), .val (.int v7_18), .val (.int v8_24), .val (.int v9_31), .val (.ref sl), .val (.ref cn), .unset, .unset, .unset, .unset, .unset] X235 hx (hb hby at_149) rfl rfl rfl ?_
          refine Own.newObj 154 X235 hx hZ hown (w 8 rfl) (w 9 rfl) (w 10 rfl) e235 (hb hby at_151) rfl (by decide) (by decide) ?_
          intro T238 h238 p' z238 X238 e238 E238 A238 D238
          have ne_cn_p' : cn ≠ p' := Nat.ne_of_lt (Nat.lt_of_lt_of_le V235.lt (Nat.le_of_eq z238.symm))
          have ne_sl_p' : sl ≠ p' := Nat.ne_of_lt (Nat.lt_of_lt_of_le Vf_237.lt (Nat.le_of_eq z238.symm))
          have g_p' : n0 ≤ p' := Nat.le_trans zl235 (Nat.le_of_eq z238.symm)
          have Vf_240 := Vf_237.ext E238
          have Vf_241 := V235.ext E238
          have zl238 := Nat.le_trans zl235 E238.1
          have F238_name : Fld Z h238 p' "com/example/skuld/skuld/htn/Pattern" "name" "Ljava/lang/String;" .null := D238 (Or.inr (w 26 rfl)) (ty := (.object "java/lang/String")) (by decide)
          have F238_constants : Fld Z h238 p' "com/example/skuld/skuld/htn/Pattern" "constants" "[Ljava/lang/String;" .null := D238 (Or.inr (w 28 rfl)) (ty := (.array (.object "java/lang/String"))) (by decide)
          have F238_slots : Fld Z h238 p' "com/example/skuld/skuld/htn/Pattern" "slots" "[I" .null := D238 (Or.inr (w 30 rfl)) (ty := (.array .int)) (by decide)
          have F238_line : Fld Z h238 p' "com/example/skuld/skuld/htn/Pattern" "line" "I" (.int (0 : Int32)) := D238 (Or.inr (w 32 rfl)) (ty := .int) (by decide)
          refine Own.dup 155 X238 hx (hb hby at_154) rfl rfl ?_
          refine Own.ldcStr 157 4 X238 hx hZ hown (w 11 rfl) hSA e238 (hb hby at_155) rfl (by decide) (by decide) (by decide) (by decide) ?_
          intro lt T242 h242 X242 e242 E242 hZ hown
          have Vf_244 := Vf_240.ext E242
          have Vf_245 := Vf_241.ext E242
          have Ef_246 := A238.ext E242
          have Ff_247 := F238_name.ext E242
          have Ff_248 := F238_constants.ext E242
          have Ff_249 := F238_slots.ext E242
          have Ff_250 := F238_line.ext E242
          have zl242 := Nat.le_trans zl238 E242.1
          have zk242 := Nat.le_refl h242.size
          refine Own.aload 159 X242 hx (hb hby at_157) rfl rfl rfl ?_
          refine Own.aload 161 X242 hx (hb hby at_159) rfl rfl rfl ?_
          refine Own.iconst 162 X242 hx ((0 : Int32)) (hb hby at_161) rfl rfl ?_
          refine Own.callInit 165 1 p' [(.ref lt), (.ref cn), (.ref sl), (.int (0 : Int32))] [(.ref p')] X242 hx hZ hown (m2 l Z a0 w p' lt cn sl _ _ _ _ _ n0 h242 zl242 Ef_246 Ff_247 Ff_248 Ff_249 Ff_250 g_p') rfl (w 19 rfl) (w 20 rfl) (w 10 rfl) (w 21 rfl) (by decide) e242 (by decide) (by decide) (by decide) (by decide) (by rw [hml]; rfl) (lenOf pd_1 rfl) rfl (Nat.le_of_eq rfl) (hb hby at_162) rfl ?_
          rintro vv T251 L251 X251 ⟨rfl, N251q, K251, Fs251⟩
          have N251 := Fr.app N232 N251q
          have Vf_253 := Vf_244.keep K251 (ninS ne_sl_p' nin0)
          have Vf_254 := Vf_245.keep K251 (ninS ne_cn_p' nin0)
          have Ef_255 := Ef_246.keep K251
          have zl251 := Nat.le_trans zl242 K251.1
          have zk251 := Nat.le_trans zk242 K251.1
          refine Own.astore 167 #[.val (.int x0), .val (.int x1), .val (.int x2), .val (.int x3), .val (.int x4), .val (.int (3 : Int32)), .val (.int v6_12), .val (.int v7_18), .val (.int v8_24), .val (.int v9_31), .val (.ref sl), .val (.ref cn), .val (.ref p'), .unset, .unset, .unset, .unset] X251 hx (hb hby at_165) rfl rfl rfl ?_
          refine Own.aload 169 X251 hx (hb hby at_167) rfl rfl rfl ?_
          refine Own.callVt 172 0 p' [] [] X251 hx hZ hown (m4_3 l Z a0 w p' sl k224 v6_12 v7_18 v8_24 n0 _ zl251 Fs251 Vf_253) Ef_255 (notFace_of_selects (args := #[]) (mvT hZ (w 36 rfl))) (w 33 rfl) (w 34 rfl) (w 36 rfl) (w 35 rfl) (w 10 rfl) (w 37 rfl) (by decide) rfl (by decide) (by decide) (by decide) (by decide) (by rw [hml]; rfl) (lenOf pd_2 rfl) rfl (Nat.le_of_eq rfl) (hb hby at_169) rfl ?_
          rintro vv T260 L260 X260 ⟨r, kr, ys, rfl, N260q, K260, szr, g_r, hys, Vr⟩
          have ne_cn_r : cn ≠ r := Nat.ne_of_lt (Nat.lt_of_lt_of_le Vf_254.lt szr)
          have ne_p'_r : p' ≠ r := Nat.ne_of_lt (Nat.lt_of_lt_of_le Ef_255.lt szr)
          have ne_sl_r : sl ≠ r := Nat.ne_of_lt (Nat.lt_of_lt_of_le Vf_253.lt szr)
          have N260 := Fr.app N251 N260q
          have Vf_262 := Vf_253.keep K260 nin0
          have Vf_263 := Vf_254.keep K260 nin0
          have Ef_264 := Ef_255.keep K260
          have Ff_265 := Fs251.keep K260 nin0
          have zl260 := Nat.le_trans zl251 K260.1
          have zk260 := Nat.le_trans zk251 K260.1
          refine Own.astore 174 #[.val (.int x0), .val (.int x1), .val (.int x2), .val (.int x3), .val (.int x4), .val (.int (3 : Int32)), .val (.int v6_12), .val (.int v7_18), .val (.int v8_24), .val (.int v9_31), .val (.ref sl), .val (.ref cn), .val (.ref p'), .val (.ref r), .unset, .unset, .unset] X260 hx (hb hby at_172) rfl rfl rfl ?_
          refine Own.iconst 175 X260 hx ((4 : Int32)) (hb hby at_174) rfl rfl ?_
          refine Own.newArr 177 4 X260 hx hZ (w 5 rfl) rfl (by decide) (by decide) (by decide) (hb hby at_175) rfl (by decide) (by decide) ?_
          intro T266 h266 ex k266 z266 X266 e266 E266 A266
          have ne_cn_ex : cn ≠ ex := Nat.ne_of_lt (Nat.lt_of_lt_of_le Vf_263.lt (Nat.le_of_eq z266.symm))
          have ne_p'_ex : p' ≠ ex := Nat.ne_of_lt (Nat.lt_of_lt_of_le Ef_264.lt (Nat.le_of_eq z266.symm))
          have ne_r_ex : r ≠ ex := Nat.ne_of_lt (Nat.lt_of_lt_of_le Vr.lt (Nat.le_of_eq z266.symm))
          have ne_sl_ex : sl ≠ ex := Nat.ne_of_lt (Nat.lt_of_lt_of_le Vf_262.lt (Nat.le_of_eq z266.symm))
          have g_ex : n0 ≤ ex := Nat.le_trans zl260 (Nat.le_of_eq z266.symm)
          have Vf_268 := Vf_262.ext E266
          have Vf_269 := Vf_263.ext E266
          have Ef_270 := Ef_264.ext E266
          have Ff_271 := Ff_265.ext E266
          have Vf_272 := Vr.ext E266
          have zl266 := Nat.le_trans zl260 E266.1
          have zk266 := Nat.le_trans zk260 E266.1
          have V266 : Arv Z h266 ex k266 .int (4 : Int32) [(.int (0 : Int32)), (.int (0 : Int32)), (.int (0 : Int32)), (.int (0 : Int32))] (.int (0 : Int32)) := A266
          refine Own.astore 179 #[.val (.int x0), .val (.int x1), .val (.int x2), .val (.int x3), .val (.int x4), .val (.int (3 : Int32)), .val (.int v6_12), .val (.int v7_18), .val (.int v8_24), .val (.int v9_31), .val (.ref sl), .val (.ref cn), .val (.ref p'), .val (.ref r), .val (.ref ex), .unset, .unset] X266 hx (hb hby at_177) rfl rfl rfl ?_
          refine Own.iconst 180 X266 hx ((0 : Int32)) (hb hby at_179) rfl rfl ?_
          refine Own.istoreV 182 #[.val (.int x0), .val (.int x1), .val (.int x2), .val (.int x3), .val (.int x4), .val (.int (3 : Int32)), .val (.int v6_12), .val (.int v7_18), .val (.int v8_24), .val (.int v9_31), .val (.ref sl), .val (.ref cn), .val (.ref p'), .val (.ref r), .val (.ref ex), .val (.int (0 : Int32)), .unset] X266 hx (hb hby at_180) rfl rfl ?_
          refine Own.iload 184 X266 hx (hb hby at_182) rfl rfl ?_
          refine Own.iconst 185 X266 hx ((1 : Int32)) (hb hby at_184) rfl rfl ?_
          refine Own.icmp_lt 203 188 X266 hx (hb hby at_185) (by decide) rfl (fun tk => absurd tk (by decide)) (fun tk => ?_)
          refine Own.iload 190 X266 hx (hb hby at_188) rfl rfl ?_
          refine Own.if_lt 203 193 X266 hx (hb hby at_190) (by decide) rfl (fun q0 => ?_) (fun q0 => ?_)
          ·
            refine Own.iload 205 X266 hx (hb hby at_203) rfl rfl ?_
            refine Own.iconst 206 X266 hx ((2 : Int32)) (hb hby at_205) rfl rfl ?_
            refine Own.icmp_lt 224 209 X266 hx (hb hby at_206) (by decide) rfl (fun tk => absurd tk (by decide)) (fun tk => ?_)
            refine Own.iload 211 X266 hx (hb hby at_209) rfl rfl ?_
            refine Own.if_lt 224 214 X266 hx (hb hby at_211) (by decide) rfl (fun q1 => ?_) (fun q1 => ?_)
            ·
              refine Own.iload 226 X266 hx (hb hby at_224) rfl rfl ?_
              refine Own.iconst 227 X266 hx ((3 : Int32)) (hb hby at_226) rfl rfl ?_
              refine Own.icmp_lt 245 230 X266 hx (hb hby at_227) (by decide) rfl (fun tk => absurd tk (by decide)) (fun tk => ?_)
              refine Own.iload 232 X266 hx (hb hby at_230) rfl rfl ?_
              refine Own.if_lt 245 235 X266 hx (hb hby at_232) (by decide) rfl (fun q2 => ?_) (fun q2 => ?_)
              ·
                refine Own.iload 247 X266 hx (hb hby at_245) rfl rfl ?_
                refine Own.iconst 248 X266 hx ((4 : Int32)) (hb hby at_247) rfl rfl ?_
                refine Own.icmp_lt 266 251 X266 hx (hb hby at_248) (by decide) rfl (fun tk => ?_) (fun tk => absurd tk (by decide))
                refine Own.aload 268 X266 hx (hb hby at_266) rfl rfl rfl ?_
                have hys2 : ys = [] := by rw [hys, own_f, List.filter_cons_of_neg (p := fun x => decide (¬ x < 0)) (by rw [decide_eq_true_iff]; exact fun u => u q0), List.filter_cons_of_neg (p := fun x => decide (¬ x < 0)) (by rw [decide_eq_true_iff]; exact fun u => u q1), List.filter_cons_of_neg (p := fun x => decide (¬ x < 0)) (by rw [decide_eq_true_iff]; exact fun u => u q2), List.filter_nil]
                have Vr273 : Arv Z h266 r kr .int (0 : Int32) [] (.int (0 : Int32)) := by
                  have Vq := Vf_272
                  rw [hys2] at Vq
                  exact Vq
                refine Own.ifnull 279 271 X266 hx (hb hby at_268) rfl (by decide) rfl (fun hh => nomatch hh) (fun _ _ => ?_)
                refine Own.aload 273 X266 hx (hb hby at_271) rfl rfl rfl ?_
                refine Own.arrLen 274 X266 hx hZ e266 Vr273 (hb hby at_273) rfl ?_
                refine Own.iload 276 X266 hx (hb hby at_274) rfl rfl ?_
                refine Own.icmp_eq 281 279 X266 hx (hb hby at_276) (by decide) rfl (fun tk => ?_) (fun tk => absurd tk (by decide))
                refine Own.iload 283 X266 hx (hb hby at_281) rfl rfl ?_
                refine Own.iconst 284 X266 hx ((1 : Int32)) (hb hby at_283) rfl rfl ?_
                refine Own.icmp_lt 298 287 X266 hx (hb hby at_284) (by decide) rfl (fun tk => ?_) (fun tk => absurd tk (by decide))
                refine Own.iload 300 X266 hx (hb hby at_298) rfl rfl ?_
                refine Own.iconst 301 X266 hx ((2 : Int32)) (hb hby at_300) rfl rfl ?_
                refine Own.icmp_lt 315 304 X266 hx (hb hby at_301) (by decide) rfl (fun tk => ?_) (fun tk => absurd tk (by decide))
                refine Own.iload 317 X266 hx (hb hby at_315) rfl rfl ?_
                refine Own.iconst 318 X266 hx ((3 : Int32)) (hb hby at_317) rfl rfl ?_
                refine Own.icmp_lt 332 321 X266 hx (hb hby at_318) (by decide) rfl (fun tk => ?_) (fun tk => absurd tk (by decide))
                refine Own.iload 334 X266 hx (hb hby at_332) rfl rfl ?_
                refine Own.iconst 335 X266 hx ((4 : Int32)) (hb hby at_334) rfl rfl ?_
                refine Own.icmp_lt 349 338 X266 hx (hb hby at_335) (by decide) rfl (fun tk => ?_) (fun tk => absurd tk (by decide))
                refine Own.iconst 350 X266 hx ((1 : Int32)) (hb hby at_349) rfl rfl ?_
                refine Own.goto 354 X266 hx (hb hby at_350) (by decide) ?_
                refine Own.istoreV 356 #[.val (.int x0), .val (.int x1), .val (.int x2), .val (.int x3), .val (.int x4), .val (.int (3 : Int32)), .val (.int v6_12), .val (.int v7_18), .val (.int v8_24), .val (.int v9_31), .val (.ref sl), .val (.ref cn), .val (.ref p'), .val (.ref r), .val (.ref ex), .val (.int (0 : Int32)), .val (.int (1 : Int32))] X266 hx (hb hby at_354) rfl rfl ?_
                refine Own.iload 358 X266 hx (hb hby at_356) rfl rfl ?_
                refine Own.if_eq 375 361 X266 hx (hb hby at_358) (by decide) rfl (fun tk => absurd tk (by decide)) (fun tk => ?_)
                refine Own.aload 363 X266 hx (hb hby at_361) rfl rfl rfl ?_
                refine Own.callVt 366 0 p' [] [] X266 hx hZ hown (m5_3 l Z a0 w p' sl k224 v6_12 v7_18 v8_24 _ Ff_271 Vf_268) Ef_270 (notFace_of_selects (args := #[]) (mvT hZ (w 41 rfl))) (w 38 rfl) (w 39 rfl) (w 41 rfl) (w 40 rfl) (w 10 rfl) (w 42 rfl) (by decide) e266 (by decide) (by decide) (by decide) (by decide) (by rw [hml]; rfl) (lenOf pd_3 rfl) rfl (Nat.le_of_eq rfl) (hb hby at_363) rfl ?_
                rintro vv T274 L274 X274 ⟨rfl, hh274, rfl⟩
                have N274 := Fr.app N260 (Fr.nil _)
                refine Own.iload 368 X274 hx (hb hby at_366) rfl rfl ?_
                refine Own.icmp_ne 375 371 X274 hx (hb hby at_368) (by decide) rfl (fun tk => absurd tk (by decide)) (fun tk => ?_)
                refine Own.iconst 372 X274 hx ((1 : Int32)) (hb hby at_371) rfl rfl ?_
                refine Own.goto 376 X274 hx (hb hby at_372) (by decide) ?_
                refine Own.retBool X274 hx hlk hret (hb hby at_376) (by decide) (by decide) ?_
                exact ⟨⟨rfl, N274⟩, by rw [hh274]; exact zk266⟩
              ·
                refine Own.aload 237 X266 hx (hb hby at_235) rfl rfl rfl ?_
                refine Own.iload 239 X266 hx (hb hby at_237) rfl rfl ?_
                refine Own.iload 241 X266 hx (hb hby at_239) rfl rfl ?_
                refine Own.iastore 242 X266 hx hZ e266 V266 (by decide) (Nat.le_of_ble_eq_true rfl) (hb hby at_241) rfl ?_
                intro T275 h275 X275 e275 W275 A275
                have N275 := Fr.snoc X275 N260 g_ex
                have Vf_277 := Vf_268.other W275 ne_sl_ex
                have Vf_278 := Vf_269.other W275 ne_cn_ex
                have Ef_279 := Ef_270.wr W275
                have Ff_280 := Ff_271.other W275 (Or.inl ne_p'_ex)
                have Vf_281 := Vf_272.other W275 ne_r_ex
                have zl275 := Nat.le_trans zl266 (Nat.le_of_eq W275.size.symm)
                have zk275 := Nat.le_trans zk266 (Nat.le_of_eq W275.size.symm)
                have V275 : Arv Z h275 ex k266 .int (4 : Int32) [(.int v8_24), (.int (0 : Int32)), (.int (0 : Int32)), (.int (0 : Int32))] (.int (0 : Int32)) := A275
                refine Own.iinc 245 (fun c_283 => #[.val (.int x0), .val (.int x1), .val (.int x2), .val (.int x3), .val (.int x4), .val (.int (3 : Int32)), .val (.int v6_12), .val (.int v7_18), .val (.int v8_24), .val (.int v9_31), .val (.ref sl), .val (.ref cn), .val (.ref p'), .val (.ref r), .val (.ref ex), .val (.int c_283), .unset]) X275 hx ((1 : Int32)) (hb hby at_242) rfl rfl rfl (fun _ => rfl) fun c_283 hc_283 => ?_
                obtain rfl : c_283 = (1 : Int32) := hc_283.trans (by decide)
                refine Own.iload 247 X275 hx (hb hby at_245) rfl rfl ?_
                refine Own.iconst 248 X275 hx ((4 : Int32)) (hb hby at_247) rfl rfl ?_
                refine Own.icmp_lt 266 251 X275 hx (hb hby at_248) (by decide) rfl (fun tk => ?_) (fun tk => absurd tk (by decide))
                refine Own.aload 268 X275 hx (hb hby at_266) rfl rfl rfl ?_
                have hys2 : ys = [v8_24] := by rw [hys, own_f, List.filter_cons_of_neg (p := fun x => decide (¬ x < 0)) (by rw [decide_eq_true_iff]; exact fun u => u q0), List.filter_cons_of_neg (p := fun x => decide (¬ x < 0)) (by rw [decide_eq_true_iff]; exact fun u => u q1), List.filter_cons_of_pos (p := fun x => decide (¬ x < 0)) (decide_eq_true q2), List.filter_nil]
                have Vr284 : Arv Z h275 r kr .int (1 : Int32) [(.int v8_24)] (.int (0 : Int32)) := by
                  have Vq := Vf_281
                  rw [hys2] at Vq
                  exact Vq
                refine Own.ifnull 279 271 X275 hx (hb hby at_268) rfl (by decide) rfl (fun hh => nomatch hh) (fun _ _ => ?_)
                refine Own.aload 273 X275 hx (hb hby at_271) rfl rfl rfl ?_
                refine Own.arrLen 274 X275 hx hZ e275 Vr284 (hb hby at_273) rfl ?_
                refine Own.iload 276 X275 hx (hb hby at_274) rfl rfl ?_
                refine Own.icmp_eq 281 279 X275 hx (hb hby at_276) (by decide) rfl (fun tk => ?_) (fun tk => absurd tk (by decide))
                refine Own.iload 283 X275 hx (hb hby at_281) rfl rfl ?_
                refine Own.iconst 284 X275 hx ((1 : Int32)) (hb hby at_283) rfl rfl ?_
                refine Own.icmp_lt 298 287 X275 hx (hb hby at_284) (by decide) rfl (fun tk => absurd tk (by decide)) (fun tk => ?_)
                refine Own.aload 289 X275 hx (hb hby at_287) rfl rfl rfl ?_
                refine Own.iconst 290 X275 hx ((0 : Int32)) (hb hby at_289) rfl rfl ?_
                refine Own.iaload 291 X275 hx hZ e275 (v8_24) Vr284 (by decide) rfl (hb hby at_290) rfl ?_
                refine Own.aload 293 X275 hx (hb hby at_291) rfl rfl rfl ?_
                refine Own.iconst 294 X275 hx ((0 : Int32)) (hb hby at_293) rfl rfl ?_
                refine Own.iaload 295 X275 hx hZ e275 (v8_24) V275 (by decide) rfl (hb hby at_294) rfl ?_
                refine Own.icmp_ne 353 298 X275 hx (hb hby at_295) (by decide) rfl (fun tk => absurd rfl tk) (fun tk => ?_)
                refine Own.iload 300 X275 hx (hb hby at_298) rfl rfl ?_
                refine Own.iconst 301 X275 hx ((2 : Int32)) (hb hby at_300) rfl rfl ?_
                refine Own.icmp_lt 315 304 X275 hx (hb hby at_301) (by decide) rfl (fun tk => ?_) (fun tk => absurd tk (by decide))
                refine Own.iload 317 X275 hx (hb hby at_315) rfl rfl ?_
                refine Own.iconst 318 X275 hx ((3 : Int32)) (hb hby at_317) rfl rfl ?_
                refine Own.icmp_lt 332 321 X275 hx (hb hby at_318) (by decide) rfl (fun tk => ?_) (fun tk => absurd tk (by decide))
                refine Own.iload 334 X275 hx (hb hby at_332) rfl rfl ?_
                refine Own.iconst 335 X275 hx ((4 : Int32)) (hb hby at_334) rfl rfl ?_
                refine Own.icmp_lt 349 338 X275 hx (hb hby at_335) (by decide) rfl (fun tk => ?_) (fun tk => absurd tk (by decide))
                refine Own.iconst 350 X275 hx ((1 : Int32)) (hb hby at_349) rfl rfl ?_
                refine Own.goto 354 X275 hx (hb hby at_350) (by decide) ?_
                refine Own.istoreV 356 #[.val (.int x0), .val (.int x1), .val (.int x2), .val (.int x3), .val (.int x4), .val (.int (3 : Int32)), .val (.int v6_12), .val (.int v7_18), .val (.int v8_24), .val (.int v9_31), .val (.ref sl), .val (.ref cn), .val (.ref p'), .val (.ref r), .val (.ref ex), .val (.int (1 : Int32)), .val (.int (1 : Int32))] X275 hx (hb hby at_354) rfl rfl ?_
                refine Own.iload 358 X275 hx (hb hby at_356) rfl rfl ?_
                refine Own.if_eq 375 361 X275 hx (hb hby at_358) (by decide) rfl (fun tk => absurd tk (by decide)) (fun tk => ?_)
                refine Own.aload 363 X275 hx (hb hby at_361) rfl rfl rfl ?_
                refine Own.callVt 366 0 p' [] [] X275 hx hZ hown (m5_3 l Z a0 w p' sl k224 v6_12 v7_18 v8_24 _ Ff_280 Vf_277) Ef_279 (notFace_of_selects (args := #[]) (mvT hZ (w 41 rfl))) (w 38 rfl) (w 39 rfl) (w 41 rfl) (w 40 rfl) (w 10 rfl) (w 42 rfl) (by decide) e275 (by decide) (by decide) (by decide) (by decide) (by rw [hml]; rfl) (lenOf pd_3 rfl) rfl (Nat.le_of_eq rfl) (hb hby at_363) rfl ?_
                rintro vv T285 L285 X285 ⟨rfl, hh285, rfl⟩
                have N285 := Fr.app N275 (Fr.nil _)
                refine Own.iload 368 X285 hx (hb hby at_366) rfl rfl ?_
                refine Own.icmp_ne 375 371 X285 hx (hb hby at_368) (by decide) rfl (fun tk => absurd tk (by decide)) (fun tk => ?_)
                refine Own.iconst 372 X285 hx ((1 : Int32)) (hb hby at_371) rfl rfl ?_
                refine Own.goto 376 X285 hx (hb hby at_372) (by decide) ?_
                refine Own.retBool X285 hx hlk hret (hb hby at_376) (by decide) (by decide) ?_
                exact ⟨⟨rfl, N285⟩, by rw [hh285]; exact zk275⟩
            ·
              refine Own.aload 216 X266 hx (hb hby at_214) rfl rfl rfl ?_
              refine Own.iload 218 X266 hx (hb hby at_216) rfl rfl ?_
              refine Own.iload 220 X266 hx (hb hby at_218) rfl rfl ?_
              refine Own.iastore 221 X266 hx hZ e266 V266 (by decide) (Nat.le_of_ble_eq_true rfl) (hb hby at_220) rfl ?_
              intro T286 h286 X286 e286 W286 A286
              have N286 := Fr.snoc X286 N260 g_ex
              have Vf_288 := Vf_268.other W286 ne_sl_ex
              have Vf_289 := Vf_269.other W286 ne_cn_ex
              have Ef_290 := Ef_270.wr W286
              have Ff_291 := Ff_271.other W286 (Or.inl ne_p'_ex)
              have Vf_292 := Vf_272.other W286 ne_r_ex
              have zl286 := Nat.le_trans zl266 (Nat.le_of_eq W286.size.symm)
              have zk286 := Nat.le_trans zk266 (Nat.le_of_eq W286.size.symm)
              have V286 : Arv Z h286 ex k266 .int (4 : Int32) [(.int v7_18), (.int (0 : Int32)), (.int (0 : Int32)), (.int (0 : Int32))] (.int (0 : Int32)) := A286
              refine Own.iinc 224 (fun c_294 => #[.val (.int x0), .val (.int x1), .val (.int x2), .val (.int x3), .val (.int x4), .val (.int (3 : Int32)), .val (.int v6_12), .val (.int v7_18), .val (.int v8_24), .val (.int v9_31), .val (.ref sl), .val (.ref cn), .val (.ref p'), .val (.ref r), .val (.ref ex), .val (.int c_294), .unset]) X286 hx ((1 : Int32)) (hb hby at_221) rfl rfl rfl (fun _ => rfl) fun c_294 hc_294 => ?_
              obtain rfl : c_294 = (1 : Int32) := hc_294.trans (by decide)
              refine Own.iload 226 X286 hx (hb hby at_224) rfl rfl ?_
              refine Own.iconst 227 X286 hx ((3 : Int32)) (hb hby at_226) rfl rfl ?_
              refine Own.icmp_lt 245 230 X286 hx (hb hby at_227) (by decide) rfl (fun tk => absurd tk (by decide)) (fun tk => ?_)
              refine Own.iload 232 X286 hx (hb hby at_230) rfl rfl ?_
              refine Own.if_lt 245 235 X286 hx (hb hby at_232) (by decide) rfl (fun q2 => ?_) (fun q2 => ?_)
              ·
                refine Own.iload 247 X286 hx (hb hby at_245) rfl rfl ?_
                refine Own.iconst 248 X286 hx ((4 : Int32)) (hb hby at_247) rfl rfl ?_
                refine Own.icmp_lt 266 251 X286 hx (hb hby at_248) (by decide) rfl (fun tk => ?_) (fun tk => absurd tk (by decide))
                refine Own.aload 268 X286 hx (hb hby at_266) rfl rfl rfl ?_
                have hys2 : ys = [v7_18] := by rw [hys, own_f, List.filter_cons_of_neg (p := fun x => decide (¬ x < 0)) (by rw [decide_eq_true_iff]; exact fun u => u q0), List.filter_cons_of_pos (p := fun x => decide (¬ x < 0)) (decide_eq_true q1), List.filter_cons_of_neg (p := fun x => decide (¬ x < 0)) (by rw [decide_eq_true_iff]; exact fun u => u q2), List.filter_nil]
                have Vr295 : Arv Z h286 r kr .int (1 : Int32) [(.int v7_18)] (.int (0 : Int32)) := by
                  have Vq := Vf_292
                  rw [hys2] at Vq
                  exact Vq
                refine Own.ifnull 279 271 X286 hx (hb hby at_268) rfl (by decide) rfl (fun hh => nomatch hh) (fun _ _ => ?_)
                refine Own.aload 273 X286 hx (hb hby at_271) rfl rfl rfl ?_
                refine Own.arrLen 274 X286 hx hZ e286 Vr295 (hb hby at_273) rfl ?_
                refine Own.iload 276 X286 hx (hb hby at_274) rfl rfl ?_
                refine Own.icmp_eq 281 279 X286 hx (hb hby at_276) (by decide) rfl (fun tk => ?_) (fun tk => absurd tk (by decide))
                refine Own.iload 283 X286 hx (hb hby at_281) rfl rfl ?_
                refine Own.iconst 284 X286 hx ((1 : Int32)) (hb hby at_283) rfl rfl ?_
                refine Own.icmp_lt 298 287 X286 hx (hb hby at_284) (by decide) rfl (fun tk => absurd tk (by decide)) (fun tk => ?_)
                refine Own.aload 289 X286 hx (hb hby at_287) rfl rfl rfl ?_
                refine Own.iconst 290 X286 hx ((0 : Int32)) (hb hby at_289) rfl rfl ?_
                refine Own.iaload 291 X286 hx hZ e286 (v7_18) Vr295 (by decide) rfl (hb hby at_290) rfl ?_
                refine Own.aload 293 X286 hx (hb hby at_291) rfl rfl rfl ?_
                refine Own.iconst 294 X286 hx ((0 : Int32)) (hb hby at_293) rfl rfl ?_
                refine Own.iaload 295 X286 hx hZ e286 (v7_18) V286 (by decide) rfl (hb hby at_294) rfl ?_
                refine Own.icmp_ne 353 298 X286 hx (hb hby at_295) (by decide) rfl (fun tk => absurd rfl tk) (fun tk => ?_)
                refine Own.iload 300 X286 hx (hb hby at_298) rfl rfl ?_
                refine Own.iconst 301 X286 hx ((2 : Int32)) (hb hby at_300) rfl rfl ?_
                refine Own.icmp_lt 315 304 X286 hx (hb hby at_301) (by decide) rfl (fun tk => ?_) (fun tk => absurd tk (by decide))
                refine Own.iload 317 X286 hx (hb hby at_315) rfl rfl ?_
                refine Own.iconst 318 X286 hx ((3 : Int32)) (hb hby at_317) rfl rfl ?_
                refine Own.icmp_lt 332 321 X286 hx (hb hby at_318) (by decide) rfl (fun tk => ?_) (fun tk => absurd tk (by decide))
                refine Own.iload 334 X286 hx (hb hby at_332) rfl rfl ?_
                refine Own.iconst 335 X286 hx ((4 : Int32)) (hb hby at_334) rfl rfl ?_
                refine Own.icmp_lt 349 338 X286 hx (hb hby at_335) (by decide) rfl (fun tk => ?_) (fun tk => absurd tk (by decide))
                refine Own.iconst 350 X286 hx ((1 : Int32)) (hb hby at_349) rfl rfl ?_
                refine Own.goto 354 X286 hx (hb hby at_350) (by decide) ?_
                refine Own.istoreV 356 #[.val (.int x0), .val (.int x1), .val (.int x2), .val (.int x3), .val (.int x4), .val (.int (3 : Int32)), .val (.int v6_12), .val (.int v7_18), .val (.int v8_24), .val (.int v9_31), .val (.ref sl), .val (.ref cn), .val (.ref p'), .val (.ref r), .val (.ref ex), .val (.int (1 : Int32)), .val (.int (1 : Int32))] X286 hx (hb hby at_354) rfl rfl ?_
                refine Own.iload 358 X286 hx (hb hby at_356) rfl rfl ?_
                refine Own.if_eq 375 361 X286 hx (hb hby at_358) (by decide) rfl (fun tk => absurd tk (by decide)) (fun tk => ?_)
                refine Own.aload 363 X286 hx (hb hby at_361) rfl rfl rfl ?_
                refine Own.callVt 366 0 p' [] [] X286 hx hZ hown (m5_3 l Z a0 w p' sl k224 v6_12 v7_18 v8_24 _ Ff_291 Vf_288) Ef_290 (notFace_of_selects (args := #[]) (mvT hZ (w 41 rfl))) (w 38 rfl) (w 39 rfl) (w 41 rfl) (w 40 rfl) (w 10 rfl) (w 42 rfl) (by decide) e286 (by decide) (by decide) (by decide) (by decide) (by rw [hml]; rfl) (lenOf pd_3 rfl) rfl (Nat.le_of_eq rfl) (hb hby at_363) rfl ?_
                rintro vv T296 L296 X296 ⟨rfl, hh296, rfl⟩
                have N296 := Fr.app N286 (Fr.nil _)
                refine Own.iload 368 X296 hx (hb hby at_366) rfl rfl ?_
                refine Own.icmp_ne 375 371 X296 hx (hb hby at_368) (by decide) rfl (fun tk => absurd tk (by decide)) (fun tk => ?_)
                refine Own.iconst 372 X296 hx ((1 : Int32)) (hb hby at_371) rfl rfl ?_
                refine Own.goto 376 X296 hx (hb hby at_372) (by decide) ?_
                refine Own.retBool X296 hx hlk hret (hb hby at_376) (by decide) (by decide) ?_
                exact ⟨⟨rfl, N296⟩, by rw [hh296]; exact zk286⟩
              ·
                refine Own.aload 237 X286 hx (hb hby at_235) rfl rfl rfl ?_
                refine Own.iload 239 X286 hx (hb hby at_237) rfl rfl ?_
                refine Own.iload 241 X286 hx (hb hby at_239) rfl rfl ?_
                refine Own.iastore 242 X286 hx hZ e286 V286 (by decide) (Nat.le_of_ble_eq_true rfl) (hb hby at_241) rfl ?_
                intro T297 h297 X297 e297 W297 A297
                have N297 := Fr.snoc X297 N286 g_ex
                have Vf_299 := Vf_288.other W297 ne_sl_ex
                have Vf_300 := Vf_289.other W297 ne_cn_ex
                have Ef_301 := Ef_290.wr W297
                have Ff_302 := Ff_291.other W297 (Or.inl ne_p'_ex)
                have Vf_303 := Vf_292.other W297 ne_r_ex
                have zl297 := Nat.le_trans zl286 (Nat.le_of_eq W297.size.symm)
                have zk297 := Nat.le_trans zk286 (Nat.le_of_eq W297.size.symm)
                have V297 : Arv Z h297 ex k266 .int (4 : Int32) [(.int v7_18), (.int v8_24), (.int (0 : Int32)), (.int (0 : Int32))] (.int (0 : Int32)) := A297
                refine Own.iinc 245 (fun c_305 => #[.val (.int x0), .val (.int x1), .val (.int x2), .val (.int x3), .val (.int x4), .val (.int (3 : Int32)), .val (.int v6_12), .val (.int v7_18), .val (.int v8_24), .val (.int v9_31), .val (.ref sl), .val (.ref cn), .val (.ref p'), .val (.ref r), .val (.ref ex), .val (.int c_305), .unset]) X297 hx ((1 : Int32)) (hb hby at_242) rfl rfl rfl (fun _ => rfl) fun c_305 hc_305 => ?_
                obtain rfl : c_305 = (2 : Int32) := hc_305.trans (by decide)
                refine Own.iload 247 X297 hx (hb hby at_245) rfl rfl ?_
                refine Own.iconst 248 X297 hx ((4 : Int32)) (hb hby at_247) rfl rfl ?_
                refine Own.icmp_lt 266 251 X297 hx (hb hby at_248) (by decide) rfl (fun tk => ?_) (fun tk => absurd tk (by decide))
                refine Own.aload 268 X297 hx (hb hby at_266) rfl rfl rfl ?_
                have hys2 : ys = [v7_18, v8_24] := by rw [hys, own_f, List.filter_cons_of_neg (p := fun x => decide (¬ x < 0)) (by rw [decide_eq_true_iff]; exact fun u => u q0), List.filter_cons_of_pos (p := fun x => decide (¬ x < 0)) (decide_eq_true q1), List.filter_cons_of_pos (p := fun x => decide (¬ x < 0)) (decide_eq_true q2), List.filter_nil]
                have Vr306 : Arv Z h297 r kr .int (2 : Int32) [(.int v7_18), (.int v8_24)] (.int (0 : Int32)) := by
                  have Vq := Vf_303
                  rw [hys2] at Vq
                  exact Vq
                refine Own.ifnull 279 271 X297 hx (hb hby at_268) rfl (by decide) rfl (fun hh => nomatch hh) (fun _ _ => ?_)
                refine Own.aload 273 X297 hx (hb hby at_271) rfl rfl rfl ?_
                refine Own.arrLen 274 X297 hx hZ e297 Vr306 (hb hby at_273) rfl ?_
                refine Own.iload 276 X297 hx (hb hby at_274) rfl rfl ?_
                refine Own.icmp_eq 281 279 X297 hx (hb hby at_276) (by decide) rfl (fun tk => ?_) (fun tk => absurd tk (by decide))
                refine Own.iload 283 X297 hx (hb hby at_281) rfl rfl ?_
                refine Own.iconst 284 X297 hx ((1 : Int32)) (hb hby at_283) rfl rfl ?_
                refine Own.icmp_lt 298 287 X297 hx (hb hby at_284) (by decide) rfl (fun tk => absurd tk (by decide)) (fun tk => ?_)
                refine Own.aload 289 X297 hx (hb hby at_287) rfl rfl rfl ?_
                refine Own.iconst 290 X297 hx ((0 : Int32)) (hb hby at_289) rfl rfl ?_
                refine Own.iaload 291 X297 hx hZ e297 (v7_18) Vr306 (by decide) rfl (hb hby at_290) rfl ?_
                refine Own.aload 293 X297 hx (hb hby at_291) rfl rfl rfl ?_
                refine Own.iconst 294 X297 hx ((0 : Int32)) (hb hby at_293) rfl rfl ?_
                refine Own.iaload 295 X297 hx hZ e297 (v7_18) V297 (by decide) rfl (hb hby at_294) rfl ?_
                refine Own.icmp_ne 353 298 X297 hx (hb hby at_295) (by decide) rfl (fun tk => absurd rfl tk) (fun tk => ?_)
                refine Own.iload 300 X297 hx (hb hby at_298) rfl rfl ?_
                refine Own.iconst 301 X297 hx ((2 : Int32)) (hb hby at_300) rfl rfl ?_
                refine Own.icmp_lt 315 304 X297 hx (hb hby at_301) (by decide) rfl (fun tk => absurd tk (by decide)) (fun tk => ?_)
                refine Own.aload 306 X297 hx (hb hby at_304) rfl rfl rfl ?_
                refine Own.iconst 307 X297 hx ((1 : Int32)) (hb hby at_306) rfl rfl ?_
                refine Own.iaload 308 X297 hx hZ e297 (v8_24) Vr306 (by decide) rfl (hb hby at_307) rfl ?_
                refine Own.aload 310 X297 hx (hb hby at_308) rfl rfl rfl ?_
                refine Own.iconst 311 X297 hx ((1 : Int32)) (hb hby at_310) rfl rfl ?_
                refine Own.iaload 312 X297 hx hZ e297 (v8_24) V297 (by decide) rfl (hb hby at_311) rfl ?_
                refine Own.icmp_ne 353 315 X297 hx (hb hby at_312) (by decide) rfl (fun tk => absurd rfl tk) (fun tk => ?_)
                refine Own.iload 317 X297 hx (hb hby at_315) rfl rfl ?_
                refine Own.iconst 318 X297 hx ((3 : Int32)) (hb hby at_317) rfl rfl ?_
                refine Own.icmp_lt 332 321 X297 hx (hb hby at_318) (by decide) rfl (fun tk => ?_) (fun tk => absurd tk (by decide))
                refine Own.iload 334 X297 hx (hb hby at_332) rfl rfl ?_
                refine Own.iconst 335 X297 hx ((4 : Int32)) (hb hby at_334) rfl rfl ?_
                refine Own.icmp_lt 349 338 X297 hx (hb hby at_335) (by decide) rfl (fun tk => ?_) (fun tk => absurd tk (by decide))
                refine Own.iconst 350 X297 hx ((1 : Int32)) (hb hby at_349) rfl rfl ?_
                refine Own.goto 354 X297 hx (hb hby at_350) (by decide) ?_
                refine Own.istoreV 356 #[.val (.int x0), .val (.int x1), .val (.int x2), .val (.int x3), .val (.int x4), .val (.int (3 : Int32)), .val (.int v6_12), .val (.int v7_18), .val (.int v8_24), .val (.int v9_31), .val (.ref sl), .val (.ref cn), .val (.ref p'), .val (.ref r), .val (.ref ex), .val (.int (2 : Int32)), .val (.int (1 : Int32))] X297 hx (hb hby at_354) rfl rfl ?_
                refine Own.iload 358 X297 hx (hb hby at_356) rfl rfl ?_
                refine Own.if_eq 375 361 X297 hx (hb hby at_358) (by decide) rfl (fun tk => absurd tk (by decide)) (fun tk => ?_)
                refine Own.aload 363 X297 hx (hb hby at_361) rfl rfl rfl ?_
                refine Own.callVt 366 0 p' [] [] X297 hx hZ hown (m5_3 l Z a0 w p' sl k224 v6_12 v7_18 v8_24 _ Ff_302 Vf_299) Ef_301 (notFace_of_selects (args := #[]) (mvT hZ (w 41 rfl))) (w 38 rfl) (w 39 rfl) (w 41 rfl) (w 40 rfl) (w 10 rfl) (w 42 rfl) (by decide) e297 (by decide) (by decide) (by decide) (by decide) (by rw [hml]; rfl) (lenOf pd_3 rfl) rfl (Nat.le_of_eq rfl) (hb hby at_363) rfl ?_
                rintro vv T307 L307 X307 ⟨rfl, hh307, rfl⟩
                have N307 := Fr.app N297 (Fr.nil _)
                refine Own.iload 368 X307 hx (hb hby at_366) rfl rfl ?_
                refine Own.icmp_ne 375 371 X307 hx (hb hby at_368) (by decide) rfl (fun tk => absurd tk (by decide)) (fun tk => ?_)
                refine Own.iconst 372 X307 hx ((1 : Int32)) (hb hby at_371) rfl rfl ?_
                refine Own.goto 376 X307 hx (hb hby at_372) (by decide) ?_
                refine Own.retBool X307 hx hlk hret (hb hby at_376) (by decide) (by decide) ?_
                exact ⟨⟨rfl, N307⟩, by rw [hh307]; exact zk297⟩
          ·
            refine Own.aload 195 X266 hx (hb hby at_193) rfl rfl rfl ?_
            refine Own.iload 197 X266 hx (hb hby at_195) rfl rfl ?_
            refine Own.iload 199 X266 hx (hb hby at_197) rfl rfl ?_
            refine Own.iastore 200 X266 hx hZ e266 V266 (by decide) (Nat.le_of_ble_eq_true rfl) (hb hby at_199) rfl ?_
            intro T308 h308 X308 e308 W308 A308
            have N308 := Fr.snoc X308 N260 g_ex
            have Vf_310 := Vf_268.other W308 ne_sl_ex
            have Vf_311 := Vf_269.other W308 ne_cn_ex
            have Ef_312 := Ef_270.wr W308
            have Ff_313 := Ff_271.other W308 (Or.inl ne_p'_ex)
            have Vf_314 := Vf_272.other W308 ne_r_ex
            have zl308 := Nat.le_trans zl266 (Nat.le_of_eq W308.size.symm)
            have zk308 := Nat.le_trans zk266 (Nat.le_of_eq W308.size.symm)
            have V308 : Arv Z h308 ex k266 .int (4 : Int32) [(.int v6_12), (.int (0 : Int32)), (.int (0 : Int32)), (.int (0 : Int32))] (.int (0 : Int32)) := A308
            refine Own.iinc 203 (fun c_316 => #[.val (.int x0), .val (.int x1), .val (.int x2), .val (.int x3), .val (.int x4), .val (.int (3 : Int32)), .val (.int v6_12), .val (.int v7_18), .val (.int v8_24), .val (.int v9_31), .val (.ref sl), .val (.ref cn), .val (.ref p'), .val (.ref r), .val (.ref ex), .val (.int c_316), .unset]) X308 hx ((1 : Int32)) (hb hby at_200) rfl rfl rfl (fun _ => rfl) fun c_316 hc_316 => ?_
            obtain rfl : c_316 = (1 : Int32) := hc_316.trans (by decide)
            refine Own.iload 205 X308 hx (hb hby at_203) rfl rfl ?_
            refine Own.iconst 206 X308 hx ((2 : Int32)) (hb hby at_205) rfl rfl ?_
            refine Own.icmp_lt 224 209 X308 hx (hb hby at_206) (by decide) rfl (fun tk => absurd tk (by decide)) (fun tk => ?_)
            refine Own.iload 211 X308 hx (hb hby at_209) rfl rfl ?_
            refine Own.if_lt 224 214 X308 hx (hb hby at_211) (by decide) rfl (fun q1 => ?_) (fun q1 => ?_)
            ·
              refine Own.iload 226 X308 hx (hb hby at_224) rfl rfl ?_
              refine Own.iconst 227 X308 hx ((3 : Int32)) (hb hby at_226) rfl rfl ?_
              refine Own.icmp_lt 245 230 X308 hx (hb hby at_227) (by decide) rfl (fun tk => absurd tk (by decide)) (fun tk => ?_)
              refine Own.iload 232 X308 hx (hb hby at_230) rfl rfl ?_
              refine Own.if_lt 245 235 X308 hx (hb hby at_232) (by decide) rfl (fun q2 => ?_) (fun q2 => ?_)
              ·
                refine Own.iload 247 X308 hx (hb hby at_245) rfl rfl ?_
                refine Own.iconst 248 X308 hx ((4 : Int32)) (hb hby at_247) rfl rfl ?_
                refine Own.icmp_lt 266 251 X308 hx (hb hby at_248) (by decide) rfl (fun tk => ?_) (fun tk => absurd tk (by decide))
                refine Own.aload 268 X308 hx (hb hby at_266) rfl rfl rfl ?_
                have hys2 : ys = [v6_12] := by rw [hys, own_f, List.filter_cons_of_pos (p := fun x => decide (¬ x < 0)) (decide_eq_true q0), List.filter_cons_of_neg (p := fun x => decide (¬ x < 0)) (by rw [decide_eq_true_iff]; exact fun u => u q1), List.filter_cons_of_neg (p := fun x => decide (¬ x < 0)) (by rw [decide_eq_true_iff]; exact fun u => u q2), List.filter_nil]
                have Vr317 : Arv Z h308 r kr .int (1 : Int32) [(.int v6_12)] (.int (0 : Int32)) := by
                  have Vq := Vf_314
                  rw [hys2] at Vq
                  exact Vq
                refine Own.ifnull 279 271 X308 hx (hb hby at_268) rfl (by decide) rfl (fun hh => nomatch hh) (fun _ _ => ?_)
                refine Own.aload 273 X308 hx (hb hby at_271) rfl rfl rfl ?_
                refine Own.arrLen 274 X308 hx hZ e308 Vr317 (hb hby at_273) rfl ?_
                refine Own.iload 276 X308 hx (hb hby at_274) rfl rfl ?_
                refine Own.icmp_eq 281 279 X308 hx (hb hby at_276) (by decide) rfl (fun tk => ?_) (fun tk => absurd tk (by decide))
                refine Own.iload 283 X308 hx (hb hby at_281) rfl rfl ?_
                refine Own.iconst 284 X308 hx ((1 : Int32)) (hb hby at_283) rfl rfl ?_
                refine Own.icmp_lt 298 287 X308 hx (hb hby at_284) (by decide) rfl (fun tk => absurd tk (by decide)) (fun tk => ?_)
                refine Own.aload 289 X308 hx (hb hby at_287) rfl rfl rfl ?_
                refine Own.iconst 290 X308 hx ((0 : Int32)) (hb hby at_289) rfl rfl ?_
                refine Own.iaload 291 X308 hx hZ e308 (v6_12) Vr317 (by decide) rfl (hb hby at_290) rfl ?_
                refine Own.aload 293 X308 hx (hb hby at_291) rfl rfl rfl ?_
                refine Own.iconst 294 X308 hx ((0 : Int32)) (hb hby at_293) rfl rfl ?_
                refine Own.iaload 295 X308 hx hZ e308 (v6_12) V308 (by decide) rfl (hb hby at_294) rfl ?_
                refine Own.icmp_ne 353 298 X308 hx (hb hby at_295) (by decide) rfl (fun tk => absurd rfl tk) (fun tk => ?_)
                refine Own.iload 300 X308 hx (hb hby at_298) rfl rfl ?_
                refine Own.iconst 301 X308 hx ((2 : Int32)) (hb hby at_300) rfl rfl ?_
                refine Own.icmp_lt 315 304 X308 hx (hb hby at_301) (by decide) rfl (fun tk => ?_) (fun tk => absurd tk (by decide))
                refine Own.iload 317 X308 hx (hb hby at_315) rfl rfl ?_
                refine Own.iconst 318 X308 hx ((3 : Int32)) (hb hby at_317) rfl rfl ?_
                refine Own.icmp_lt 332 321 X308 hx (hb hby at_318) (by decide) rfl (fun tk => ?_) (fun tk => absurd tk (by decide))
                refine Own.iload 334 X308 hx (hb hby at_332) rfl rfl ?_
                refine Own.iconst 335 X308 hx ((4 : Int32)) (hb hby at_334) rfl rfl ?_
                refine Own.icmp_lt 349 338 X308 hx (hb hby at_335) (by decide) rfl (fun tk => ?_) (fun tk => absurd tk (by decide))
                refine Own.iconst 350 X308 hx ((1 : Int32)) (hb hby at_349) rfl rfl ?_
                refine Own.goto 354 X308 hx (hb hby at_350) (by decide) ?_
                refine Own.istoreV 356 #[.val (.int x0), .val (.int x1), .val (.int x2), .val (.int x3), .val (.int x4), .val (.int (3 : Int32)), .val (.int v6_12), .val (.int v7_18), .val (.int v8_24), .val (.int v9_31), .val (.ref sl), .val (.ref cn), .val (.ref p'), .val (.ref r), .val (.ref ex), .val (.int (1 : Int32)), .val (.int (1 : Int32))] X308 hx (hb hby at_354) rfl rfl ?_
                refine Own.iload 358 X308 hx (hb hby at_356) rfl rfl ?_
                refine Own.if_eq 375 361 X308 hx (hb hby at_358) (by decide) rfl (fun tk => absurd tk (by decide)) (fun tk => ?_)
                refine Own.aload 363 X308 hx (hb hby at_361) rfl rfl rfl ?_
                refine Own.callVt 366 0 p' [] [] X308 hx hZ hown (m5_3 l Z a0 w p' sl k224 v6_12 v7_18 v8_24 _ Ff_313 Vf_310) Ef_312 (notFace_of_selects (args := #[]) (mvT hZ (w 41 rfl))) (w 38 rfl) (w 39 rfl) (w 41 rfl) (w 40 rfl) (w 10 rfl) (w 42 rfl) (by decide) e308 (by decide) (by decide) (by decide) (by decide) (by rw [hml]; rfl) (lenOf pd_3 rfl) rfl (Nat.le_of_eq rfl) (hb hby at_363) rfl ?_
                rintro vv T318 L318 X318 ⟨rfl, hh318, rfl⟩
                have N318 := Fr.app N308 (Fr.nil _)
                refine Own.iload 368 X318 hx (hb hby at_366) rfl rfl ?_
                refine Own.icmp_ne 375 371 X318 hx (hb hby at_368) (by decide) rfl (fun tk => absurd tk (by decide)) (fun tk => ?_)
                refine Own.iconst 372 X318 hx ((1 : Int32)) (hb hby at_371) rfl rfl ?_
                refine Own.goto 376 X318 hx (hb hby at_372) (by decide) ?_
                refine Own.retBool X318 hx hlk hret (hb hby at_376) (by decide) (by decide) ?_
                exact ⟨⟨rfl, N318⟩, by rw [hh318]; exact zk308⟩
              ·
                refine Own.aload 237 X308 hx (hb hby at_235) rfl rfl rfl ?_
                refine Own.iload 239 X308 hx (hb hby at_237) rfl rfl ?_
                refine Own.iload 241 X308 hx (hb hby at_239) rfl rfl ?_
                refine Own.iastore 242 X308 hx hZ e308 V308 (by decide) (Nat.le_of_ble_eq_true rfl) (hb hby at_241) rfl ?_
                intro T319 h319 X319 e319 W319 A319
                have N319 := Fr.snoc X319 N308 g_ex
                have Vf_321 := Vf_310.other W319 ne_sl_ex
                have Vf_322 := Vf_311.other W319 ne_cn_ex
                have Ef_323 := Ef_312.wr W319
                have Ff_324 := Ff_313.other W319 (Or.inl ne_p'_ex)
                have Vf_325 := Vf_314.other W319 ne_r_ex
                have zl319 := Nat.le_trans zl308 (Nat.le_of_eq W319.size.symm)
                have zk319 := Nat.le_trans zk308 (Nat.le_of_eq W319.size.symm)
                have V319 : Arv Z h319 ex k266 .int (4 : Int32) [(.int v6_12), (.int v8_24), (.int (0 : Int32)), (.int (0 : Int32))] (.int (0 : Int32)) := A319
                refine Own.iinc 245 (fun c_327 => #[.val (.int x0), .val (.int x1), .val (.int x2), .val (.int x3), .val (.int x4), .val (.int (3 : Int32)), .val (.int v6_12), .val (.int v7_18), .val (.int v8_24), .val (.int v9_31), .val (.ref sl), .val (.ref cn), .val (.ref p'), .val (.ref r), .val (.ref ex), .val (.int c_327), .unset]) X319 hx ((1 : Int32)) (hb hby at_242) rfl rfl rfl (fun _ => rfl) fun c_327 hc_327 => ?_
                obtain rfl : c_327 = (2 : Int32) := hc_327.trans (by decide)
                refine Own.iload 247 X319 hx (hb hby at_245) rfl rfl ?_
                refine Own.iconst 248 X319 hx ((4 : Int32)) (hb hby at_247) rfl rfl ?_
                refine Own.icmp_lt 266 251 X319 hx (hb hby at_248) (by decide) rfl (fun tk => ?_) (fun tk => absurd tk (by decide))
                refine Own.aload 268 X319 hx (hb hby at_266) rfl rfl rfl ?_
                have hys2 : ys = [v6_12, v8_24] := by rw [hys, own_f, List.filter_cons_of_pos (p := fun x => decide (¬ x < 0)) (decide_eq_true q0), List.filter_cons_of_neg (p := fun x => decide (¬ x < 0)) (by rw [decide_eq_true_iff]; exact fun u => u q1), List.filter_cons_of_pos (p := fun x => decide (¬ x < 0)) (decide_eq_true q2), List.filter_nil]
                have Vr328 : Arv Z h319 r kr .int (2 : Int32) [(.int v6_12), (.int v8_24)] (.int (0 : Int32)) := by
                  have Vq := Vf_325
                  rw [hys2] at Vq
                  exact Vq
                refine Own.ifnull 279 271 X319 hx (hb hby at_268) rfl (by decide) rfl (fun hh => nomatch hh) (fun _ _ => ?_)
                refine Own.aload 273 X319 hx (hb hby at_271) rfl rfl rfl ?_
                refine Own.arrLen 274 X319 hx hZ e319 Vr328 (hb hby at_273) rfl ?_
                refine Own.iload 276 X319 hx (hb hby at_274) rfl rfl ?_
                refine Own.icmp_eq 281 279 X319 hx (hb hby at_276) (by decide) rfl (fun tk => ?_) (fun tk => absurd tk (by decide))
                refine Own.iload 283 X319 hx (hb hby at_281) rfl rfl ?_
                refine Own.iconst 284 X319 hx ((1 : Int32)) (hb hby at_283) rfl rfl ?_
                refine Own.icmp_lt 298 287 X319 hx (hb hby at_284) (by decide) rfl (fun tk => absurd tk (by decide)) (fun tk => ?_)
                refine Own.aload 289 X319 hx (hb hby at_287) rfl rfl rfl ?_
                refine Own.iconst 290 X319 hx ((0 : Int32)) (hb hby at_289) rfl rfl ?_
                refine Own.iaload 291 X319 hx hZ e319 (v6_12) Vr328 (by decide) rfl (hb hby at_290) rfl ?_
                refine Own.aload 293 X319 hx (hb hby at_291) rfl rfl rfl ?_
                refine Own.iconst 294 X319 hx ((0 : Int32)) (hb hby at_293) rfl rfl ?_
                refine Own.iaload 295 X319 hx hZ e319 (v6_12) V319 (by decide) rfl (hb hby at_294) rfl ?_
                refine Own.icmp_ne 353 298 X319 hx (hb hby at_295) (by decide) rfl (fun tk => absurd rfl tk) (fun tk => ?_)
                refine Own.iload 300 X319 hx (hb hby at_298) rfl rfl ?_
                refine Own.iconst 301 X319 hx ((2 : Int32)) (hb hby at_300) rfl rfl ?_
                refine Own.icmp_lt 315 304 X319 hx (hb hby at_301) (by decide) rfl (fun tk => absurd tk (by decide)) (fun tk => ?_)
                refine Own.aload 306 X319 hx (hb hby at_304) rfl rfl rfl ?_
                refine Own.iconst 307 X319 hx ((1 : Int32)) (hb hby at_306) rfl rfl ?_
                refine Own.iaload 308 X319 hx hZ e319 (v8_24) Vr328 (by decide) rfl (hb hby at_307) rfl ?_
                refine Own.aload 310 X319 hx (hb hby at_308) rfl rfl rfl ?_
                refine Own.iconst 311 X319 hx ((1 : Int32)) (hb hby at_310) rfl rfl ?_
                refine Own.iaload 312 X319 hx hZ e319 (v8_24) V319 (by decide) rfl (hb hby at_311) rfl ?_
                refine Own.icmp_ne 353 315 X319 hx (hb hby at_312) (by decide) rfl (fun tk => absurd rfl tk) (fun tk => ?_)
                refine Own.iload 317 X319 hx (hb hby at_315) rfl rfl ?_
                refine Own.iconst 318 X319 hx ((3 : Int32)) (hb hby at_317) rfl rfl ?_
                refine Own.icmp_lt 332 321 X319 hx (hb hby at_318) (by decide) rfl (fun tk => ?_) (fun tk => absurd tk (by decide))
                refine Own.iload 334 X319 hx (hb hby at_332) rfl rfl ?_
                refine Own.iconst 335 X319 hx ((4 : Int32)) (hb hby at_334) rfl rfl ?_
                refine Own.icmp_lt 349 338 X319 hx (hb hby at_335) (by decide) rfl (fun tk => ?_) (fun tk => absurd tk (by decide))
                refine Own.iconst 350 X319 hx ((1 : Int32)) (hb hby at_349) rfl rfl ?_
                refine Own.goto 354 X319 hx (hb hby at_350) (by decide) ?_
                refine Own.istoreV 356 #[.val (.int x0), .val (.int x1), .val (.int x2), .val (.int x3), .val (.int x4), .val (.int (3 : Int32)), .val (.int v6_12), .val (.int v7_18), .val (.int v8_24), .val (.int v9_31), .val (.ref sl), .val (.ref cn), .val (.ref p'), .val (.ref r), .val (.ref ex), .val (.int (2 : Int32)), .val (.int (1 : Int32))] X319 hx (hb hby at_354) rfl rfl ?_
                refine Own.iload 358 X319 hx (hb hby at_356) rfl rfl ?_
                refine Own.if_eq 375 361 X319 hx (hb hby at_358) (by decide) rfl (fun tk => absurd tk (by decide)) (fun tk => ?_)
                refine Own.aload 363 X319 hx (hb hby at_361) rfl rfl rfl ?_
                refine Own.callVt 366 0 p' [] [] X319 hx hZ hown (m5_3 l Z a0 w p' sl k224 v6_12 v7_18 v8_24 _ Ff_324 Vf_321) Ef_323 (notFace_of_selects (args := #[]) (mvT hZ (w 41 rfl))) (w 38 rfl) (w 39 rfl) (w 41 rfl) (w 40 rfl) (w 10 rfl) (w 42 rfl) (by decide) e319 (by decide) (by decide) (by decide) (by decide) (by rw [hml]; rfl) (lenOf pd_3 rfl) rfl (Nat.le_of_eq rfl) (hb hby at_363) rfl ?_
                rintro vv T329 L329 X329 ⟨rfl, hh329, rfl⟩
                have N329 := Fr.app N319 (Fr.nil _)
                refine Own.iload 368 X329 hx (hb hby at_366) rfl rfl ?_
                refine Own.icmp_ne 375 371 X329 hx (hb hby at_368) (by decide) rfl (fun tk => absurd tk (by decide)) (fun tk => ?_)
                refine Own.iconst 372 X329 hx ((1 : Int32)) (hb hby at_371) rfl rfl ?_
                refine Own.goto 376 X329 hx (hb hby at_372) (by decide) ?_
                refine Own.retBool X329 hx hlk hret (hb hby at_376) (by decide) (by decide) ?_
                exact ⟨⟨rfl, N329⟩, by rw [hh329]; exact zk319⟩
            ·
              refine Own.aload 216 X308 hx (hb hby at_214) rfl rfl rfl ?_
              refine Own.iload 218 X308 hx (hb hby at_216) rfl rfl ?_
              refine Own.iload 220 X308 hx (hb hby at_218) rfl rfl ?_
              refine Own.iastore 221 X308 hx hZ e308 V308 (by decide) (Nat.le_of_ble_eq_true rfl) (hb hby at_220) rfl ?_
              intro T330 h330 X330 e330 W330 A330
              have N330 := Fr.snoc X330 N308 g_ex
              have Vf_332 := Vf_310.other W330 ne_sl_ex
              have Vf_333 := Vf_311.other W330 ne_cn_ex
              have Ef_334 := Ef_312.wr W330
              have Ff_335 := Ff_313.other W330 (Or.inl ne_p'_ex)
              have Vf_336 := Vf_314.other W330 ne_r_ex
              have zl330 := Nat.le_trans zl308 (Nat.le_of_eq W330.size.symm)
              have zk330 := Nat.le_trans zk308 (Nat.le_of_eq W330.size.symm)
              have V330 : Arv Z h330 ex k266 .int (4 : Int32) [(.int v6_12), (.int v7_18), (.int (0 : Int32)), (.int (0 : Int32))] (.int (0 : Int32)) := A330
              refine Own.iinc 224 (fun c_338 => #[.val (.int x0), .val (.int x1), .val (.int x2), .val (.int x3), .val (.int x4), .val (.int (3 : Int32)), .val (.int v6_12), .val (.int v7_18), .val (.int v8_24), .val (.int v9_31), .val (.ref sl), .val (.ref cn), .val (.ref p'), .val (.ref r), .val (.ref ex), .val (.int c_338), .unset]) X330 hx ((1 : Int32)) (hb hby at_221) rfl rfl rfl (fun _ => rfl) fun c_338 hc_338 => ?_
              obtain rfl : c_338 = (2 : Int32) := hc_338.trans (by decide)
              refine Own.iload 226 X330 hx (hb hby at_224) rfl rfl ?_
              refine Own.iconst 227 X330 hx ((3 : Int32)) (hb hby at_226) rfl rfl ?_
              refine Own.icmp_lt 245 230 X330 hx (hb hby at_227) (by decide) rfl (fun tk => absurd tk (by decide)) (fun tk => ?_)
              refine Own.iload 232 X330 hx (hb hby at_230) rfl rfl ?_
              refine Own.if_lt 245 235 X330 hx (hb hby at_232) (by decide) rfl (fun q2 => ?_) (fun q2 => ?_)
              ·
                refine Own.iload 247 X330 hx (hb hby at_245) rfl rfl ?_
                refine Own.iconst 248 X330 hx ((4 : Int32)) (hb hby at_247) rfl rfl ?_
                refine Own.icmp_lt 266 251 X330 hx (hb hby at_248) (by decide) rfl (fun tk => ?_) (fun tk => absurd tk (by decide))
                refine Own.aload 268 X330 hx (hb hby at_266) rfl rfl rfl ?_
                have hys2 : ys = [v6_12, v7_18] := by rw [hys, own_f, List.filter_cons_of_pos (p := fun x => decide (¬ x < 0)) (decide_eq_true q0), List.filter_cons_of_pos (p := fun x => decide (¬ x < 0)) (decide_eq_true q1), List.filter_cons_of_neg (p := fun x => decide (¬ x < 0)) (by rw [decide_eq_true_iff]; exact fun u => u q2), List.filter_nil]
                have Vr339 : Arv Z h330 r kr .int (2 : Int32) [(.int v6_12), (.int v7_18)] (.int (0 : Int32)) := by
                  have Vq := Vf_336
                  rw [hys2] at Vq
                  exact Vq
                refine Own.ifnull 279 271 X330 hx (hb hby at_268) rfl (by decide) rfl (fun hh => nomatch hh) (fun _ _ => ?_)
                refine Own.aload 273 X330 hx (hb hby at_271) rfl rfl rfl ?_
                refine Own.arrLen 274 X330 hx hZ e330 Vr339 (hb hby at_273) rfl ?_
                refine Own.iload 276 X330 hx (hb hby at_274) rfl rfl ?_
                refine Own.icmp_eq 281 279 X330 hx (hb hby at_276) (by decide) rfl (fun tk => ?_) (fun tk => absurd tk (by decide))
                refine Own.iload 283 X330 hx (hb hby at_281) rfl rfl ?_
                refine Own.iconst 284 X330 hx ((1 : Int32)) (hb hby at_283) rfl rfl ?_
                refine Own.icmp_lt 298 287 X330 hx (hb hby at_284) (by decide) rfl (fun tk => absurd tk (by decide)) (fun tk => ?_)
                refine Own.aload 289 X330 hx (hb hby at_287) rfl rfl rfl ?_
                refine Own.iconst 290 X330 hx ((0 : Int32)) (hb hby at_289) rfl rfl ?_
                refine Own.iaload 291 X330 hx hZ e330 (v6_12) Vr339 (by decide) rfl (hb hby at_290) rfl ?_
                refine Own.aload 293 X330 hx (hb hby at_291) rfl rfl rfl ?_
                refine Own.iconst 294 X330 hx ((0 : Int32)) (hb hby at_293) rfl rfl ?_
                refine Own.iaload 295 X330 hx hZ e330 (v6_12) V330 (by decide) rfl (hb hby at_294) rfl ?_
                refine Own.icmp_ne 353 298 X330 hx (hb hby at_295) (by decide) rfl (fun tk => absurd rfl tk) (fun tk => ?_)
                refine Own.iload 300 X330 hx (hb hby at_298) rfl rfl ?_
                refine Own.iconst 301 X330 hx ((2 : Int32)) (hb hby at_300) rfl rfl ?_
                refine Own.icmp_lt 315 304 X330 hx (hb hby at_301) (by decide) rfl (fun tk => absurd tk (by decide)) (fun tk => ?_)
                refine Own.aload 306 X330 hx (hb hby at_304) rfl rfl rfl ?_
                refine Own.iconst 307 X330 hx ((1 : Int32)) (hb hby at_306) rfl rfl ?_
                refine Own.iaload 308 X330 hx hZ e330 (v7_18) Vr339 (by decide) rfl (hb hby at_307) rfl ?_
                refine Own.aload 310 X330 hx (hb hby at_308) rfl rfl rfl ?_
                refine Own.iconst 311 X330 hx ((1 : Int32)) (hb hby at_310) rfl rfl ?_
                refine Own.iaload 312 X330 hx hZ e330 (v7_18) V330 (by decide) rfl (hb hby at_311) rfl ?_
                refine Own.icmp_ne 353 315 X330 hx (hb hby at_312) (by decide) rfl (fun tk => absurd rfl tk) (fun tk => ?_)
                refine Own.iload 317 X330 hx (hb hby at_315) rfl rfl ?_
                refine Own.iconst 318 X330 hx ((3 : Int32)) (hb hby at_317) rfl rfl ?_
                refine Own.icmp_lt 332 321 X330 hx (hb hby at_318) (by decide) rfl (fun tk => ?_) (fun tk => absurd tk (by decide))
                refine Own.iload 334 X330 hx (hb hby at_332) rfl rfl ?_
                refine Own.iconst 335 X330 hx ((4 : Int32)) (hb hby at_334) rfl rfl ?_
                refine Own.icmp_lt 349 338 X330 hx (hb hby at_335) (by decide) rfl (fun tk => ?_) (fun tk => absurd tk (by decide))
                refine Own.iconst 350 X330 hx ((1 : Int32)) (hb hby at_349) rfl rfl ?_
                refine Own.goto 354 X330 hx (hb hby at_350) (by decide) ?_
                refine Own.istoreV 356 #[.val (.int x0), .val (.int x1), .val (.int x2), .val (.int x3), .val (.int x4), .val (.int (3 : Int32)), .val (.int v6_12), .val (.int v7_18), .val (.int v8_24), .val (.int v9_31), .val (.ref sl), .val (.ref cn), .val (.ref p'), .val (.ref r), .val (.ref ex), .val (.int (2 : Int32)), .val (.int (1 : Int32))] X330 hx (hb hby at_354) rfl rfl ?_
                refine Own.iload 358 X330 hx (hb hby at_356) rfl rfl ?_
                refine Own.if_eq 375 361 X330 hx (hb hby at_358) (by decide) rfl (fun tk => absurd tk (by decide)) (fun tk => ?_)
                refine Own.aload 363 X330 hx (hb hby at_361) rfl rfl rfl ?_
                refine Own.callVt 366 0 p' [] [] X330 hx hZ hown (m5_3 l Z a0 w p' sl k224 v6_12 v7_18 v8_24 _ Ff_335 Vf_332) Ef_334 (notFace_of_selects (args := #[]) (mvT hZ (w 41 rfl))) (w 38 rfl) (w 39 rfl) (w 41 rfl) (w 40 rfl) (w 10 rfl) (w 42 rfl) (by decide) e330 (by decide) (by decide) (by decide) (by decide) (by rw [hml]; rfl) (lenOf pd_3 rfl) rfl (Nat.le_of_eq rfl) (hb hby at_363) rfl ?_
                rintro vv T340 L340 X340 ⟨rfl, hh340, rfl⟩
                have N340 := Fr.app N330 (Fr.nil _)
                refine Own.iload 368 X340 hx (hb hby at_366) rfl rfl ?_
                refine Own.icmp_ne 375 371 X340 hx (hb hby at_368) (by decide) rfl (fun tk => absurd tk (by decide)) (fun tk => ?_)
                refine Own.iconst 372 X340 hx ((1 : Int32)) (hb hby at_371) rfl rfl ?_
                refine Own.goto 376 X340 hx (hb hby at_372) (by decide) ?_
                refine Own.retBool X340 hx hlk hret (hb hby at_376) (by decide) (by decide) ?_
                exact ⟨⟨rfl, N340⟩, by rw [hh340]; exact zk330⟩
              ·
                refine Own.aload 237 X330 hx (hb hby at_235) rfl rfl rfl ?_
                refine Own.iload 239 X330 hx (hb hby at_237) rfl rfl ?_
                refine Own.iload 241 X330 hx (hb hby at_239) rfl rfl ?_
                refine Own.iastore 242 X330 hx hZ e330 V330 (by decide) (Nat.le_of_ble_eq_true rfl) (hb hby at_241) rfl ?_
                intro T341 h341 X341 e341 W341 A341
                have N341 := Fr.snoc X341 N330 g_ex
                have Vf_343 := Vf_332.other W341 ne_sl_ex
                have Vf_344 := Vf_333.other W341 ne_cn_ex
                have Ef_345 := Ef_334.wr W341
                have Ff_346 := Ff_335.other W341 (Or.inl ne_p'_ex)
                have Vf_347 := Vf_336.other W341 ne_r_ex
                have zl341 := Nat.le_trans zl330 (Nat.le_of_eq W341.size.symm)
                have zk341 := Nat.le_trans zk330 (Nat.le_of_eq W341.size.symm)
                have V341 : Arv Z h341 ex k266 .int (4 : Int32) [(.int v6_12), (.int v7_18), (.int v8_24), (.int (0 : Int32))] (.int (0 : Int32)) := A341
                refine Own.iinc 245 (fun c_349 => #[.val (.int x0), .val (.int x1), .val (.int x2), .val (.int x3), .val (.int x4), .val (.int (3 : Int32)), .val (.int v6_12), .val (.int v7_18), .val (.int v8_24), .val (.int v9_31), .val (.ref sl), .val (.ref cn), .val (.ref p'), .val (.ref r), .val (.ref ex), .val (.int c_349), .unset]) X341 hx ((1 : Int32)) (hb hby at_242) rfl rfl rfl (fun _ => rfl) fun c_349 hc_349 => ?_
                obtain rfl : c_349 = (3 : Int32) := hc_349.trans (by decide)
                refine Own.iload 247 X341 hx (hb hby at_245) rfl rfl ?_
                refine Own.iconst 248 X341 hx ((4 : Int32)) (hb hby at_247) rfl rfl ?_
                refine Own.icmp_lt 266 251 X341 hx (hb hby at_248) (by decide) rfl (fun tk => ?_) (fun tk => absurd tk (by decide))
                refine Own.aload 268 X341 hx (hb hby at_266) rfl rfl rfl ?_
                have hys2 : ys = [v6_12, v7_18, v8_24] := by rw [hys, own_f, List.filter_cons_of_pos (p := fun x => decide (¬ x < 0)) (decide_eq_true q0), List.filter_cons_of_pos (p := fun x => decide (¬ x < 0)) (decide_eq_true q1), List.filter_cons_of_pos (p := fun x => decide (¬ x < 0)) (decide_eq_true q2), List.filter_nil]
                have Vr350 : Arv Z h341 r kr .int (3 : Int32) [(.int v6_12), (.int v7_18), (.int v8_24)] (.int (0 : Int32)) := by
                  have Vq := Vf_347
                  rw [hys2] at Vq
                  exact Vq
                refine Own.ifnull 279 271 X341 hx (hb hby at_268) rfl (by decide) rfl (fun hh => nomatch hh) (fun _ _ => ?_)
                refine Own.aload 273 X341 hx (hb hby at_271) rfl rfl rfl ?_
                refine Own.arrLen 274 X341 hx hZ e341 Vr350 (hb hby at_273) rfl ?_
                refine Own.iload 276 X341 hx (hb hby at_274) rfl rfl ?_
                refine Own.icmp_eq 281 279 X341 hx (hb hby at_276) (by decide) rfl (fun tk => ?_) (fun tk => absurd tk (by decide))
                refine Own.iload 283 X341 hx (hb hby at_281) rfl rfl ?_
                refine Own.iconst 284 X341 hx ((1 : Int32)) (hb hby at_283) rfl rfl ?_
                refine Own.icmp_lt 298 287 X341 hx (hb hby at_284) (by decide) rfl (fun tk => absurd tk (by decide)) (fun tk => ?_)
                refine Own.aload 289 X341 hx (hb hby at_287) rfl rfl rfl ?_
                refine Own.iconst 290 X341 hx ((0 : Int32)) (hb hby at_289) rfl rfl ?_
                refine Own.iaload 291 X341 hx hZ e341 (v6_12) Vr350 (by decide) rfl (hb hby at_290) rfl ?_
                refine Own.aload 293 X341 hx (hb hby at_291) rfl rfl rfl ?_
                refine Own.iconst 294 X341 hx ((0 : Int32)) (hb hby at_293) rfl rfl ?_
                refine Own.iaload 295 X341 hx hZ e341 (v6_12) V341 (by decide) rfl (hb hby at_294) rfl ?_
                refine Own.icmp_ne 353 298 X341 hx (hb hby at_295) (by decide) rfl (fun tk => absurd rfl tk) (fun tk => ?_)
                refine Own.iload 300 X341 hx (hb hby at_298) rfl rfl ?_
                refine Own.iconst 301 X341 hx ((2 : Int32)) (hb hby at_300) rfl rfl ?_
                refine Own.icmp_lt 315 304 X341 hx (hb hby at_301) (by decide) rfl (fun tk => absurd tk (by decide)) (fun tk => ?_)
                refine Own.aload 306 X341 hx (hb hby at_304) rfl rfl rfl ?_
                refine Own.iconst 307 X341 hx ((1 : Int32)) (hb hby at_306) rfl rfl ?_
                refine Own.iaload 308 X341 hx hZ e341 (v7_18) Vr350 (by decide) rfl (hb hby at_307) rfl ?_
                refine Own.aload 310 X341 hx (hb hby at_308) rfl rfl rfl ?_
                refine Own.iconst 311 X341 hx ((1 : Int32)) (hb hby at_310) rfl rfl ?_
                refine Own.iaload 312 X341 hx hZ e341 (v7_18) V341 (by decide) rfl (hb hby at_311) rfl ?_
                refine Own.icmp_ne 353 315 X341 hx (hb hby at_312) (by decide) rfl (fun tk => absurd rfl tk) (fun tk => ?_)
                refine Own.iload 317 X341 hx (hb hby at_315) rfl rfl ?_
                refine Own.iconst 318 X341 hx ((3 : Int32)) (hb hby at_317) rfl rfl ?_
                refine Own.icmp_lt 332 321 X341 hx (hb hby at_318) (by decide) rfl (fun tk => absurd tk (by decide)) (fun tk => ?_)
                refine Own.aload 323 X341 hx (hb hby at_321) rfl rfl rfl ?_
                refine Own.iconst 324 X341 hx ((2 : Int32)) (hb hby at_323) rfl rfl ?_
                refine Own.iaload 325 X341 hx hZ e341 (v8_24) Vr350 (by decide) rfl (hb hby at_324) rfl ?_
                refine Own.aload 327 X341 hx (hb hby at_325) rfl rfl rfl ?_
                refine Own.iconst 328 X341 hx ((2 : Int32)) (hb hby at_327) rfl rfl ?_
                refine Own.iaload 329 X341 hx hZ e341 (v8_24) V341 (by decide) rfl (hb hby at_328) rfl ?_
                refine Own.icmp_ne 353 332 X341 hx (hb hby at_329) (by decide) rfl (fun tk => absurd rfl tk) (fun tk => ?_)
                refine Own.iload 334 X341 hx (hb hby at_332) rfl rfl ?_
                refine Own.iconst 335 X341 hx ((4 : Int32)) (hb hby at_334) rfl rfl ?_
                refine Own.icmp_lt 349 338 X341 hx (hb hby at_335) (by decide) rfl (fun tk => ?_) (fun tk => absurd tk (by decide))
                refine Own.iconst 350 X341 hx ((1 : Int32)) (hb hby at_349) rfl rfl ?_
                refine Own.goto 354 X341 hx (hb hby at_350) (by decide) ?_
                refine Own.istoreV 356 #[.val (.int x0), .val (.int x1), .val (.int x2), .val (.int x3), .val (.int x4), .val (.int (3 : Int32)), .val (.int v6_12), .val (.int v7_18), .val (.int v8_24), .val (.int v9_31), .val (.ref sl), .val (.ref cn), .val (.ref p'), .val (.ref r), .val (.ref ex), .val (.int (3 : Int32)), .val (.int (1 : Int32))] X341 hx (hb hby at_354) rfl rfl ?_
                refine Own.iload 358 X341 hx (hb hby at_356) rfl rfl ?_
                refine Own.if_eq 375 361 X341 hx (hb hby at_358) (by decide) rfl (fun tk => absurd tk (by decide)) (fun tk => ?_)
                refine Own.aload 363 X341 hx (hb hby at_361) rfl rfl rfl ?_
                refine Own.callVt 366 0 p' [] [] X341 hx hZ hown (m5_3 l Z a0 w p' sl k224 v6_12 v7_18 v8_24 _ Ff_346 Vf_343) Ef_345 (notFace_of_selects (args := #[]) (mvT hZ (w 41 rfl))) (w 38 rfl) (w 39 rfl) (w 41 rfl) (w 40 rfl) (w 10 rfl) (w 42 rfl) (by decide) e341 (by decide) (by decide) (by decide) (by decide) (by rw [hml]; rfl) (lenOf pd_3 rfl) rfl (Nat.le_of_eq rfl) (hb hby at_363) rfl ?_
                rintro vv T351 L351 X351 ⟨rfl, hh351, rfl⟩
                have N351 := Fr.app N341 (Fr.nil _)
                refine Own.iload 368 X351 hx (hb hby at_366) rfl rfl ?_
                refine Own.icmp_ne 375 371 X351 hx (hb hby at_368) (by decide) rfl (fun tk => absurd tk (by decide)) (fun tk => ?_)
                refine Own.iconst 372 X351 hx ((1 : Int32)) (hb hby at_371) rfl rfl ?_
                refine Own.goto 376 X351 hx (hb hby at_372) (by decide) ?_
                refine Own.retBool X351 hx hlk hret (hb hby at_376) (by decide) (by decide) ?_
                exact ⟨⟨rfl, N351⟩, by rw [hh351]; exact zk341⟩
      ·
        subst e2
        refine Own.iconst 72 X4 hx ((2 : Int32)) (hb hby at_71) rfl rfl ?_
        refine Own.newArr 74 2 X4 hx hZ (w 5 rfl) hh4 (by decide) (by decide) (by decide) (hb hby at_72) rfl (by decide) (by decide) ?_
        intro T352 h352 sl k352 z352 X352 e352 E352 A352
        have g_sl : n0 ≤ sl := Nat.le_trans Z0 (Nat.le_of_eq z352.symm)
        have zl352 := Nat.le_trans Z0 E352.1
        have V352 : Arv Z h352 sl k352 .int (2 : Int32) [(.int (0 : Int32)), (.int (0 : Int32))] (.int (0 : Int32)) := A352
        refine Own.dup 75 X352 hx (hb hby at_74) rfl rfl ?_
        refine Own.iconst 76 X352 hx ((0 : Int32)) (hb hby at_75) rfl rfl ?_
        refine Own.iload 78 X352 hx (hb hby at_76) rfl rfl ?_
        refine Own.iastore 79 X352 hx hZ e352 V352 (by decide) (Nat.le_of_ble_eq_true rfl) (hb hby at_78) rfl ?_
        intro T354 h354 X354 e354 W354 A354
        have N354 := Fr.snoc X354 N4 g_sl
        have zl354 := Nat.le_trans zl352 (Nat.le_of_eq W354.size.symm)
        have V354 : Arv Z h354 sl k352 .int (2 : Int32) [(.int v6_12), (.int (0 : Int32))] (.int (0 : Int32)) := A354
        refine Own.dup 80 X354 hx (hb hby at_79) rfl rfl ?_
        refine Own.iconst 81 X354 hx ((1 : Int32)) (hb hby at_80) rfl rfl ?_
        refine Own.iload 83 X354 hx (hb hby at_81) rfl rfl ?_
        refine Own.iastore 84 X354 hx hZ e354 V354 (by decide) (Nat.le_of_ble_eq_true rfl) (hb hby at_83) rfl ?_
        intro T357 h357 X357 e357 W357 A357
        have N357 := Fr.snoc X357 N354 g_sl
        have zl357 := Nat.le_trans zl354 (Nat.le_of_eq W357.size.symm)
        have V357 : Arv Z h357 sl k352 .int (2 : Int32) [(.int v6_12), (.int v7_18)] (.int (0 : Int32)) := A357
        refine Own.astore 86 #[.val (.int x0), .val (.int x1), .val (.int x2), .val (.int x3), .val (.int x4), .val (.int (2 : Int32)), .val (.int v6_12), .val (.int v7_18), .val (.int v8_24), .val (.int v9_31), .val (.ref sl), .unset, .unset, .unset, .unset, .unset, .unset] X357 hx (hb hby at_84) rfl rfl rfl ?_
        refine Own.goto 143 X357 hx (hb hby at_86) (by decide) ?_
        refine Own.aload 145 X357 hx (hb hby at_143) rfl rfl rfl ?_
        refine Own.arrLen 146 X357 hx hZ e357 V357 (hb hby at_145) rfl ?_
        refine Own.newRefArr 149 2 X357 hx hZ hown (w 6 rfl) (w 7 rfl) e357 (by decide) (by decide) (by decide) (hb hby at_146) rfl (by decide) (by decide) ?_
        intro T360 h360 cn k360 z360 X360 e360 E360 A360 Ov360
        have ne_sl_cn : sl ≠ cn := Nat.ne_of_lt (Nat.lt_of_lt_of_le V357.lt (Nat.le_of_eq z360.symm))
        have g_cn : n0 ≤ cn := Nat.le_trans zl357 (Nat.le_of_eq z360.symm)
        have Vf_362 := V357.ext E360
        have zl360 := Nat.le_trans zl357 E360.1
        have V360 : Arv Z h360 cn k360 (.object "java/lang/String") (2 : Int32) [.null, .null] .null := A360
        refine Own.astore 151 #[.val (.int x0), .val (.int x1), .val (.int x2), .val (.int x3), .val (.int x4), .val (.int (2 : Int32)), .val (.int v6_12), .val (.int v7_18), .val (.int v8_24), .val (.int v9_31), .val (.ref sl), .val (.ref cn), .unset, .unset, .unset, .unset, .unset] X360 hx (hb hby at_149) rfl rfl rfl ?_
        refine Own.newObj 154 X360 hx hZ hown (w 8 rfl) (w 9 rfl) (w 10 rfl) e360 (hb hby at_151) rfl (by decide) (by decide) ?_
        intro T363 h363 p' z363 X363 e363 E363 A363 D363
        have ne_cn_p' : cn ≠ p' := Nat.ne_of_lt (Nat.lt_of_lt_of_le V360.lt (Nat.le_of_eq z363.symm))
        have ne_sl_p' : sl ≠ p' := Nat.ne_of_lt (Nat.lt_of_lt_of_le Vf_362.lt (Nat.le_of_eq z363.symm))
        have g_p' : n0 ≤ p' := Nat.le_trans zl360 (Nat.le_of_eq z363.symm)
        have Vf_365 := Vf_362.ext E363
        have Vf_366 := V360.ext E363
        have zl363 := Nat.le_trans zl360 E363.1
        have F363_name : Fld Z h363 p' "com/example/skuld/skuld/htn/Pattern" "name" "Ljava/lang/String;" .null := D363 (Or.inr (w 26 rfl)) (ty := (.object "java/lang/String")) (by decide)
        have F363_constants : Fld Z h363 p' "com/example/skuld/skuld/htn/Pattern" "constants" "[Ljava/lang/String;" .null := D363 (Or.inr (w 28 rfl)) (ty := (.array (.object "java/lang/String"))) (by decide)
        have F363_slots : Fld Z h363 p' "com/example/skuld/skuld/htn/Pattern" "slots" "[I" .null := D363 (Or.inr (w 30 rfl)) (ty := (.array .int)) (by decide)
        have F363_line : Fld Z h363 p' "com/example/skuld/skuld/htn/Pattern" "line" "I" (.int (0 : Int32)) := D363 (Or.inr (w 32 rfl)) (ty := .int) (by decide)
        refine Own.dup 155 X363 hx (hb hby at_154) rfl rfl ?_
        refine Own.ldcStr 157 4 X363 hx hZ hown (w 11 rfl) hSA e363 (hb hby at_155) rfl (by decide) (by decide) (by decide) (by decide) ?_
        intro lt T367 h367 X367 e367 E367 hZ hown
        have Vf_369 := Vf_365.ext E367
        have Vf_370 := Vf_366.ext E367
        have Ef_371 := A363.ext E367
        have Ff_372 := F363_name.ext E367
        have Ff_373 := F363_constants.ext E367
        have Ff_374 := F363_slots.ext E367
        have Ff_375 := F363_line.ext E367
        have zl367 := Nat.le_trans zl363 E367.1
        have zk367 := Nat.le_refl h367.size
        refine Own.aload 159 X367 hx (hb hby at_157) rfl rfl rfl ?_
        refine Own.aload 161 X367 hx (hb hby at_159) rfl rfl rfl ?_
        refine Own.iconst 162 X367 hx ((0 : Int32)) (hb hby at_161) rfl rfl ?_
        refine Own.callInit 165 1 p' [(.ref lt), (.ref cn), (.ref sl), (.int (0 : Int32))] [(.ref p')] X367 hx hZ hown (m2 l Z a0 w p' lt cn sl _ _ _ _ _ n0 h367 zl367 Ef_371 Ff_372 Ff_373 Ff_374 Ff_375 g_p') rfl (w 19 rfl) (w 20 rfl) (w 10 rfl) (w 21 rfl) (by decide) e367 (by decide) (by decide) (by decide) (by decide) (by rw [hml]; rfl) (lenOf pd_1 rfl) rfl (Nat.le_of_eq rfl) (hb hby at_162) rfl ?_
        rintro vv T376 L376 X376 ⟨rfl, N376q, K376, Fs376⟩
        have N376 := Fr.app N357 N376q
        have Vf_378 := Vf_369.keep K376 (ninS ne_sl_p' nin0)
        have Vf_379 := Vf_370.keep K376 (ninS ne_cn_p' nin0)
        have Ef_380 := Ef_371.keep K376
        have zl376 := Nat.le_trans zl367 K376.1
        have zk376 := Nat.le_trans zk367 K376.1
        refine Own.astore 167 #[.val (.int x0), .val (.int x1), .val (.int x2), .val (.int x3), .val (.int x4), .val (.int (2 : Int32)), .val (.int v6_12), .val (.int v7_18), .val (.int v8_24), .val (.int v9_31), .val (.ref sl), .val (.ref cn), .val (.ref p'), .unset, .unset, .unset, .unset] X376 hx (hb hby at_165) rfl rfl rfl ?_
        refine Own.aload 169 X376 hx (hb hby at_167) rfl rfl rfl ?_
        refine Own.callVt 172 0 p' [] [] X376 hx hZ hown (m4_2 l Z a0 w p' sl k352 v6_12 v7_18 n0 _ zl376 Fs376 Vf_378) Ef_380 (notFace_of_selects (args := #[]) (mvT hZ (w 36 rfl))) (w 33 rfl) (w 34 rfl) (w 36 rfl) (w 35 rfl) (w 10 rfl) (w 37 rfl) (by decide) rfl (by decide) (by decide) (by decide) (by decide) (by rw [hml]; rfl) (lenOf pd_2 rfl) rfl (Nat.le_of_eq rfl) (hb hby at_169) rfl ?_
        rintro vv T385 L385 X385 ⟨r, kr, ys, rfl, N385q, K385, szr, g_r, hys, Vr⟩
        have ne_cn_r : cn ≠ r := Nat.ne_of_lt (Nat.lt_of_lt_of_le Vf_379.lt szr)
        have ne_p'_r : p' ≠ r := Nat.ne_of_lt (Nat.lt_of_lt_of_le Ef_380.lt szr)
        have ne_sl_r : sl ≠ r := Nat.ne_of_lt (Nat.lt_of_lt_of_le Vf_378.lt szr)
        have N385 := Fr.app N376 N385q
        have Vf_387 := Vf_378.keep K385 nin0
        have Vf_388 := Vf_379.keep K385 nin0
        have Ef_389 := Ef_380.keep K385
        have Ff_390 := Fs376.keep K385 nin0
        have zl385 := Nat.le_trans zl376 K385.1
        have zk385 := Nat.le_trans zk376 K385.1
        refine Own.astore 174 #[.val (.int x0), .val (.int x1), .val (.int x2), .val (.int x3), .val (.int x4), .val (.int (2 : Int32)), .val (.int v6_12), .val (.int v7_18), .val (.int v8_24), .val (.int v9_31), .val (.ref sl), .val (.ref cn), .val (.ref p'), .val (.ref r), .unset, .unset, .unset] X385 hx (hb hby at_172) rfl rfl rfl ?_
        refine Own.iconst 175 X385 hx ((4 : Int32)) (hb hby at_174) rfl rfl ?_
        refine Own.newArr 177 4 X385 hx hZ (w 5 rfl) rfl (by decide) (by decide) (by decide) (hb hby at_175) rfl (by decide) (by decide) ?_
        intro T391 h391 ex k391 z391 X391 e391 E391 A391
        have ne_cn_ex : cn ≠ ex := Nat.ne_of_lt (Nat.lt_of_lt_of_le Vf_388.lt (Nat.le_of_eq z391.symm))
        have ne_p'_ex : p' ≠ ex := Nat.ne_of_lt (Nat.lt_of_lt_of_le Ef_389.lt (Nat.le_of_eq z391.symm))
        have ne_r_ex : r ≠ ex := Nat.ne_of_lt (Nat.lt_of_lt_of_le Vr.lt (Nat.le_of_eq z391.symm))
        have ne_sl_ex : sl ≠ ex := Nat.ne_of_lt (Nat.lt_of_lt_of_le Vf_387.lt (Nat.le_of_eq z391.symm))
        have g_ex : n0 ≤ ex := Nat.le_trans zl385 (Nat.le_of_eq z391.symm)
        have Vf_393 := Vf_387.ext E391
        have Vf_394 := Vf_388.ext E391
        have Ef_395 := Ef_389.ext E391
        have Ff_396 := Ff_390.ext E391
        have Vf_397 := Vr.ext E391
        have zl391 := Nat.le_trans zl385 E391.1
        have zk391 := Nat.le_trans zk385 E391.1
        have V391 : Arv Z h391 ex k391 .int (4 : Int32) [(.int (0 : Int32)), (.int (0 : Int32)), (.int (0 : Int32)), (.int (0 : Int32))] (.int (0 : Int32)) := A391
        refine Own.astore 179 #[.val (.int x0), .val (.int x1), .val (.int x2), .val (.int x3), .val (.int x4), .val (.int (2 : Int32)), .val (.int v6_12), .val (.int v7_18), .val (.int v8_24), .val (.int v9_31), .val (.ref sl), .val (.ref cn), .val (.ref p'), .val (.ref r), .val (.ref ex), .unset, .unset] X391 hx (hb hby at_177) rfl rfl rfl ?_
        refine Own.iconst 180 X391 hx ((0 : Int32)) (hb hby at_179) rfl rfl ?_
        refine Own.istoreV 182 #[.val (.int x0), .val (.int x1), .val (.int x2), .val (.int x3), .val (.int x4), .val (.int (2 : Int32)), .val (.int v6_12), .val (.int v7_18), .val (.int v8_24), .val (.int v9_31), .val (.ref sl), .val (.ref cn), .val (.ref p'), .val (.ref r), .val (.ref ex), .val (.int (0 : Int32)), .unset] X391 hx (hb hby at_180) rfl rfl ?_
        refine Own.iload 184 X391 hx (hb hby at_182) rfl rfl ?_
        refine Own.iconst 185 X391 hx ((1 : Int32)) (hb hby at_184) rfl rfl ?_
        refine Own.icmp_lt 203 188 X391 hx (hb hby at_185) (by decide) rfl (fun tk => absurd tk (by decide)) (fun tk => ?_)
        refine Own.iload 190 X391 hx (hb hby at_188) rfl rfl ?_
        refine Own.if_lt 203 193 X391 hx (hb hby at_190) (by decide) rfl (fun q0 => ?_) (fun q0 => ?_)
        ·
          refine Own.iload 205 X391 hx (hb hby at_203) rfl rfl ?_
          refine Own.iconst 206 X391 hx ((2 : Int32)) (hb hby at_205) rfl rfl ?_
          refine Own.icmp_lt 224 209 X391 hx (hb hby at_206) (by decide) rfl (fun tk => absurd tk (by decide)) (fun tk => ?_)
          refine Own.iload 211 X391 hx (hb hby at_209) rfl rfl ?_
          refine Own.if_lt 224 214 X391 hx (hb hby at_211) (by decide) rfl (fun q1 => ?_) (fun q1 => ?_)
          ·
            refine Own.iload 226 X391 hx (hb hby at_224) rfl rfl ?_
            refine Own.iconst 227 X391 hx ((3 : Int32)) (hb hby at_226) rfl rfl ?_
            refine Own.icmp_lt 245 230 X391 hx (hb hby at_227) (by decide) rfl (fun tk => ?_) (fun tk => absurd tk (by decide))
            refine Own.iload 247 X391 hx (hb hby at_245) rfl rfl ?_
            refine Own.iconst 248 X391 hx ((4 : Int32)) (hb hby at_247) rfl rfl ?_
            refine Own.icmp_lt 266 251 X391 hx (hb hby at_248) (by decide) rfl (fun tk => ?_) (fun tk => absurd tk (by decide))
            refine Own.aload 268 X391 hx (hb hby at_266) rfl rfl rfl ?_
            have hys2 : ys = [] := by rw [hys, own_f, List.filter_cons_of_neg (p := fun x => decide (¬ x < 0)) (by rw [decide_eq_true_iff]; exact fun u => u q0), List.filter_cons_of_neg (p := fun x => decide (¬ x < 0)) (by rw [decide_eq_true_iff]; exact fun u => u q1), List.filter_nil]
            have Vr398 : Arv Z h391 r kr .int (0 : Int32) [] (.int (0 : Int32)) := by
              have Vq := Vf_397
              rw [hys2] at Vq
              exact Vq
            refine Own.ifnull 279 271 X391 hx (hb hby at_268) rfl (by decide) rfl (fun hh => nomatch hh) (fun _ _ => ?_)
            refine Own.aload 273 X391 hx (hb hby at_271) rfl rfl rfl ?_
            refine Own.arrLen 274 X391 hx hZ e391 Vr398 (hb hby at_273) rfl ?_
            refine Own.iload 276 X391 hx (hb hby at_274) rfl rfl ?_
            refine Own.icmp_eq 281 279 X391 hx (hb hby at_276) (by decide) rfl (fun tk => ?_) (fun tk => absurd tk (by decide))
            refine Own.iload 283 X391 hx (hb hby at_281) rfl rfl ?_
            refine Own.iconst 284 X391 hx ((1 : Int32)) (hb hby at_283) rfl rfl ?_
            refine Own.icmp_lt 298 287 X391 hx (hb hby at_284) (by decide) rfl (fun tk => ?_) (fun tk => absurd tk (by decide))
            refine Own.iload 300 X391 hx (hb hby at_298) rfl rfl ?_
            refine Own.iconst 301 X391 hx ((2 : Int32)) (hb hby at_300) rfl rfl ?_
            refine Own.icmp_lt 315 304 X391 hx (hb hby at_301) (by decide) rfl (fun tk => ?_) (fun tk => absurd tk (by decide))
            refine Own.iload 317 X391 hx (hb hby at_315) rfl rfl ?_
            refine Own.iconst 318 X391 hx ((3 : Int32)) (hb hby at_317) rfl rfl ?_
            refine Own.icmp_lt 332 321 X391 hx (hb hby at_318) (by decide) rfl (fun tk => ?_) (fun tk => absurd tk (by decide))
            refine Own.iload 334 X391 hx (hb hby at_332) rfl rfl ?_
            refine Own.iconst 335 X391 hx ((4 : Int32)) (hb hby at_334) rfl rfl ?_
            refine Own.icmp_lt 349 338 X391 hx (hb hby at_335) (by decide) rfl (fun tk => ?_) (fun tk => absurd tk (by decide))
            refine Own.iconst 350 X391 hx ((1 : Int32)) (hb hby at_349) rfl rfl ?_
            refine Own.goto 354 X391 hx (hb hby at_350) (by decide) ?_
            refine Own.istoreV 356 #[.val (.int x0), .val (.int x1), .val (.int x2), .val (.int x3), .val (.int x4), .val (.int (2 : Int32)), .val (.int v6_12), .val (.int v7_18), .val (.int v8_24), .val (.int v9_31), .val (.ref sl), .val (.ref cn), .val (.ref p'), .val (.ref r), .val (.ref ex), .val (.int (0 : Int32)), .val (.int (1 : Int32))] X391 hx (hb hby at_354) rfl rfl ?_
            refine Own.iload 358 X391 hx (hb hby at_356) rfl rfl ?_
            refine Own.if_eq 375 361 X391 hx (hb hby at_358) (by decide) rfl (fun tk => absurd tk (by decide)) (fun tk => ?_)
            refine Own.aload 363 X391 hx (hb hby at_361) rfl rfl rfl ?_
            refine Own.callVt 366 0 p' [] [] X391 hx hZ hown (m5_2 l Z a0 w p' sl k352 v6_12 v7_18 _ Ff_396 Vf_393) Ef_395 (notFace_of_selects (args := #[]) (mvT hZ (w 41 rfl))) (w 38 rfl) (w 39 rfl) (w 41 rfl) (w 40 rfl) (w 10 rfl) (w 42 rfl) (by decide) e391 (by decide) (by decide) (by decide) (by decide) (by rw [hml]; rfl) (lenOf pd_3 rfl) rfl (Nat.le_of_eq rfl) (hb hby at_363) rfl ?_
            rintro vv T399 L399 X399 ⟨rfl, hh399, rfl⟩
            have N399 := Fr.app N385 (Fr.nil _)
            refine Own.iload 368 X399 hx (hb hby at_366) rfl rfl ?_
            refine Own.icmp_ne 375 371 X399 hx (hb hby at_368) (by decide) rfl (fun tk => absurd tk (by decide)) (fun tk => ?_)
            refine Own.iconst 372 X399 hx ((1 : Int32)) (hb hby at_371) rfl rfl ?_
            refine Own.goto 376 X399 hx (hb hby at_372) (by decide) ?_
            refine Own.retBool X399 hx hlk hret (hb hby at_376) (by decide) (by decide) ?_
            exact ⟨⟨rfl, N399⟩, by rw [hh399]; exact zk391⟩
          ·
            refine Own.aload 216 X391 hx (hb hby at_214) rfl rfl rfl ?_
            refine Own.iload 218 X391 hx (hb hby at_216) rfl rfl ?_
            refine Own.iload 220 X391 hx (hb hby at_218) rfl rfl ?_
            refine Own.iastore 221 X391 hx hZ e391 V391 (by decide) (Nat.le_of_ble_eq_true rfl) (hb hby at_220) rfl ?_
            intro T400 h400 X400 e400 W400 A400
            have N400 := Fr.snoc X400 N385 g_ex
            have Vf_402 := Vf_393.other W400 ne_sl_ex
            have Vf_403 := Vf_394.other W400 ne_cn_ex
            have Ef_404 := Ef_395.wr W400
            have Ff_405 := Ff_396.other W400 (Or.inl ne_p'_ex)
            have Vf_406 := Vf_397.other W400 ne_r_ex
            have zl400 := Nat.le_trans zl391 (Nat.le_of_eq W400.size.symm)
            have zk400 := Nat.le_trans zk391 (Nat.le_of_eq W400.size.symm)
            have V400 : Arv Z h400 ex k391 .int (4 : Int32) [(.int v7_18), (.int (0 : Int32)), (.int (0 : Int32)), (.int (0 : Int32))] (.int (0 : Int32)) := A400
            refine Own.iinc 224 (fun c_408 => #[.val (.int x0), .val (.int x1), .val (.int x2), .val (.int x3), .val (.int x4), .val (.int (2 : Int32)), .val (.int v6_12), .val (.int v7_18), .val (.int v8_24), .val (.int v9_31), .val (.ref sl), .val (.ref cn), .val (.ref p'), .val (.ref r), .val (.ref ex), .val (.int c_408), .unset]) X400 hx ((1 : Int32)) (hb hby at_221) rfl rfl rfl (fun _ => rfl) fun c_408 hc_408 => ?_
            obtain rfl : c_408 = (1 : Int32) := hc_408.trans (by decide)
            refine Own.iload 226 X400 hx (hb hby at_224) rfl rfl ?_
            refine Own.iconst 227 X400 hx ((3 : Int32)) (hb hby at_226) rfl rfl ?_
            refine Own.icmp_lt 245 230 X400 hx (hb hby at_227) (by decide) rfl (fun tk => ?_) (fun tk => absurd tk (by decide))
            refine Own.iload 247 X400 hx (hb hby at_245) rfl rfl ?_
            refine Own.iconst 248 X400 hx ((4 : Int32)) (hb hby at_247) rfl rfl ?_
            refine Own.icmp_lt 266 251 X400 hx (hb hby at_248) (by decide) rfl (fun tk => ?_) (fun tk => absurd tk (by decide))
            refine Own.aload 268 X400 hx (hb hby at_266) rfl rfl rfl ?_
            have hys2 : ys = [v7_18] := by rw [hys, own_f, List.filter_cons_of_neg (p := fun x => decide (¬ x < 0)) (by rw [decide_eq_true_iff]; exact fun u => u q0), List.filter_cons_of_pos (p := fun x => decide (¬ x < 0)) (decide_eq_true q1), List.filter_nil]
            have Vr409 : Arv Z h400 r kr .int (1 : Int32) [(.int v7_18)] (.int (0 : Int32)) := by
              have Vq := Vf_406
              rw [hys2] at Vq
              exact Vq
            refine Own.ifnull 279 271 X400 hx (hb hby at_268) rfl (by decide) rfl (fun hh => nomatch hh) (fun _ _ => ?_)
            refine Own.aload 273 X400 hx (hb hby at_271) rfl rfl rfl ?_
            refine Own.arrLen 274 X400 hx hZ e400 Vr409 (hb hby at_273) rfl ?_
            refine Own.iload 276 X400 hx (hb hby at_274) rfl rfl ?_
            refine Own.icmp_eq 281 279 X400 hx (hb hby at_276) (by decide) rfl (fun tk => ?_) (fun tk => absurd tk (by decide))
            refine Own.iload 283 X400 hx (hb hby at_281) rfl rfl ?_
            refine Own.iconst 284 X400 hx ((1 : Int32)) (hb hby at_283) rfl rfl ?_
            refine Own.icmp_lt 298 287 X400 hx (hb hby at_284) (by decide) rfl (fun tk => absurd tk (by decide)) (fun tk => ?_)
            refine Own.aload 289 X400 hx (hb hby at_287) rfl rfl rfl ?_
            refine Own.iconst 290 X400 hx ((0 : Int32)) (hb hby at_289) rfl rfl ?_
            refine Own.iaload 291 X400 hx hZ e400 (v7_18) Vr409 (by decide) rfl (hb hby at_290) rfl ?_
            refine Own.aload 293 X400 hx (hb hby at_291) rfl rfl rfl ?_
            refine Own.iconst 294 X400 hx ((0 : Int32)) (hb hby at_293) rfl rfl ?_
            refine Own.iaload 295 X400 hx hZ e400 (v7_18) V400 (by decide) rfl (hb hby at_294) rfl ?_
            refine Own.icmp_ne 353 298 X400 hx (hb hby at_295) (by decide) rfl (fun tk => absurd rfl tk) (fun tk => ?_)
            refine Own.iload 300 X400 hx (hb hby at_298) rfl rfl ?_
            refine Own.iconst 301 X400 hx ((2 : Int32)) (hb hby at_300) rfl rfl ?_
            refine Own.icmp_lt 315 304 X400 hx (hb hby at_301) (by decide) rfl (fun tk => ?_) (fun tk => absurd tk (by decide))
            refine Own.iload 317 X400 hx (hb hby at_315) rfl rfl ?_
            refine Own.iconst 318 X400 hx ((3 : Int32)) (hb hby at_317) rfl rfl ?_
            refine Own.icmp_lt 332 321 X400 hx (hb hby at_318) (by decide) rfl (fun tk => ?_) (fun tk => absurd tk (by decide))
            refine Own.iload 334 X400 hx (hb hby at_332) rfl rfl ?_
            refine Own.iconst 335 X400 hx ((4 : Int32)) (hb hby at_334) rfl rfl ?_
            refine Own.icmp_lt 349 338 X400 hx (hb hby at_335) (by decide) rfl (fun tk => ?_) (fun tk => absurd tk (by decide))
            refine Own.iconst 350 X400 hx ((1 : Int32)) (hb hby at_349) rfl rfl ?_
            refine Own.goto 354 X400 hx (hb hby at_350) (by decide) ?_
            refine Own.istoreV 356 #[.val (.int x0), .val (.int x1), .val (.int x2), .val (.int x3), .val (.int x4), .val (.int (2 : Int32)), .val (.int v6_12), .val (.int v7_18), .val (.int v8_24), .val (.int v9_31), .val (.ref sl), .val (.ref cn), .val (.ref p'), .val (.ref r), .val (.ref ex), .val (.int (1 : Int32)), .val (.int (1 : Int32))] X400 hx (hb hby at_354) rfl rfl ?_
            refine Own.iload 358 X400 hx (hb hby at_356) rfl rfl ?_
            refine Own.if_eq 375 361 X400 hx (hb hby at_358) (by decide) rfl (fun tk => absurd tk (by decide)) (fun tk => ?_)
            refine Own.aload 363 X400 hx (hb hby at_361) rfl rfl rfl ?_
            refine Own.callVt 366 0 p' [] [] X400 hx hZ hown (m5_2 l Z a0 w p' sl k352 v6_12 v7_18 _ Ff_405 Vf_402) Ef_404 (notFace_of_selects (args := #[]) (mvT hZ (w 41 rfl))) (w 38 rfl) (w 39 rfl) (w 41 rfl) (w 40 rfl) (w 10 rfl) (w 42 rfl) (by decide) e400 (by decide) (by decide) (by decide) (by decide) (by rw [hml]; rfl) (lenOf pd_3 rfl) rfl (Nat.le_of_eq rfl) (hb hby at_363) rfl ?_
            rintro vv T410 L410 X410 ⟨rfl, hh410, rfl⟩
            have N410 := Fr.app N400 (Fr.nil _)
            refine Own.iload 368 X410 hx (hb hby at_366) rfl rfl ?_
            refine Own.icmp_ne 375 371 X410 hx (hb hby at_368) (by decide) rfl (fun tk => absurd tk (by decide)) (fun tk => ?_)
            refine Own.iconst 372 X410 hx ((1 : Int32)) (hb hby at_371) rfl rfl ?_
            refine Own.goto 376 X410 hx (hb hby at_372) (by decide) ?_
            refine Own.retBool X410 hx hlk hret (hb hby at_376) (by decide) (by decide) ?_
            exact ⟨⟨rfl, N410⟩, by rw [hh410]; exact zk400⟩
        ·
          refine Own.aload 195 X391 hx (hb hby at_193) rfl rfl rfl ?_
          refine Own.iload 197 X391 hx (hb hby at_195) rfl rfl ?_
          refine Own.iload 199 X391 hx (hb hby at_197) rfl rfl ?_
          refine Own.iastore 200 X391 hx hZ e391 V391 (by decide) (Nat.le_of_ble_eq_true rfl) (hb hby at_199) rfl ?_
          intro T411 h411 X411 e411 W411 A411
          have N411 := Fr.snoc X411 N385 g_ex
          have Vf_413 := Vf_393.other W411 ne_sl_ex
          have Vf_414 := Vf_394.other W411 ne_cn_ex
          have Ef_415 := Ef_395.wr W411
          have Ff_416 := Ff_396.other W411 (Or.inl ne_p'_ex)
          have Vf_417 := Vf_397.other W411 ne_r_ex
          have zl411 := Nat.le_trans zl391 (Nat.le_of_eq W411.size.symm)
          have zk411 := Nat.le_trans zk391 (Nat.le_of_eq W411.size.symm)
          have V411 : Arv Z h411 ex k391 .int (4 : Int32) [(.int v6_12), (.int (0 : Int32)), (.int (0 : Int32)), (.int (0 : Int32))] (.int (0 : Int32)) := A411
          refine Own.iinc 203 (fun c_419 => #[.val (.int x0), .val (.int x1), .val (.int x2), .val (.int x3), .val (.int x4), .val (.int (2 : Int32)), .val (.int v6_12), .val (.int v7_18), .val (.int v8_24), .val (.int v9_31), .val (.ref sl), .val (.ref cn), .val (.ref p'), .val (.ref r), .val (.ref ex), .val (.int c_419), .unset]) X411 hx ((1 : Int32)) (hb hby at_200) rfl rfl rfl (fun _ => rfl) fun c_419 hc_419 => ?_
          obtain rfl : c_419 = (1 : Int32) := hc_419.trans (by decide)
          refine Own.iload 205 X411 hx (hb hby at_203) rfl rfl ?_
          refine Own.iconst 206 X411 hx ((2 : Int32)) (hb hby at_205) rfl rfl ?_
          refine Own.icmp_lt 224 209 X411 hx (hb hby at_206) (by decide) rfl (fun tk => absurd tk (by decide)) (fun tk => ?_)
          refine Own.iload 211 X411 hx (hb hby at_209) rfl rfl ?_
          refine Own.if_lt 224 214 X411 hx (hb hby at_211) (by decide) rfl (fun q1 => ?_) (fun q1 => ?_)
          ·
            refine Own.iload 226 X411 hx (hb hby at_224) rfl rfl ?_
            refine Own.iconst 227 X411 hx ((3 : Int32)) (hb hby at_226) rfl rfl ?_
            refine Own.icmp_lt 245 230 X411 hx (hb hby at_227) (by decide) rfl (fun tk => ?_) (fun tk => absurd tk (by decide))
            refine Own.iload 247 X411 hx (hb hby at_245) rfl rfl ?_
            refine Own.iconst 248 X411 hx ((4 : Int32)) (hb hby at_247) rfl rfl ?_
            refine Own.icmp_lt 266 251 X411 hx (hb hby at_248) (by decide) rfl (fun tk => ?_) (fun tk => absurd tk (by decide))
            refine Own.aload 268 X411 hx (hb hby at_266) rfl rfl rfl ?_
            have hys2 : ys = [v6_12] := by rw [hys, own_f, List.filter_cons_of_pos (p := fun x => decide (¬ x < 0)) (decide_eq_true q0), List.filter_cons_of_neg (p := fun x => decide (¬ x < 0)) (by rw [decide_eq_true_iff]; exact fun u => u q1), List.filter_nil]
            have Vr420 : Arv Z h411 r kr .int (1 : Int32) [(.int v6_12)] (.int (0 : Int32)) := by
              have Vq := Vf_417
              rw [hys2] at Vq
              exact Vq
            refine Own.ifnull 279 271 X411 hx (hb hby at_268) rfl (by decide) rfl (fun hh => nomatch hh) (fun _ _ => ?_)
            refine Own.aload 273 X411 hx (hb hby at_271) rfl rfl rfl ?_
            refine Own.arrLen 274 X411 hx hZ e411 Vr420 (hb hby at_273) rfl ?_
            refine Own.iload 276 X411 hx (hb hby at_274) rfl rfl ?_
            refine Own.icmp_eq 281 279 X411 hx (hb hby at_276) (by decide) rfl (fun tk => ?_) (fun tk => absurd tk (by decide))
            refine Own.iload 283 X411 hx (hb hby at_281) rfl rfl ?_
            refine Own.iconst 284 X411 hx ((1 : Int32)) (hb hby at_283) rfl rfl ?_
            refine Own.icmp_lt 298 287 X411 hx (hb hby at_284) (by decide) rfl (fun tk => absurd tk (by decide)) (fun tk => ?_)
            refine Own.aload 289 X411 hx (hb hby at_287) rfl rfl rfl ?_
            refine Own.iconst 290 X411 hx ((0 : Int32)) (hb hby at_289) rfl rfl ?_
            refine Own.iaload 291 X411 hx hZ e411 (v6_12) Vr420 (by decide) rfl (hb hby at_290) rfl ?_
            refine Own.aload 293 X411 hx (hb hby at_291) rfl rfl rfl ?_
            refine Own.iconst 294 X411 hx ((0 : Int32)) (hb hby at_293) rfl rfl ?_
            refine Own.iaload 295 X411 hx hZ e411 (v6_12) V411 (by decide) rfl (hb hby at_294) rfl ?_
            refine Own.icmp_ne 353 298 X411 hx (hb hby at_295) (by decide) rfl (fun tk => absurd rfl tk) (fun tk => ?_)
            refine Own.iload 300 X411 hx (hb hby at_298) rfl rfl ?_
            refine Own.iconst 301 X411 hx ((2 : Int32)) (hb hby at_300) rfl rfl ?_
            refine Own.icmp_lt 315 304 X411 hx (hb hby at_301) (by decide) rfl (fun tk => ?_) (fun tk => absurd tk (by decide))
            refine Own.iload 317 X411 hx (hb hby at_315) rfl rfl ?_
            refine Own.iconst 318 X411 hx ((3 : Int32)) (hb hby at_317) rfl rfl ?_
            refine Own.icmp_lt 332 321 X411 hx (hb hby at_318) (by decide) rfl (fun tk => ?_) (fun tk => absurd tk (by decide))
            refine Own.iload 334 X411 hx (hb hby at_332) rfl rfl ?_
            refine Own.iconst 335 X411 hx ((4 : Int32)) (hb hby at_334) rfl rfl ?_
            refine Own.icmp_lt 349 338 X411 hx (hb hby at_335) (by decide) rfl (fun tk => ?_) (fun tk => absurd tk (by decide))
            refine Own.iconst 350 X411 hx ((1 : Int32)) (hb hby at_349) rfl rfl ?_
            refine Own.goto 354 X411 hx (hb hby at_350) (by decide) ?_
            refine Own.istoreV 356 #[.val (.int x0), .val (.int x1), .val (.int x2), .val (.int x3), .val (.int x4), .val (.int (2 : Int32)), .val (.int v6_12), .val (.int v7_18), .val (.int v8_24), .val (.int v9_31), .val (.ref sl), .val (.ref cn), .val (.ref p'), .val (.ref r), .val (.ref ex), .val (.int (1 : Int32)), .val (.int (1 : Int32))] X411 hx (hb hby at_354) rfl rfl ?_
            refine Own.iload 358 X411 hx (hb hby at_356) rfl rfl ?_
            refine Own.if_eq 375 361 X411 hx (hb hby at_358) (by decide) rfl (fun tk => absurd tk (by decide)) (fun tk => ?_)
            refine Own.aload 363 X411 hx (hb hby at_361) rfl rfl rfl ?_
            refine Own.callVt 366 0 p' [] [] X411 hx hZ hown (m5_2 l Z a0 w p' sl k352 v6_12 v7_18 _ Ff_416 Vf_413) Ef_415 (notFace_of_selects (args := #[]) (mvT hZ (w 41 rfl))) (w 38 rfl) (w 39 rfl) (w 41 rfl) (w 40 rfl) (w 10 rfl) (w 42 rfl) (by decide) e411 (by decide) (by decide) (by decide) (by decide) (by rw [hml]; rfl) (lenOf pd_3 rfl) rfl (Nat.le_of_eq rfl) (hb hby at_363) rfl ?_
            rintro vv T421 L421 X421 ⟨rfl, hh421, rfl⟩
            have N421 := Fr.app N411 (Fr.nil _)
            refine Own.iload 368 X421 hx (hb hby at_366) rfl rfl ?_
            refine Own.icmp_ne 375 371 X421 hx (hb hby at_368) (by decide) rfl (fun tk => absurd tk (by decide)) (fun tk => ?_)
            refine Own.iconst 372 X421 hx ((1 : Int32)) (hb hby at_371) rfl rfl ?_
            refine Own.goto 376 X421 hx (hb hby at_372) (by decide) ?_
            refine Own.retBool X421 hx hlk hret (hb hby at_376) (by decide) (by decide) ?_
            exact ⟨⟨rfl, N421⟩, by rw [hh421]; exact zk411⟩
          ·
            refine Own.aload 216 X411 hx (hb hby at_214) rfl rfl rfl ?_
            refine Own.iload 218 X411 hx (hb hby at_216) rfl rfl ?_
            refine Own.iload 220 X411 hx (hb hby at_218) rfl rfl ?_
            refine Own.iastore 221 X411 hx hZ e411 V411 (by decide) (Nat.le_of_ble_eq_true rfl) (hb hby at_220) rfl ?_
            intro T422 h422 X422 e422 W422 A422
            have N422 := Fr.snoc X422 N411 g_ex
            have Vf_424 := Vf_413.other W422 ne_sl_ex
            have Vf_425 := Vf_414.other W422 ne_cn_ex
            have Ef_426 := Ef_415.wr W422
            have Ff_427 := Ff_416.other W422 (Or.inl ne_p'_ex)
            have Vf_428 := Vf_417.other W422 ne_r_ex
            have zl422 := Nat.le_trans zl411 (Nat.le_of_eq W422.size.symm)
            have zk422 := Nat.le_trans zk411 (Nat.le_of_eq W422.size.symm)
            have V422 : Arv Z h422 ex k391 .int (4 : Int32) [(.int v6_12), (.int v7_18), (.int (0 : Int32)), (.int (0 : Int32))] (.int (0 : Int32)) := A422
            refine Own.iinc 224 (fun c_430 => #[.val (.int x0), .val (.int x1), .val (.int x2), .val (.int x3), .val (.int x4), .val (.int (2 : Int32)), .val (.int v6_12), .val (.int v7_18), .val (.int v8_24), .val (.int v9_31), .val (.ref sl), .val (.ref cn), .val (.ref p'), .val (.ref r), .val (.ref ex), .val (.int c_430), .unset]) X422 hx ((1 : Int32)) (hb hby at_221) rfl rfl rfl (fun _ => rfl) fun c_430 hc_430 => ?_
            obtain rfl : c_430 = (2 : Int32) := hc_430.trans (by decide)
            refine Own.iload 226 X422 hx (hb hby at_224) rfl rfl ?_
            refine Own.iconst 227 X422 hx ((3 : Int32)) (hb hby at_226) rfl rfl ?_
            refine Own.icmp_lt 245 230 X422 hx (hb hby at_227) (by decide) rfl (fun tk => ?_) (fun tk => absurd tk (by decide))
            refine Own.iload 247 X422 hx (hb hby at_245) rfl rfl ?_
            refine Own.iconst 248 X422 hx ((4 : Int32)) (hb hby at_247) rfl rfl ?_
            refine Own.icmp_lt 266 251 X422 hx (hb hby at_248) (by decide) rfl (fun tk => ?_) (fun tk => absurd tk (by decide))
            refine Own.aload 268 X422 hx (hb hby at_266) rfl rfl rfl ?_
            have hys2 : ys = [v6_12, v7_18] := by rw [hys, own_f, List.filter_cons_of_pos (p := fun x => decide (¬ x < 0)) (decide_eq_true q0), List.filter_cons_of_pos (p := fun x => decide (¬ x < 0)) (decide_eq_true q1), List.filter_nil]
            have Vr431 : Arv Z h422 r kr .int (2 : Int32) [(.int v6_12), (.int v7_18)] (.int (0 : Int32)) := by
              have Vq := Vf_428
              rw [hys2] at Vq
              exact Vq
            refine Own.ifnull 279 271 X422 hx (hb hby at_268) rfl (by decide) rfl (fun hh => nomatch hh) (fun _ _ => ?_)
            refine Own.aload 273 X422 hx (hb hby at_271) rfl rfl rfl ?_
            refine Own.arrLen 274 X422 hx hZ e422 Vr431 (hb hby at_273) rfl ?_
            refine Own.iload 276 X422 hx (hb hby at_274) rfl rfl ?_
            refine Own.icmp_eq 281 279 X422 hx (hb hby at_276) (by decide) rfl (fun tk => ?_) (fun tk => absurd tk (by decide))
            refine Own.iload 283 X422 hx (hb hby at_281) rfl rfl ?_
            refine Own.iconst 284 X422 hx ((1 : Int32)) (hb hby at_283) rfl rfl ?_
            refine Own.icmp_lt 298 287 X422 hx (hb hby at_284) (by decide) rfl (fun tk => absurd tk (by decide)) (fun tk => ?_)
            refine Own.aload 289 X422 hx (hb hby at_287) rfl rfl rfl ?_
            refine Own.iconst 290 X422 hx ((0 : Int32)) (hb hby at_289) rfl rfl ?_
            refine Own.iaload 291 X422 hx hZ e422 (v6_12) Vr431 (by decide) rfl (hb hby at_290) rfl ?_
            refine Own.aload 293 X422 hx (hb hby at_291) rfl rfl rfl ?_
            refine Own.iconst 294 X422 hx ((0 : Int32)) (hb hby at_293) rfl rfl ?_
            refine Own.iaload 295 X422 hx hZ e422 (v6_12) V422 (by decide) rfl (hb hby at_294) rfl ?_
            refine Own.icmp_ne 353 298 X422 hx (hb hby at_295) (by decide) rfl (fun tk => absurd rfl tk) (fun tk => ?_)
            refine Own.iload 300 X422 hx (hb hby at_298) rfl rfl ?_
            refine Own.iconst 301 X422 hx ((2 : Int32)) (hb hby at_300) rfl rfl ?_
            refine Own.icmp_lt 315 304 X422 hx (hb hby at_301) (by decide) rfl (fun tk => absurd tk (by decide)) (fun tk => ?_)
            refine Own.aload 306 X422 hx (hb hby at_304) rfl rfl rfl ?_
            refine Own.iconst 307 X422 hx ((1 : Int32)) (hb hby at_306) rfl rfl ?_
            refine Own.iaload 308 X422 hx hZ e422 (v7_18) Vr431 (by decide) rfl (hb hby at_307) rfl ?_
            refine Own.aload 310 X422 hx (hb hby at_308) rfl rfl rfl ?_
            refine Own.iconst 311 X422 hx ((1 : Int32)) (hb hby at_310) rfl rfl ?_
            refine Own.iaload 312 X422 hx hZ e422 (v7_18) V422 (by decide) rfl (hb hby at_311) rfl ?_
            refine Own.icmp_ne 353 315 X422 hx (hb hby at_312) (by decide) rfl (fun tk => absurd rfl tk) (fun tk => ?_)
            refine Own.iload 317 X422 hx (hb hby at_315) rfl rfl ?_
            refine Own.iconst 318 X422 hx ((3 : Int32)) (hb hby at_317) rfl rfl ?_
            refine Own.icmp_lt 332 321 X422 hx (hb hby at_318) (by decide) rfl (fun tk => ?_) (fun tk => absurd tk (by decide))
            refine Own.iload 334 X422 hx (hb hby at_332) rfl rfl ?_
            refine Own.iconst 335 X422 hx ((4 : Int32)) (hb hby at_334) rfl rfl ?_
            refine Own.icmp_lt 349 338 X422 hx (hb hby at_335) (by decide) rfl (fun tk => ?_) (fun tk => absurd tk (by decide))
            refine Own.iconst 350 X422 hx ((1 : Int32)) (hb hby at_349) rfl rfl ?_
            refine Own.goto 354 X422 hx (hb hby at_350) (by decide) ?_
            refine Own.istoreV 356 #[.val (.int x0), .val (.int x1), .val (.int x2), .val (.int x3), .val (.int x4), .val (.int (2 : Int32)), .val (.int v6_12), .val (.int v7_18), .val (.int v8_24), .val (.int v9_31), .val (.ref sl), .val (.ref cn), .val (.ref p'), .val (.ref r), .val (.ref ex), .val (.int (2 : Int32)), .val (.int (1 : Int32))] X422 hx (hb hby at_354) rfl rfl ?_
            refine Own.iload 358 X422 hx (hb hby at_356) rfl rfl ?_
            refine Own.if_eq 375 361 X422 hx (hb hby at_358) (by decide) rfl (fun tk => absurd tk (by decide)) (fun tk => ?_)
            refine Own.aload 363 X422 hx (hb hby at_361) rfl rfl rfl ?_
            refine Own.callVt 366 0 p' [] [] X422 hx hZ hown (m5_2 l Z a0 w p' sl k352 v6_12 v7_18 _ Ff_427 Vf_424) Ef_426 (notFace_of_selects (args := #[]) (mvT hZ (w 41 rfl))) (w 38 rfl) (w 39 rfl) (w 41 rfl) (w 40 rfl) (w 10 rfl) (w 42 rfl) (by decide) e422 (by decide) (by decide) (by decide) (by decide) (by rw [hml]; rfl) (lenOf pd_3 rfl) rfl (Nat.le_of_eq rfl) (hb hby at_363) rfl ?_
            rintro vv T432 L432 X432 ⟨rfl, hh432, rfl⟩
            have N432 := Fr.app N422 (Fr.nil _)
            refine Own.iload 368 X432 hx (hb hby at_366) rfl rfl ?_
            refine Own.icmp_ne 375 371 X432 hx (hb hby at_368) (by decide) rfl (fun tk => absurd tk (by decide)) (fun tk => ?_)
            refine Own.iconst 372 X432 hx ((1 : Int32)) (hb hby at_371) rfl rfl ?_
            refine Own.goto 376 X432 hx (hb hby at_372) (by decide) ?_
            refine Own.retBool X432 hx hlk hret (hb hby at_376) (by decide) (by decide) ?_
            exact ⟨⟨rfl, N432⟩, by rw [hh432]; exact zk422⟩
    ·
      subst e1
      refine Own.iconst 53 X4 hx ((1 : Int32)) (hb hby at_52) rfl rfl ?_
      refine Own.newArr 55 1 X4 hx hZ (w 5 rfl) hh4 (by decide) (by decide) (by decide) (hb hby at_53) rfl (by decide) (by decide) ?_
      intro T433 h433 sl k433 z433 X433 e433 E433 A433
      have g_sl : n0 ≤ sl := Nat.le_trans Z0 (Nat.le_of_eq z433.symm)
      have zl433 := Nat.le_trans Z0 E433.1
      have V433 : Arv Z h433 sl k433 .int (1 : Int32) [(.int (0 : Int32))] (.int (0 : Int32)) := A433
      refine Own.dup 56 X433 hx (hb hby at_55) rfl rfl ?_
      refine Own.iconst 57 X433 hx ((0 : Int32)) (hb hby at_56) rfl rfl ?_
      refine Own.iload 59 X433 hx (hb hby at_57) rfl rfl ?_
      refine Own.iastore 60 X433 hx hZ e433 V433 (by decide) (Nat.le_of_ble_eq_true rfl) (hb hby at_59) rfl ?_
      intro T435 h435 X435 e435 W435 A435
      have N435 := Fr.snoc X435 N4 g_sl
      have zl435 := Nat.le_trans zl433 (Nat.le_of_eq W435.size.symm)
      have V435 : Arv Z h435 sl k433 .int (1 : Int32) [(.int v6_12)] (.int (0 : Int32)) := A435
      refine Own.astore 62 #[.val (.int x0), .val (.int x1), .val (.int x2), .val (.int x3), .val (.int x4), .val (.int (1 : Int32)), .val (.int v6_12), .val (.int v7_18), .val (.int v8_24), .val (.int v9_31), .val (.ref sl), .unset, .unset, .unset, .unset, .unset, .unset] X435 hx (hb hby at_60) rfl rfl rfl ?_
      refine Own.goto 143 X435 hx (hb hby at_62) (by decide) ?_
      refine Own.aload 145 X435 hx (hb hby at_143) rfl rfl rfl ?_
      refine Own.arrLen 146 X435 hx hZ e435 V435 (hb hby at_145) rfl ?_
      refine Own.newRefArr 149 1 X435 hx hZ hown (w 6 rfl) (w 7 rfl) e435 (by decide) (by decide) (by decide) (hb hby at_146) rfl (by decide) (by decide) ?_
      intro T438 h438 cn k438 z438 X438 e438 E438 A438 Ov438
      have ne_sl_cn : sl ≠ cn := Nat.ne_of_lt (Nat.lt_of_lt_of_le V435.lt (Nat.le_of_eq z438.symm))
      have g_cn : n0 ≤ cn := Nat.le_trans zl435 (Nat.le_of_eq z438.symm)
      have Vf_440 := V435.ext E438
      have zl438 := Nat.le_trans zl435 E438.1
      have V438 : Arv Z h438 cn k438 (.object "java/lang/String") (1 : Int32) [.null] .null := A438
      refine Own.astore 151 #[.val (.int x0), .val (.int x1), .val (.int x2), .val (.int x3), .val (.int x4), .val (.int (1 : Int32)), .val (.int v6_12), .val (.int v7_18), .val (.int v8_24), .val (.int v9_31), .val (.ref sl), .val (.ref cn), .unset, .unset, .unset, .unset, .unset] X438 hx (hb hby at_149) rfl rfl rfl ?_
      refine Own.newObj 154 X438 hx hZ hown (w 8 rfl) (w 9 rfl) (w 10 rfl) e438 (hb hby at_151) rfl (by decide) (by decide) ?_
      intro T441 h441 p' z441 X441 e441 E441 A441 D441
      have ne_cn_p' : cn ≠ p' := Nat.ne_of_lt (Nat.lt_of_lt_of_le V438.lt (Nat.le_of_eq z441.symm))
      have ne_sl_p' : sl ≠ p' := Nat.ne_of_lt (Nat.lt_of_lt_of_le Vf_440.lt (Nat.le_of_eq z441.symm))
      have g_p' : n0 ≤ p' := Nat.le_trans zl438 (Nat.le_of_eq z441.symm)
      have Vf_443 := Vf_440.ext E441
      have Vf_444 := V438.ext E441
      have zl441 := Nat.le_trans zl438 E441.1
      have F441_name : Fld Z h441 p' "com/example/skuld/skuld/htn/Pattern" "name" "Ljava/lang/String;" .null := D441 (Or.inr (w 26 rfl)) (ty := (.object "java/lang/String")) (by decide)
      have F441_constants : Fld Z h441 p' "com/example/skuld/skuld/htn/Pattern" "constants" "[Ljava/lang/String;" .null := D441 (Or.inr (w 28 rfl)) (ty := (.array (.object "java/lang/String"))) (by decide)
      have F441_slots : Fld Z h441 p' "com/example/skuld/skuld/htn/Pattern" "slots" "[I" .null := D441 (Or.inr (w 30 rfl)) (ty := (.array .int)) (by decide)
      have F441_line : Fld Z h441 p' "com/example/skuld/skuld/htn/Pattern" "line" "I" (.int (0 : Int32)) := D441 (Or.inr (w 32 rfl)) (ty := .int) (by decide)
      refine Own.dup 155 X441 hx (hb hby at_154) rfl rfl ?_
      refine Own.ldcStr 157 4 X441 hx hZ hown (w 11 rfl) hSA e441 (hb hby at_155) rfl (by decide) (by decide) (by decide) (by decide) ?_
      intro lt T445 h445 X445 e445 E445 hZ hown
      have Vf_447 := Vf_443.ext E445
      have Vf_448 := Vf_444.ext E445
      have Ef_449 := A441.ext E445
      have Ff_450 := F441_name.ext E445
      have Ff_451 := F441_constants.ext E445
      have Ff_452 := F441_slots.ext E445
      have Ff_453 := F441_line.ext E445
      have zl445 := Nat.le_trans zl441 E445.1
      have zk445 := Nat.le_refl h445.size
      refine Own.aload 159 X445 hx (hb hby at_157) rfl rfl rfl ?_
      refine Own.aload 161 X445 hx (hb hby at_159) rfl rfl rfl ?_
      refine Own.iconst 162 X445 hx ((0 : Int32)) (hb hby at_161) rfl rfl ?_
      refine Own.callInit 165 1 p' [(.ref lt), (.ref cn), (.ref sl), (.int (0 : Int32))] [(.ref p')] X445 hx hZ hown (m2 l Z a0 w p' lt cn sl _ _ _ _ _ n0 h445 zl445 Ef_449 Ff_450 Ff_451 Ff_452 Ff_453 g_p') rfl (w 19 rfl) (w 20 rfl) (w 10 rfl) (w 21 rfl) (by decide) e445 (by decide) (by decide) (by decide) (by decide) (by rw [hml]; rfl) (lenOf pd_1 rfl) rfl (Nat.le_of_eq rfl) (hb hby at_162) rfl ?_
      rintro vv T454 L454 X454 ⟨rfl, N454q, K454, Fs454⟩
      have N454 := Fr.app N435 N454q
      have Vf_456 := Vf_447.keep K454 (ninS ne_sl_p' nin0)
      have Vf_457 := Vf_448.keep K454 (ninS ne_cn_p' nin0)
      have Ef_458 := Ef_449.keep K454
      have zl454 := Nat.le_trans zl445 K454.1
      have zk454 := Nat.le_trans zk445 K454.1
      refine Own.astore 167 #[.val (.int x0), .val (.int x1), .val (.int x2), .val (.int x3), .val (.int x4), .val (.int (1 : Int32)), .val (.int v6_12), .val (.int v7_18), .val (.int v8_24), .val (.int v9_31), .val (.ref sl), .val (.ref cn), .val (.ref p'), .unset, .unset, .unset, .unset] X454 hx (hb hby at_165) rfl rfl rfl ?_
      refine Own.aload 169 X454 hx (hb hby at_167) rfl rfl rfl ?_
      refine Own.callVt 172 0 p' [] [] X454 hx hZ hown (m4_1 l Z a0 w p' sl k433 v6_12 n0 _ zl454 Fs454 Vf_456) Ef_458 (notFace_of_selects (args := #[]) (mvT hZ (w 36 rfl))) (w 33 rfl) (w 34 rfl) (w 36 rfl) (w 35 rfl) (w 10 rfl) (w 37 rfl) (by decide) rfl (by decide) (by decide) (by decide) (by decide) (by rw [hml]; rfl) (lenOf pd_2 rfl) rfl (Nat.le_of_eq rfl) (hb hby at_169) rfl ?_
      rintro vv T463 L463 X463 ⟨r, kr, ys, rfl, N463q, K463, szr, g_r, hys, Vr⟩
      have ne_cn_r : cn ≠ r := Nat.ne_of_lt (Nat.lt_of_lt_of_le Vf_457.lt szr)
      have ne_p'_r : p' ≠ r := Nat.ne_of_lt (Nat.lt_of_lt_of_le Ef_458.lt szr)
      have ne_sl_r : sl ≠ r := Nat.ne_of_lt (Nat.lt_of_lt_of_le Vf_456.lt szr)
      have N463 := Fr.app N454 N463q
      have Vf_465 := Vf_456.keep K463 nin0
      have Vf_466 := Vf_457.keep K463 nin0
      have Ef_467 := Ef_458.keep K463
      have Ff_468 := Fs454.keep K463 nin0
      have zl463 := Nat.le_trans zl454 K463.1
      have zk463 := Nat.le_trans zk454 K463.1
      refine Own.astore 174 #[.val (.int x0), .val (.int x1), .val (.int x2), .val (.int x3), .val (.int x4), .val (.int (1 : Int32)), .val (.int v6_12), .val (.int v7_18), .val (.int v8_24), .val (.int v9_31), .val (.ref sl), .val (.ref cn), .val (.ref p'), .val (.ref r), .unset, .unset, .unset] X463 hx (hb hby at_172) rfl rfl rfl ?_
      refine Own.iconst 175 X463 hx ((4 : Int32)) (hb hby at_174) rfl rfl ?_
      refine Own.newArr 177 4 X463 hx hZ (w 5 rfl) rfl (by decide) (by decide) (by decide) (hb hby at_175) rfl (by decide) (by decide) ?_
      intro T469 h469 ex k469 z469 X469 e469 E469 A469
      have ne_cn_ex : cn ≠ ex := Nat.ne_of_lt (Nat.lt_of_lt_of_le Vf_466.lt (Nat.le_of_eq z469.symm))
      have ne_p'_ex : p' ≠ ex := Nat.ne_of_lt (Nat.lt_of_lt_of_le Ef_467.lt (Nat.le_of_eq z469.symm))
      have ne_r_ex : r ≠ ex := Nat.ne_of_lt (Nat.lt_of_lt_of_le Vr.lt (Nat.le_of_eq z469.symm))
      have ne_sl_ex : sl ≠ ex := Nat.ne_of_lt (Nat.lt_of_lt_of_le Vf_465.lt (Nat.le_of_eq z469.symm))
      have g_ex : n0 ≤ ex := Nat.le_trans zl463 (Nat.le_of_eq z469.symm)
      have Vf_471 := Vf_465.ext E469
      have Vf_472 := Vf_466.ext E469
      have Ef_473 := Ef_467.ext E469
      have Ff_474 := Ff_468.ext E469
      have Vf_475 := Vr.ext E469
      have zl469 := Nat.le_trans zl463 E469.1
      have zk469 := Nat.le_trans zk463 E469.1
      have V469 : Arv Z h469 ex k469 .int (4 : Int32) [(.int (0 : Int32)), (.int (0 : Int32)), (.int (0 : Int32)), (.int (0 : Int32))] (.int (0 : Int32)) := A469
      refine Own.astore 179 #[.val (.int x0), .val (.int x1), .val (.int x2), .val (.int x3), .val (.int x4), .val (.int (1 : Int32)), .val (.int v6_12), .val (.int v7_18), .val (.int v8_24), .val (.int v9_31), .val (.ref sl), .val (.ref cn), .val (.ref p'), .val (.ref r), .val (.ref ex), .unset, .unset] X469 hx (hb hby at_177) rfl rfl rfl ?_
      refine Own.iconst 180 X469 hx ((0 : Int32)) (hb hby at_179) rfl rfl ?_
      refine Own.istoreV 182 #[.val (.int x0), .val (.int x1), .val (.int x2), .val (.int x3), .val (.int x4), .val (.int (1 : Int32)), .val (.int v6_12), .val (.int v7_18), .val (.int v8_24), .val (.int v9_31), .val (.ref sl), .val (.ref cn), .val (.ref p'), .val (.ref r), .val (.ref ex), .val (.int (0 : Int32)), .unset] X469 hx (hb hby at_180) rfl rfl ?_
      refine Own.iload 184 X469 hx (hb hby at_182) rfl rfl ?_
      refine Own.iconst 185 X469 hx ((1 : Int32)) (hb hby at_184) rfl rfl ?_
      refine Own.icmp_lt 203 188 X469 hx (hb hby at_185) (by decide) rfl (fun tk => absurd tk (by decide)) (fun tk => ?_)
      refine Own.iload 190 X469 hx (hb hby at_188) rfl rfl ?_
      refine Own.if_lt 203 193 X469 hx (hb hby at_190) (by decide) rfl (fun q0 => ?_) (fun q0 => ?_)
      ·
        refine Own.iload 205 X469 hx (hb hby at_203) rfl rfl ?_
        refine Own.iconst 206 X469 hx ((2 : Int32)) (hb hby at_205) rfl rfl ?_
        refine Own.icmp_lt 224 209 X469 hx (hb hby at_206) (by decide) rfl (fun tk => ?_) (fun tk => absurd tk (by decide))
        refine Own.iload 226 X469 hx (hb hby at_224) rfl rfl ?_
        refine Own.iconst 227 X469 hx ((3 : Int32)) (hb hby at_226) rfl rfl ?_
        refine Own.icmp_lt 245 230 X469 hx (hb hby at_227) (by decide) rfl (fun tk => ?_) (fun tk => absurd tk (by decide))
        refine Own.iload 247 X469 hx (hb hby at_245) rfl rfl ?_
        refine Own.iconst 248 X469 hx ((4 : Int32)) (hb hby at_247) rfl rfl ?_
        refine Own.icmp_lt 266 251 X469 hx (hb hby at_248) (by decide) rfl (fun tk => ?_) (fun tk => absurd tk (by decide))
        refine Own.aload 268 X469 hx (hb hby at_266) rfl rfl rfl ?_
        have hys2 : ys = [] := by rw [hys, own_f, List.filter_cons_of_neg (p := fun x => decide (¬ x < 0)) (by rw [decide_eq_true_iff]; exact fun u => u q0), List.filter_nil]
        have Vr476 : Arv Z h469 r kr .int (0 : Int32) [] (.int (0 : Int32)) := by
          have Vq := Vf_475
          rw [hys2] at Vq
          exact Vq
        refine Own.ifnull 279 271 X469 hx (hb hby at_268) rfl (by decide) rfl (fun hh => nomatch hh) (fun _ _ => ?_)
        refine Own.aload 273 X469 hx (hb hby at_271) rfl rfl rfl ?_
        refine Own.arrLen 274 X469 hx hZ e469 Vr476 (hb hby at_273) rfl ?_
        refine Own.iload 276 X469 hx (hb hby at_274) rfl rfl ?_
        refine Own.icmp_eq 281 279 X469 hx (hb hby at_276) (by decide) rfl (fun tk => ?_) (fun tk => absurd tk (by decide))
        refine Own.iload 283 X469 hx (hb hby at_281) rfl rfl ?_
        refine Own.iconst 284 X469 hx ((1 : Int32)) (hb hby at_283) rfl rfl ?_
        refine Own.icmp_lt 298 287 X469 hx (hb hby at_284) (by decide) rfl (fun tk => ?_) (fun tk => absurd tk (by decide))
        refine Own.iload 300 X469 hx (hb hby at_298) rfl rfl ?_
        refine Own.iconst 301 X469 hx ((2 : Int32)) (hb hby at_300) rfl rfl ?_
        refine Own.icmp_lt 315 304 X469 hx (hb hby at_301) (by decide) rfl (fun tk => ?_) (fun tk => absurd tk (by decide))
        refine Own.iload 317 X469 hx (hb hby at_315) rfl rfl ?_
        refine Own.iconst 318 X469 hx ((3 : Int32)) (hb hby at_317) rfl rfl ?_
        refine Own.icmp_lt 332 321 X469 hx (hb hby at_318) (by decide) rfl (fun tk => ?_) (fun tk => absurd tk (by decide))
        refine Own.iload 334 X469 hx (hb hby at_332) rfl rfl ?_
        refine Own.iconst 335 X469 hx ((4 : Int32)) (hb hby at_334) rfl rfl ?_
        refine Own.icmp_lt 349 338 X469 hx (hb hby at_335) (by decide) rfl (fun tk => ?_) (fun tk => absurd tk (by decide))
        refine Own.iconst 350 X469 hx ((1 : Int32)) (hb hby at_349) rfl rfl ?_
        refine Own.goto 354 X469 hx (hb hby at_350) (by decide) ?_
        refine Own.istoreV 356 #[.val (.int x0), .val (.int x1), .val (.int x2), .val (.int x3), .val (.int x4), .val (.int (1 : Int32)), .val (.int v6_12), .val (.int v7_18), .val (.int v8_24), .val (.int v9_31), .val (.ref sl), .val (.ref cn), .val (.ref p'), .val (.ref r), .val (.ref ex), .val (.int (0 : Int32)), .val (.int (1 : Int32))] X469 hx (hb hby at_354) rfl rfl ?_
        refine Own.iload 358 X469 hx (hb hby at_356) rfl rfl ?_
        refine Own.if_eq 375 361 X469 hx (hb hby at_358) (by decide) rfl (fun tk => absurd tk (by decide)) (fun tk => ?_)
        refine Own.aload 363 X469 hx (hb hby at_361) rfl rfl rfl ?_
        refine Own.callVt 366 0 p' [] [] X469 hx hZ hown (m5_1 l Z a0 w p' sl k433 v6_12 _ Ff_474 Vf_471) Ef_473 (notFace_of_selects (args := #[]) (mvT hZ (w 41 rfl))) (w 38 rfl) (w 39 rfl) (w 41 rfl) (w 40 rfl) (w 10 rfl) (w 42 rfl) (by decide) e469 (by decide) (by decide) (by decide) (by decide) (by rw [hml]; rfl) (lenOf pd_3 rfl) rfl (Nat.le_of_eq rfl) (hb hby at_363) rfl ?_
        rintro vv T477 L477 X477 ⟨rfl, hh477, rfl⟩
        have N477 := Fr.app N463 (Fr.nil _)
        refine Own.iload 368 X477 hx (hb hby at_366) rfl rfl ?_
        refine Own.icmp_ne 375 371 X477 hx (hb hby at_368) (by decide) rfl (fun tk => absurd tk (by decide)) (fun tk => ?_)
        refine Own.iconst 372 X477 hx ((1 : Int32)) (hb hby at_371) rfl rfl ?_
        refine Own.goto 376 X477 hx (hb hby at_372) (by decide) ?_
        refine Own.retBool X477 hx hlk hret (hb hby at_376) (by decide) (by decide) ?_
        exact ⟨⟨rfl, N477⟩, by rw [hh477]; exact zk469⟩
      ·
        refine Own.aload 195 X469 hx (hb hby at_193) rfl rfl rfl ?_
        refine Own.iload 197 X469 hx (hb hby at_195) rfl rfl ?_
        refine Own.iload 199 X469 hx (hb hby at_197) rfl rfl ?_
        refine Own.iastore 200 X469 hx hZ e469 V469 (by decide) (Nat.le_of_ble_eq_true rfl) (hb hby at_199) rfl ?_
        intro T478 h478 X478 e478 W478 A478
        have N478 := Fr.snoc X478 N463 g_ex
        have Vf_480 := Vf_471.other W478 ne_sl_ex
        have Vf_481 := Vf_472.other W478 ne_cn_ex
        have Ef_482 := Ef_473.wr W478
        have Ff_483 := Ff_474.other W478 (Or.inl ne_p'_ex)
        have Vf_484 := Vf_475.other W478 ne_r_ex
        have zl478 := Nat.le_trans zl469 (Nat.le_of_eq W478.size.symm)
        have zk478 := Nat.le_trans zk469 (Nat.le_of_eq W478.size.symm)
        have V478 : Arv Z h478 ex k469 .int (4 : Int32) [(.int v6_12), (.int (0 : Int32)), (.int (0 : Int32)), (.int (0 : Int32))] (.int (0 : Int32)) := A478
        refine Own.iinc 203 (fun c_486 => #[.val (.int x0), .val (.int x1), .val (.int x2), .val (.int x3), .val (.int x4), .val (.int (1 : Int32)), .val (.int v6_12), .val (.int v7_18), .val (.int v8_24), .val (.int v9_31), .val (.ref sl), .val (.ref cn), .val (.ref p'), .val (.ref r), .val (.ref ex), .val (.int c_486), .unset]) X478 hx ((1 : Int32)) (hb hby at_200) rfl rfl rfl (fun _ => rfl) fun c_486 hc_486 => ?_
        obtain rfl : c_486 = (1 : Int32) := hc_486.trans (by decide)
        refine Own.iload 205 X478 hx (hb hby at_203) rfl rfl ?_
        refine Own.iconst 206 X478 hx ((2 : Int32)) (hb hby at_205) rfl rfl ?_
        refine Own.icmp_lt 224 209 X478 hx (hb hby at_206) (by decide) rfl (fun tk => ?_) (fun tk => absurd tk (by decide))
        refine Own.iload 226 X478 hx (hb hby at_224) rfl rfl ?_
        refine Own.iconst 227 X478 hx ((3 : Int32)) (hb hby at_226) rfl rfl ?_
        refine Own.icmp_lt 245 230 X478 hx (hb hby at_227) (by decide) rfl (fun tk => ?_) (fun tk => absurd tk (by decide))
        refine Own.iload 247 X478 hx (hb hby at_245) rfl rfl ?_
        refine Own.iconst 248 X478 hx ((4 : Int32)) (hb hby at_247) rfl rfl ?_
        refine Own.icmp_lt 266 251 X478 hx (hb hby at_248) (by decide) rfl (fun tk => ?_) (fun tk => absurd tk (by decide))
        refine Own.aload 268 X478 hx (hb hby at_266) rfl rfl rfl ?_
        have hys2 : ys = [v6_12] := by rw [hys, own_f, List.filter_cons_of_pos (p := fun x => decide (¬ x < 0)) (decide_eq_true q0), List.filter_nil]
        have Vr487 : Arv Z h478 r kr .int (1 : Int32) [(.int v6_12)] (.int (0 : Int32)) := by
          have Vq := Vf_484
          rw [hys2] at Vq
          exact Vq
        refine Own.ifnull 279 271 X478 hx (hb hby at_268) rfl (by decide) rfl (fun hh => nomatch hh) (fun _ _ => ?_)
        refine Own.aload 273 X478 hx (hb hby at_271) rfl rfl rfl ?_
        refine Own.arrLen 274 X478 hx hZ e478 Vr487 (hb hby at_273) rfl ?_
        refine Own.iload 276 X478 hx (hb hby at_274) rfl rfl ?_
        refine Own.icmp_eq 281 279 X478 hx (hb hby at_276) (by decide) rfl (fun tk => ?_) (fun tk => absurd tk (by decide))
        refine Own.iload 283 X478 hx (hb hby at_281) rfl rfl ?_
        refine Own.iconst 284 X478 hx ((1 : Int32)) (hb hby at_283) rfl rfl ?_
        refine Own.icmp_lt 298 287 X478 hx (hb hby at_284) (by decide) rfl (fun tk => absurd tk (by decide)) (fun tk => ?_)
        refine Own.aload 289 X478 hx (hb hby at_287) rfl rfl rfl ?_
        refine Own.iconst 290 X478 hx ((0 : Int32)) (hb hby at_289) rfl rfl ?_
        refine Own.iaload 291 X478 hx hZ e478 (v6_12) Vr487 (by decide) rfl (hb hby at_290) rfl ?_
        refine Own.aload 293 X478 hx (hb hby at_291) rfl rfl rfl ?_
        refine Own.iconst 294 X478 hx ((0 : Int32)) (hb hby at_293) rfl rfl ?_
        refine Own.iaload 295 X478 hx hZ e478 (v6_12) V478 (by decide) rfl (hb hby at_294) rfl ?_
        refine Own.icmp_ne 353 298 X478 hx (hb hby at_295) (by decide) rfl (fun tk => absurd rfl tk) (fun tk => ?_)
        refine Own.iload 300 X478 hx (hb hby at_298) rfl rfl ?_
        refine Own.iconst 301 X478 hx ((2 : Int32)) (hb hby at_300) rfl rfl ?_
        refine Own.icmp_lt 315 304 X478 hx (hb hby at_301) (by decide) rfl (fun tk => ?_) (fun tk => absurd tk (by decide))
        refine Own.iload 317 X478 hx (hb hby at_315) rfl rfl ?_
        refine Own.iconst 318 X478 hx ((3 : Int32)) (hb hby at_317) rfl rfl ?_
        refine Own.icmp_lt 332 321 X478 hx (hb hby at_318) (by decide) rfl (fun tk => ?_) (fun tk => absurd tk (by decide))
        refine Own.iload 334 X478 hx (hb hby at_332) rfl rfl ?_
        refine Own.iconst 335 X478 hx ((4 : Int32)) (hb hby at_334) rfl rfl ?_
        refine Own.icmp_lt 349 338 X478 hx (hb hby at_335) (by decide) rfl (fun tk => ?_) (fun tk => absurd tk (by decide))
        refine Own.iconst 350 X478 hx ((1 : Int32)) (hb hby at_349) rfl rfl ?_
        refine Own.goto 354 X478 hx (hb hby at_350) (by decide) ?_
        refine Own.istoreV 356 #[.val (.int x0), .val (.int x1), .val (.int x2), .val (.int x3), .val (.int x4), .val (.int (1 : Int32)), .val (.int v6_12), .val (.int v7_18), .val (.int v8_24), .val (.int v9_31), .val (.ref sl), .val (.ref cn), .val (.ref p'), .val (.ref r), .val (.ref ex), .val (.int (1 : Int32)), .val (.int (1 : Int32))] X478 hx (hb hby at_354) rfl rfl ?_
        refine Own.iload 358 X478 hx (hb hby at_356) rfl rfl ?_
        refine Own.if_eq 375 361 X478 hx (hb hby at_358) (by decide) rfl (fun tk => absurd tk (by decide)) (fun tk => ?_)
        refine Own.aload 363 X478 hx (hb hby at_361) rfl rfl rfl ?_
        refine Own.callVt 366 0 p' [] [] X478 hx hZ hown (m5_1 l Z a0 w p' sl k433 v6_12 _ Ff_483 Vf_480) Ef_482 (notFace_of_selects (args := #[]) (mvT hZ (w 41 rfl))) (w 38 rfl) (w 39 rfl) (w 41 rfl) (w 40 rfl) (w 10 rfl) (w 42 rfl) (by decide) e478 (by decide) (by decide) (by decide) (by decide) (by rw [hml]; rfl) (lenOf pd_3 rfl) rfl (Nat.le_of_eq rfl) (hb hby at_363) rfl ?_
        rintro vv T488 L488 X488 ⟨rfl, hh488, rfl⟩
        have N488 := Fr.app N478 (Fr.nil _)
        refine Own.iload 368 X488 hx (hb hby at_366) rfl rfl ?_
        refine Own.icmp_ne 375 371 X488 hx (hb hby at_368) (by decide) rfl (fun tk => absurd tk (by decide)) (fun tk => ?_)
        refine Own.iconst 372 X488 hx ((1 : Int32)) (hb hby at_371) rfl rfl ?_
        refine Own.goto 376 X488 hx (hb hby at_372) (by decide) ?_
        refine Own.retBool X488 hx hlk hret (hb hby at_376) (by decide) (by decide) ?_
        exact ⟨⟨rfl, N488⟩, by rw [hh488]; exact zk478⟩
  ·
    subst e0x
    refine Own.iconst 39 X4 hx ((0 : Int32)) (hb hby at_38) rfl rfl ?_
    refine Own.newArr 41 0 X4 hx hZ (w 5 rfl) hh4 (by decide) (by decide) (by decide) (hb hby at_39) rfl (by decide) (by decide) ?_
    intro T489 h489 sl k489 z489 X489 e489 E489 A489
    have g_sl : n0 ≤ sl := Nat.le_trans Z0 (Nat.le_of_eq z489.symm)
    have zl489 := Nat.le_trans Z0 E489.1
    have V489 : Arv Z h489 sl k489 .int (0 : Int32) [] (.int (0 : Int32)) := A489
    refine Own.astore 43 #[.val (.int x0), .val (.int x1), .val (.int x2), .val (.int x3), .val (.int x4), .val (.int (0 : Int32)), .val (.int v6_12), .val (.int v7_18), .val (.int v8_24), .val (.int v9_31), .val (.ref sl), .unset, .unset, .unset, .unset, .unset, .unset] X489 hx (hb hby at_41) rfl rfl rfl ?_
    refine Own.goto 143 X489 hx (hb hby at_43) (by decide) ?_
    refine Own.aload 145 X489 hx (hb hby at_143) rfl rfl rfl ?_
    refine Own.arrLen 146 X489 hx hZ e489 V489 (hb hby at_145) rfl ?_
    refine Own.newRefArr 149 0 X489 hx hZ hown (w 6 rfl) (w 7 rfl) e489 (by decide) (by decide) (by decide) (hb hby at_146) rfl (by decide) (by decide) ?_
    intro T491 h491 cn k491 z491 X491 e491 E491 A491 Ov491
    have ne_sl_cn : sl ≠ cn := Nat.ne_of_lt (Nat.lt_of_lt_of_le V489.lt (Nat.le_of_eq z491.symm))
    have g_cn : n0 ≤ cn := Nat.le_trans zl489 (Nat.le_of_eq z491.symm)
    have Vf_493 := V489.ext E491
    have zl491 := Nat.le_trans zl489 E491.1
    have V491 : Arv Z h491 cn k491 (.object "java/lang/String") (0 : Int32) [] .null := A491
    refine Own.astore 151 #[.val (.int x0), .val (.int x1), .val (.int x2), .val (.int x3), .val (.int x4), .val (.int (0 : Int32)), .val (.int v6_12), .val (.int v7_18), .val (.int v8_24), .val (.int v9_31), .val (.ref sl), .val (.ref cn), .unset, .unset, .unset, .unset, .unset] X491 hx (hb hby at_149) rfl rfl rfl ?_
    refine Own.newObj 154 X491 hx hZ hown (w 8 rfl) (w 9 rfl) (w 10 rfl) e491 (hb hby at_151) rfl (by decide) (by decide) ?_
    intro T494 h494 p' z494 X494 e494 E494 A494 D494
    have ne_cn_p' : cn ≠ p' := Nat.ne_of_lt (Nat.lt_of_lt_of_le V491.lt (Nat.le_of_eq z494.symm))
    have ne_sl_p' : sl ≠ p' := Nat.ne_of_lt (Nat.lt_of_lt_of_le Vf_493.lt (Nat.le_of_eq z494.symm))
    have g_p' : n0 ≤ p' := Nat.le_trans zl491 (Nat.le_of_eq z494.symm)
    have Vf_496 := Vf_493.ext E494
    have Vf_497 := V491.ext E494
    have zl494 := Nat.le_trans zl491 E494.1
    have F494_name : Fld Z h494 p' "com/example/skuld/skuld/htn/Pattern" "name" "Ljava/lang/String;" .null := D494 (Or.inr (w 26 rfl)) (ty := (.object "java/lang/String")) (by decide)
    have F494_constants : Fld Z h494 p' "com/example/skuld/skuld/htn/Pattern" "constants" "[Ljava/lang/String;" .null := D494 (Or.inr (w 28 rfl)) (ty := (.array (.object "java/lang/String"))) (by decide)
    have F494_slots : Fld Z h494 p' "com/example/skuld/skuld/htn/Pattern" "slots" "[I" .null := D494 (Or.inr (w 30 rfl)) (ty := (.array .int)) (by decide)
    have F494_line : Fld Z h494 p' "com/example/skuld/skuld/htn/Pattern" "line" "I" (.int (0 : Int32)) := D494 (Or.inr (w 32 rfl)) (ty := .int) (by decide)
    refine Own.dup 155 X494 hx (hb hby at_154) rfl rfl ?_
    refine Own.ldcStr 157 4 X494 hx hZ hown (w 11 rfl) hSA e494 (hb hby at_155) rfl (by decide) (by decide) (by decide) (by decide) ?_
    intro lt T498 h498 X498 e498 E498 hZ hown
    have Vf_500 := Vf_496.ext E498
    have Vf_501 := Vf_497.ext E498
    have Ef_502 := A494.ext E498
    have Ff_503 := F494_name.ext E498
    have Ff_504 := F494_constants.ext E498
    have Ff_505 := F494_slots.ext E498
    have Ff_506 := F494_line.ext E498
    have zl498 := Nat.le_trans zl494 E498.1
    have zk498 := Nat.le_refl h498.size
    refine Own.aload 159 X498 hx (hb hby at_157) rfl rfl rfl ?_
    refine Own.aload 161 X498 hx (hb hby at_159) rfl rfl rfl ?_
    refine Own.iconst 162 X498 hx ((0 : Int32)) (hb hby at_161) rfl rfl ?_
    refine Own.callInit 165 1 p' [(.ref lt), (.ref cn), (.ref sl), (.int (0 : Int32))] [(.ref p')] X498 hx hZ hown (m2 l Z a0 w p' lt cn sl _ _ _ _ _ n0 h498 zl498 Ef_502 Ff_503 Ff_504 Ff_505 Ff_506 g_p') rfl (w 19 rfl) (w 20 rfl) (w 10 rfl) (w 21 rfl) (by decide) e498 (by decide) (by decide) (by decide) (by decide) (by rw [hml]; rfl) (lenOf pd_1 rfl) rfl (Nat.le_of_eq rfl) (hb hby at_162) rfl ?_
    rintro vv T507 L507 X507 ⟨rfl, N507q, K507, Fs507⟩
    have N507 := Fr.app N4 N507q
    have Vf_509 := Vf_500.keep K507 (ninS ne_sl_p' nin0)
    have Vf_510 := Vf_501.keep K507 (ninS ne_cn_p' nin0)
    have Ef_511 := Ef_502.keep K507
    have zl507 := Nat.le_trans zl498 K507.1
    have zk507 := Nat.le_trans zk498 K507.1
    refine Own.astore 167 #[.val (.int x0), .val (.int x1), .val (.int x2), .val (.int x3), .val (.int x4), .val (.int (0 : Int32)), .val (.int v6_12), .val (.int v7_18), .val (.int v8_24), .val (.int v9_31), .val (.ref sl), .val (.ref cn), .val (.ref p'), .unset, .unset, .unset, .unset] X507 hx (hb hby at_165) rfl rfl rfl ?_
    refine Own.aload 169 X507 hx (hb hby at_167) rfl rfl rfl ?_
    refine Own.callVt 172 0 p' [] [] X507 hx hZ hown (m4_0 l Z a0 w p' sl k489  n0 _ zl507 Fs507 Vf_509) Ef_511 (notFace_of_selects (args := #[]) (mvT hZ (w 36 rfl))) (w 33 rfl) (w 34 rfl) (w 36 rfl) (w 35 rfl) (w 10 rfl) (w 37 rfl) (by decide) rfl (by decide) (by decide) (by decide) (by decide) (by rw [hml]; rfl) (lenOf pd_2 rfl) rfl (Nat.le_of_eq rfl) (hb hby at_169) rfl ?_
    rintro vv T516 L516 X516 ⟨r, kr, ys, rfl, N516q, K516, szr, g_r, hys, Vr⟩
    have ne_cn_r : cn ≠ r := Nat.ne_of_lt (Nat.lt_of_lt_of_le Vf_510.lt szr)
    have ne_p'_r : p' ≠ r := Nat.ne_of_lt (Nat.lt_of_lt_of_le Ef_511.lt szr)
    have ne_sl_r : sl ≠ r := Nat.ne_of_lt (Nat.lt_of_lt_of_le Vf_509.lt szr)
    have N516 := Fr.app N507 N516q
    have Vf_518 := Vf_509.keep K516 nin0
    have Vf_519 := Vf_510.keep K516 nin0
    have Ef_520 := Ef_511.keep K516
    have Ff_521 := Fs507.keep K516 nin0
    have zl516 := Nat.le_trans zl507 K516.1
    have zk516 := Nat.le_trans zk507 K516.1
    refine Own.astore 174 #[.val (.int x0), .val (.int x1), .val (.int x2), .val (.int x3), .val (.int x4), .val (.int (0 : Int32)), .val (.int v6_12), .val (.int v7_18), .val (.int v8_24), .val (.int v9_31), .val (.ref sl), .val (.ref cn), .val (.ref p'), .val (.ref r), .unset, .unset, .unset] X516 hx (hb hby at_172) rfl rfl rfl ?_
    refine Own.iconst 175 X516 hx ((4 : Int32)) (hb hby at_174) rfl rfl ?_
    refine Own.newArr 177 4 X516 hx hZ (w 5 rfl) rfl (by decide) (by decide) (by decide) (hb hby at_175) rfl (by decide) (by decide) ?_
    intro T522 h522 ex k522 z522 X522 e522 E522 A522
    have ne_cn_ex : cn ≠ ex := Nat.ne_of_lt (Nat.lt_of_lt_of_le Vf_519.lt (Nat.le_of_eq z522.symm))
    have ne_p'_ex : p' ≠ ex := Nat.ne_of_lt (Nat.lt_of_lt_of_le Ef_520.lt (Nat.le_of_eq z522.symm))
    have ne_r_ex : r ≠ ex := Nat.ne_of_lt (Nat.lt_of_lt_of_le Vr.lt (Nat.le_of_eq z522.symm))
    have ne_sl_ex : sl ≠ ex := Nat.ne_of_lt (Nat.lt_of_lt_of_le Vf_518.lt (Nat.le_of_eq z522.symm))
    have g_ex : n0 ≤ ex := Nat.le_trans zl516 (Nat.le_of_eq z522.symm)
    have Vf_524 := Vf_518.ext E522
    have Vf_525 := Vf_519.ext E522
    have Ef_526 := Ef_520.ext E522
    have Ff_527 := Ff_521.ext E522
    have Vf_528 := Vr.ext E522
    have zl522 := Nat.le_trans zl516 E522.1
    have zk522 := Nat.le_trans zk516 E522.1
    have V522 : Arv Z h522 ex k522 .int (4 : Int32) [(.int (0 : Int32)), (.int (0 : Int32)), (.int (0 : Int32)), (.int (0 : Int32))] (.int (0 : Int32)) := A522
    refine Own.astore 179 #[.val (.int x0), .val (.int x1), .val (.int x2), .val (.int x3), .val (.int x4), .val (.int (0 : Int32)), .val (.int v6_12), .val (.int v7_18), .val (.int v8_24), .val (.int v9_31), .val (.ref sl), .val (.ref cn), .val (.ref p'), .val (.ref r), .val (.ref ex), .unset, .unset] X522 hx (hb hby at_177) rfl rfl rfl ?_
    refine Own.iconst 180 X522 hx ((0 : Int32)) (hb hby at_179) rfl rfl ?_
    refine Own.istoreV 182 #[.val (.int x0), .val (.int x1), .val (.int x2), .val (.int x3), .val (.int x4), .val (.int (0 : Int32)), .val (.int v6_12), .val (.int v7_18), .val (.int v8_24), .val (.int v9_31), .val (.ref sl), .val (.ref cn), .val (.ref p'), .val (.ref r), .val (.ref ex), .val (.int (0 : Int32)), .unset] X522 hx (hb hby at_180) rfl rfl ?_
    refine Own.iload 184 X522 hx (hb hby at_182) rfl rfl ?_
    refine Own.iconst 185 X522 hx ((1 : Int32)) (hb hby at_184) rfl rfl ?_
    refine Own.icmp_lt 203 188 X522 hx (hb hby at_185) (by decide) rfl (fun tk => ?_) (fun tk => absurd tk (by decide))
    refine Own.iload 205 X522 hx (hb hby at_203) rfl rfl ?_
    refine Own.iconst 206 X522 hx ((2 : Int32)) (hb hby at_205) rfl rfl ?_
    refine Own.icmp_lt 224 209 X522 hx (hb hby at_206) (by decide) rfl (fun tk => ?_) (fun tk => absurd tk (by decide))
    refine Own.iload 226 X522 hx (hb hby at_224) rfl rfl ?_
    refine Own.iconst 227 X522 hx ((3 : Int32)) (hb hby at_226) rfl rfl ?_
    refine Own.icmp_lt 245 230 X522 hx (hb hby at_227) (by decide) rfl (fun tk => ?_) (fun tk => absurd tk (by decide))
    refine Own.iload 247 X522 hx (hb hby at_245) rfl rfl ?_
    refine Own.iconst 248 X522 hx ((4 : Int32)) (hb hby at_247) rfl rfl ?_
    refine Own.icmp_lt 266 251 X522 hx (hb hby at_248) (by decide) rfl (fun tk => ?_) (fun tk => absurd tk (by decide))
    refine Own.aload 268 X522 hx (hb hby at_266) rfl rfl rfl ?_
    have hys2 : ys = [] := by rw [hys, own_f, List.filter_nil]
    have Vr529 : Arv Z h522 r kr .int (0 : Int32) [] (.int (0 : Int32)) := by
      have Vq := Vf_528
      rw [hys2] at Vq
      exact Vq
    refine Own.ifnull 279 271 X522 hx (hb hby at_268) rfl (by decide) rfl (fun hh => nomatch hh) (fun _ _ => ?_)
    refine Own.aload 273 X522 hx (hb hby at_271) rfl rfl rfl ?_
    refine Own.arrLen 274 X522 hx hZ e522 Vr529 (hb hby at_273) rfl ?_
    refine Own.iload 276 X522 hx (hb hby at_274) rfl rfl ?_
    refine Own.icmp_eq 281 279 X522 hx (hb hby at_276) (by decide) rfl (fun tk => ?_) (fun tk => absurd tk (by decide))
    refine Own.iload 283 X522 hx (hb hby at_281) rfl rfl ?_
    refine Own.iconst 284 X522 hx ((1 : Int32)) (hb hby at_283) rfl rfl ?_
    refine Own.icmp_lt 298 287 X522 hx (hb hby at_284) (by decide) rfl (fun tk => ?_) (fun tk => absurd tk (by decide))
    refine Own.iload 300 X522 hx (hb hby at_298) rfl rfl ?_
    refine Own.iconst 301 X522 hx ((2 : Int32)) (hb hby at_300) rfl rfl ?_
    refine Own.icmp_lt 315 304 X522 hx (hb hby at_301) (by decide) rfl (fun tk => ?_) (fun tk => absurd tk (by decide))
    refine Own.iload 317 X522 hx (hb hby at_315) rfl rfl ?_
    refine Own.iconst 318 X522 hx ((3 : Int32)) (hb hby at_317) rfl rfl ?_
    refine Own.icmp_lt 332 321 X522 hx (hb hby at_318) (by decide) rfl (fun tk => ?_) (fun tk => absurd tk (by decide))
    refine Own.iload 334 X522 hx (hb hby at_332) rfl rfl ?_
    refine Own.iconst 335 X522 hx ((4 : Int32)) (hb hby at_334) rfl rfl ?_
    refine Own.icmp_lt 349 338 X522 hx (hb hby at_335) (by decide) rfl (fun tk => ?_) (fun tk => absurd tk (by decide))
    refine Own.iconst 350 X522 hx ((1 : Int32)) (hb hby at_349) rfl rfl ?_
    refine Own.goto 354 X522 hx (hb hby at_350) (by decide) ?_
    refine Own.istoreV 356 #[.val (.int x0), .val (.int x1), .val (.int x2), .val (.int x3), .val (.int x4), .val (.int (0 : Int32)), .val (.int v6_12), .val (.int v7_18), .val (.int v8_24), .val (.int v9_31), .val (.ref sl), .val (.ref cn), .val (.ref p'), .val (.ref r), .val (.ref ex), .val (.int (0 : Int32)), .val (.int (1 : Int32))] X522 hx (hb hby at_354) rfl rfl ?_
    refine Own.iload 358 X522 hx (hb hby at_356) rfl rfl ?_
    refine Own.if_eq 375 361 X522 hx (hb hby at_358) (by decide) rfl (fun tk => absurd tk (by decide)) (fun tk => ?_)
    refine Own.aload 363 X522 hx (hb hby at_361) rfl rfl rfl ?_
    refine Own.callVt 366 0 p' [] [] X522 hx hZ hown (m5_0 l Z a0 w p' sl k489  _ Ff_527 Vf_524) Ef_526 (notFace_of_selects (args := #[]) (mvT hZ (w 41 rfl))) (w 38 rfl) (w 39 rfl) (w 41 rfl) (w 40 rfl) (w 10 rfl) (w 42 rfl) (by decide) e522 (by decide) (by decide) (by decide) (by decide) (by rw [hml]; rfl) (lenOf pd_3 rfl) rfl (Nat.le_of_eq rfl) (hb hby at_363) rfl ?_
    rintro vv T530 L530 X530 ⟨rfl, hh530, rfl⟩
    have N530 := Fr.app N516 (Fr.nil _)
    refine Own.iload 368 X530 hx (hb hby at_366) rfl rfl ?_
    refine Own.icmp_ne 375 371 X530 hx (hb hby at_368) (by decide) rfl (fun tk => absurd tk (by decide)) (fun tk => ?_)
    refine Own.iconst 372 X530 hx ((1 : Int32)) (hb hby at_371) rfl rfl ?_
    refine Own.goto 376 X530 hx (hb hby at_372) (by decide) ?_
    refine Own.retBool X530 hx hlk hret (hb hby at_376) (by decide) (by decide) ?_
    exact ⟨⟨rfl, N530⟩, by rw [hh530]; exact zk522⟩
set_option maxRecDepth 65536 in
set_option maxHeartbeats 40000000 in
theorem comes_1 {Post : Tables → Env → Array Value → State → Outcome → State → Prop} (hpost : ∀ tb e args s v u, (limb_1_1.after args s (.returned v) u = true ∧ limb_1_2.after args s (.returned v) u = true ∧ True) → ReturnedEndW s (.returned v) u (Jvm.fieldLocs frame_1_writes args s ++ Jvm.arrayLocs frame_1_arrays args s ++ Jvm.staticLocs frame_1_statics s) 24 1152 → Post tb e args s (.returned v) u) :
    ArmFor flags0 classFile x code maxLocals ret World_1 tables_1 room_1 Calls_1 rest_1 Pre_1 Post := by
  intro l hfl _ _ p e ha hc hk s m args below hf hA hF happ hP
  obtain ⟨hcalls, hrest, hpre⟩ := hP
  obtain ⟨-, -, -, hnamed, -, -, -, hat⟩ := (Spec.applies_iff hf).mp happ
  obtain ⟨hg, hn⟩ := and_e (Cond.before_iff.mp (show (Jvm.Cond.and given_1 narrow_1).before args s = true from hpre))
  obtain ⟨g1, g2⟩ := and_e hg
  obtain ⟨g3, g4⟩ := and_e g2
  obtain ⟨g5, g6⟩ := and_e g4
  obtain ⟨g7, g8⟩ := and_e g6
  obtain ⟨g9, g10⟩ := and_e g8
  obtain ⟨w0, w1, w2, w3, w4, rfl⟩ : ∃ w0 w1 w2 w3 w4 : Value, args = #[w0, w1, w2, w3, w4] := by
    have hs : args.size = 5 := by simpa [Cond.value, given_1] using g1
    obtain ⟨L⟩ := args
    match L, hs with
    | [w0, w1, w2, w3, w4], _ => exact ⟨w0, w1, w2, w3, w4, rfl⟩
  have hw := fun d (hd : d ∈ tables_1) => atoms_spec (ws := Jvm.Cond.code x code maxLocals ret :: tables_1) hat d (List.mem_cons_of_mem _ hd)
  obtain ⟨i0, ei0⟩ := is_v g3
  obtain rfl : w0 = (.int i0) := Option.some.inj ei0
  obtain ⟨i1, ei1⟩ := is_v g5
  obtain rfl : w1 = (.int i1) := Option.some.inj ei1
  obtain ⟨i2, ei2⟩ := is_v g7
  obtain rfl : w2 = (.int i2) := Option.some.inj ei2
  obtain ⟨i3, ei3⟩ := is_v g9
  obtain rfl : w3 = (.int i3) := Option.some.inj ei3
  obtain ⟨i4, ei4⟩ := is_v g10
  obtain rfl : w4 = (.int i4) := Option.some.inj ei4
  obtain ⟨n, o, h1, h2, h3, _, L, rfl, ⟨rfl, N⟩, hq⟩ := m0 l s _ (fun i {d} h => hw d (List.mem_of_getElem? h)) i0 i1 i2 i3 i4  s.heap s.heap.size (Nat.le_refl _) p e ha hc hk s m _ below hf ((Spec.applies_iff_loose hf).mp happ).1 ⟨rfl, State.Warmed39.refl s, rfl⟩ trivial
  refine ⟨n, _, h1, h2, h3, hpost _ _ _ _ _ _ ⟨Cond.after_iff.mpr rfl, Cond.after_iff.mpr (eq_i res_at (Term.int_eval (1)) rfl), trivial⟩ ⟨hq.1, hq.2.1, hq.2.2.1, (hq.2.2.2.sift fun y hy => Or.inr (N y hy)).mono (by decide) (by decide)⟩⟩
theorem main_1_1 : Claimed_1_1 := comes_1 fun _ _ _ _ _ _ h hF => ⟨h.1, hF⟩
theorem main_1_2 : Claimed_1_2 := comes_1 fun _ _ _ _ _ _ h hF => ⟨h.2.1, hF⟩
end Jvm.Pilot.@@N@@
namespace Jvm.Pilot.@@N@@
open Jvm Jvm.ClassFile Sem Op Lib Jvm.Free Jvm.Stand Jvm.Pilot.@@N@@.Jvm.D
/-! MADE BY PROGRAM (witnessworld.py) out of the Statement's table words and the real class files: 15 classes; the members and pool entries that the words name. The judged class is class 1, her method 1. -/
namespace start1
open Jvm.ClassFile
def u (s : String) : CpInfo := .utf8 (stringToUtf16 s)
/-- a pool by its gaps: so many unusable entries, then the entry; so many at the end -/
def gap : Nat → List CpInfo → List CpInfo
  | 0, r => r
  | n + 1, r => .unusable :: gap n r
def poolList (es : List (Nat × CpInfo)) (last : Nat) : List CpInfo := es.foldr (fun e r => gap e.1 (e.2 :: r)) (gap last [])
def pool (es : List (Nat × CpInfo)) (last : Nat) : Array CpInfo := ⟨poolList es last⟩
def fileOf (pool : Array CpInfo) (this : Nat) (attrs : Array Attribute := #[]) (ms : Array MethodInfo := #[]) (fl : Nat := 33) (sup : Nat := 0) (ifs : Array Nat := #[]) (fds : Array FieldInfo := #[]) : ClassFile where
  minorVersion := 0
  majorVersion := 65
  constantPool := pool
  accessFlags := fl
  thisClass := this
  superClass := sup
  interfaces := ifs
  fields := fds
  methods := ms
  attributes := attrs
def plain (name : String) (sup : Option ClassId) : Class where
  name := name
  kind := .ordinary
  loader := none
  accessFlags := 33
  super := sup
  interfaces := #[]
  cf := none
  fields := #[]
  methods := #[]
  instanceTypes := #[]
  staticTypes := #[]
  resolved := #[]
  callSites := []
  init := .initialized
  statics := none
  mirror := none

def pool0 : Array CpInfo := pool [(5, u "<init>"), (0, u "()V"), (1, .class_ 10), (1, u "java/lang/Object")] 113

def k0c0 : Code := { maxStack := 0, maxLocals := 1, code := object_method_1_code, exceptionTable := #[], attributes := #[] }
def k0m0 : Method := { name := "<init>", desc := "()V", sig := { parameters := [], returnType := none }, accessFlags := 1, code := some k0c0 }
/-- java/lang/Object -/
def k0 : Class := { plain "java/lang/Object" none with
  accessFlags := 33
  interfaces := #[]
  cf := some (fileOf pool0 8 #[] #[{ accessFlags := 1, nameIndex := 5, descriptorIndex := 6, attributes := #[] }] 33 0 #[] #[])
  fields := #[]
  methods := #[k0m0]
  instanceTypes := #[]
  staticTypes := #[]
  resolved := Array.replicate 124 none
  statics := none }

def pool1 : Array CpInfo := pool [(2, .class_ 4), (1, u "java/lang/Object"), (0, u "<init>"), (0, u "()V"), (0, .integer 2147483647), (0, .methodref 9 10), (0, .class_ 11), (0, .nameAndType 12 13), (0, u "com/example/skuld/skuld/htn/PatternSlotsPinLaw"), (0, u "dom"), (0, u "(I)I"), (0, .class_ 15), (0, u "java/lang/String"), (0, .class_ 17), (0, u "com/example/skuld/skuld/htn/Pattern"), (0, .string 19), (0, u "p"), (0, .methodref 16 21), (0, .nameAndType 5 22), (0, u "(Ljava/lang/String;[Ljava/lang/String;[II)V"), (0, .methodref 16 24), (0, .nameAndType 25 26), (0, u "slots"), (0, u "()[I"), (0, .methodref 16 28), (0, .nameAndType 29 30), (0, u "arity"), (0, u "()I"), (2, u "law"), (0, u "(IIIII)Z")] 7

def k1m0 : Method := { name := "<init>", desc := "()V", sig := { parameters := [], returnType := none }, accessFlags := 1, code := none }
def k1c1 : Code := { maxStack := 6, maxLocals := 17, code := code, exceptionTable := #[], attributes := #[] }
def k1m1 : Method := { name := "law", desc := "(IIIII)Z", sig := { parameters := [.int, .int, .int, .int, .int], returnType := some .boolean }, accessFlags := 9, code := some k1c1 }
def k1c2 : Code := { maxStack := 1, maxLocals := 1, code := method_3_code, exceptionTable := #[], attributes := #[] }
def k1m2 : Method := { name := "dom", desc := "(I)I", sig := { parameters := [.int], returnType := some .int }, accessFlags := 10, code := some k1c2 }
/-- com/example/skuld/skuld/htn/PatternSlotsPinLaw -/
def k1 : Class := { plain "com/example/skuld/skuld/htn/PatternSlotsPinLaw" (some 0) with
  accessFlags := 49
  interfaces := #[]
  cf := some (fileOf pool1 9 #[] #[{ accessFlags := 1, nameIndex := 5, descriptorIndex := 6, attributes := #[] }, { accessFlags := 9, nameIndex := 33, descriptorIndex := 34, attributes := #[] }, { accessFlags := 10, nameIndex := 12, descriptorIndex := 13, attributes := #[] }] 49 2 #[] #[])
  fields := #[]
  methods := #[k1m0, k1m1, k1m2]
  instanceTypes := #[]
  staticTypes := #[]
  resolved := Array.replicate 42 none
  statics := none }

def pool2 : Array CpInfo := pool [(1, .class_ 2), (0, u "java/io/Serializable"), (0, .class_ 4), (0, u "java/lang/Object")] 2

/-- java/io/Serializable -/
def k2 : Class := { plain "java/io/Serializable" (some 0) with
  accessFlags := 1537
  interfaces := #[]
  cf := some (fileOf pool2 1 #[] #[] 1537 3 #[] #[])
  fields := #[]
  methods := #[]
  instanceTypes := #[]
  staticTypes := #[]
  resolved := Array.replicate 7 none
  statics := none }

def pool3 : Array CpInfo := pool [(1, .class_ 2), (0, u "java/lang/Comparable"), (0, .class_ 4), (0, u "java/lang/Object")] 7

/-- java/lang/Comparable -/
def k3 : Class := { plain "java/lang/Comparable" (some 0) with
  accessFlags := 1537
  interfaces := #[]
  cf := some (fileOf pool3 1 #[] #[] 1537 3 #[] #[])
  fields := #[]
  methods := #[]
  instanceTypes := #[]
  staticTypes := #[]
  resolved := Array.replicate 12 none
  statics := none }

def pool4 : Array CpInfo := pool [(2, .class_ 4), (1, u "java/lang/CharSequence"), (42, .class_ 48), (0, u "java/lang/CharSequence$1CodePointIterator"), (10, .class_ 60), (0, u "java/lang/CharSequence$1CharIterator"), (5, .class_ 67), (0, u "java/lang/Object")] 63

/-- java/lang/CharSequence -/
def k4 : Class := { plain "java/lang/CharSequence" (some 0) with
  accessFlags := 1537
  interfaces := #[]
  cf := some (fileOf pool4 2 #[.nestMembers #[47, 59]] #[] 1537 66 #[] #[])
  fields := #[]
  methods := #[]
  instanceTypes := #[]
  staticTypes := #[]
  resolved := Array.replicate 131 none
  statics := none }

def pool5 : Array CpInfo := pool [(1, .class_ 2), (0, u "java/lang/constant/Constable"), (0, .class_ 4), (0, u "java/lang/Object")] 6

/-- java/lang/constant/Constable -/
def k5 : Class := { plain "java/lang/constant/Constable" (some 0) with
  accessFlags := 1537
  interfaces := #[]
  cf := some (fileOf pool5 1 #[] #[] 1537 3 #[] #[])
  fields := #[]
  methods := #[]
  instanceTypes := #[]
  staticTypes := #[]
  resolved := Array.replicate 11 none
  statics := none }

def pool6 : Array CpInfo := pool [(1, .class_ 2), (0, u "java/lang/constant/ConstantDesc"), (0, .class_ 4), (0, u "java/lang/Object")] 32

/-- java/lang/constant/ConstantDesc -/
def k6 : Class := { plain "java/lang/constant/ConstantDesc" (some 0) with
  accessFlags := 1537
  interfaces := #[]
  cf := some (fileOf pool6 1 #[] #[] 1537 3 #[] #[])
  fields := #[]
  methods := #[]
  instanceTypes := #[]
  staticTypes := #[]
  resolved := Array.replicate 37 none
  statics := none }

def pool7 : Array CpInfo := pool [(2, .class_ 4), (1, u "java/lang/Object"), (0, u "<init>"), (0, u "()V"), (3, .class_ 12), (1, u "java/lang/String"), (0, u "value"), (0, u "[B"), (2, u "coder"), (0, u "B"), (2, u "hash"), (0, u "I"), (2, u "hashIsZero"), (0, u "Z"), (13, u "COMPACT_STRINGS"), (534, .class_ 576), (0, u "java/lang/CharSequence"), (22, u "CASE_INSENSITIVE_ORDER"), (0, u "Ljava/util/Comparator;"), (500, u "serialPersistentFields"), (0, u "[Ljava/io/ObjectStreamField;"), (0, .class_ 1104), (0, u "java/lang/String$CaseInsensitiveComparator"), (1, .class_ 1107), (0, u "java/io/Serializable"), (0, .class_ 1109), (0, u "java/lang/Comparable"), (0, .class_ 1111), (0, u "java/lang/constant/Constable"), (0, .class_ 1113), (0, u "java/lang/constant/ConstantDesc"), (2, u "serialVersionUID"), (0, u "J"), (3, u "REPL"), (0, u "C"), (2, u "LATIN1"), (1, u "UTF16")] 323

def k7m0 : Method := { name := "<init>", desc := "()V", sig := { parameters := [], returnType := none }, accessFlags := 1, code := none }
/-- java/lang/String -/
def k7 : Class := { plain "java/lang/String" (some 0) with
  accessFlags := 49
  interfaces := #[2, 3, 4, 5, 6]
  cf := some (fileOf pool7 10 #[.nestMembers #[1103]] #[{ accessFlags := 1, nameIndex := 5, descriptorIndex := 6, attributes := #[] }] 49 2 #[1106, 1108, 575, 1110, 1112] #[{ accessFlags := 18, nameIndex := 13, descriptorIndex := 14, attributes := #[] }, { accessFlags := 18, nameIndex := 17, descriptorIndex := 18, attributes := #[] }, { accessFlags := 2, nameIndex := 21, descriptorIndex := 22, attributes := #[] }, { accessFlags := 2, nameIndex := 25, descriptorIndex := 26, attributes := #[] }, { accessFlags := 26, nameIndex := 1116, descriptorIndex := 1117, attributes := #[] }, { accessFlags := 24, nameIndex := 40, descriptorIndex := 26, attributes := #[] }, { accessFlags := 26, nameIndex := 1101, descriptorIndex := 1102, attributes := #[] }, { accessFlags := 26, nameIndex := 1121, descriptorIndex := 1122, attributes := #[] }, { accessFlags := 25, nameIndex := 599, descriptorIndex := 600, attributes := #[] }, { accessFlags := 24, nameIndex := 1125, descriptorIndex := 18, attributes := #[] }, { accessFlags := 24, nameIndex := 1127, descriptorIndex := 18, attributes := #[] }])
  fields := #[{ name := "value", type := (.array .byte), accessFlags := 18, slot := 0, constantValue := 0 }, { name := "coder", type := .byte, accessFlags := 18, slot := 1, constantValue := 0 }, { name := "hash", type := .int, accessFlags := 2, slot := 2, constantValue := 0 }, { name := "hashIsZero", type := .boolean, accessFlags := 2, slot := 3, constantValue := 0 }, { name := "serialVersionUID", type := .long, accessFlags := 26, slot := 0, constantValue := 0 }, { name := "COMPACT_STRINGS", type := .boolean, accessFlags := 24, slot := 1, constantValue := 0 }, { name := "serialPersistentFields", type := (.array (.object "java/io/ObjectStreamField")), accessFlags := 26, slot := 2, constantValue := 0 }, { name := "REPL", type := .char, accessFlags := 26, slot := 3, constantValue := 0 }, { name := "CASE_INSENSITIVE_ORDER", type := (.object "java/util/Comparator"), accessFlags := 25, slot := 4, constantValue := 0 }, { name := "LATIN1", type := .byte, accessFlags := 24, slot := 5, constantValue := 0 }, { name := "UTF16", type := .byte, accessFlags := 24, slot := 6, constantValue := 0 }]
  methods := #[k7m0]
  instanceTypes := #[(.array .byte), .byte, .int, .boolean]
  staticTypes := #[.long, .boolean, (.array (.object "java/io/ObjectStreamField")), .char, (.object "java/util/Comparator"), .byte, .byte]
  resolved := Array.replicate 1451 none
  statics := none }

def pool8 : Array CpInfo := pool [(1, .methodref 2 3), (0, .class_ 4), (0, .nameAndType 5 6), (0, u "java/lang/Object"), (0, u "<init>"), (0, u "()V"), (0, .fieldref 8 9), (0, .class_ 10), (0, .nameAndType 11 12), (0, u "com/example/skuld/skuld/htn/Pattern"), (0, u "name"), (0, u "Ljava/lang/String;"), (0, .fieldref 8 14), (0, .nameAndType 15 16), (0, u "constants"), (0, u "[Ljava/lang/String;"), (0, .fieldref 8 18), (0, .nameAndType 19 20), (0, u "slots"), (0, u "[I"), (0, .fieldref 8 22), (0, .nameAndType 23 24), (0, u "line"), (0, u "I"), (4, u "arity"), (0, u "()I"), (24, u "(Ljava/lang/String;[Ljava/lang/String;[II)V"), (36, u "()[I")] 17

def k8c0 : Code := { maxStack := 2, maxLocals := 5, code := prog_53_method_1_code, exceptionTable := #[], attributes := #[] }
def k8m0 : Method := { name := "<init>", desc := "(Ljava/lang/String;[Ljava/lang/String;[II)V", sig := { parameters := [(.object "java/lang/String"), (.array (.object "java/lang/String")), (.array .int), .int], returnType := none }, accessFlags := 0, code := some k8c0 }
def k8c1 : Code := { maxStack := 1, maxLocals := 1, code := prog_53_method_4_code, exceptionTable := #[], attributes := #[] }
def k8m1 : Method := { name := "arity", desc := "()I", sig := { parameters := [], returnType := some .int }, accessFlags := 0, code := some k8c1 }
def k8c2 : Code := { maxStack := 3, maxLocals := 8, code := prog_53_method_6_code, exceptionTable := #[], attributes := #[] }
def k8m2 : Method := { name := "slots", desc := "()[I", sig := { parameters := [], returnType := some (.array .int) }, accessFlags := 0, code := some k8c2 }
/-- com/example/skuld/skuld/htn/Pattern -/
def k8 : Class := { plain "com/example/skuld/skuld/htn/Pattern" (some 0) with
  accessFlags := 48
  interfaces := #[]
  cf := some (fileOf pool8 8 #[] #[{ accessFlags := 0, nameIndex := 5, descriptorIndex := 55, attributes := #[] }, { accessFlags := 0, nameIndex := 29, descriptorIndex := 30, attributes := #[] }, { accessFlags := 0, nameIndex := 19, descriptorIndex := 92, attributes := #[] }] 48 2 #[] #[{ accessFlags := 18, nameIndex := 11, descriptorIndex := 12, attributes := #[] }, { accessFlags := 18, nameIndex := 15, descriptorIndex := 16, attributes := #[] }, { accessFlags := 18, nameIndex := 19, descriptorIndex := 20, attributes := #[] }, { accessFlags := 18, nameIndex := 23, descriptorIndex := 24, attributes := #[] }])
  fields := #[{ name := "name", type := (.object "java/lang/String"), accessFlags := 18, slot := 0, constantValue := 0 }, { name := "constants", type := (.array (.object "java/lang/String")), accessFlags := 18, slot := 1, constantValue := 0 }, { name := "slots", type := (.array .int), accessFlags := 18, slot := 2, constantValue := 0 }, { name := "line", type := .int, accessFlags := 18, slot := 3, constantValue := 0 }]
  methods := #[k8m0, k8m1, k8m2]
  instanceTypes := #[(.object "java/lang/String"), (.array (.object "java/lang/String")), (.array .int), .int]
  staticTypes := #[]
  resolved := Array.replicate 110 none
  statics := none }

def pool9 : Array CpInfo := pool [(1, u "java/lang/Cloneable"), (0, .class_ 1), (0, u "java/lang/Object"), (0, .class_ 3)] 3

/-- java/lang/Cloneable -/
def k9 : Class := { plain "java/lang/Cloneable" (some 0) with
  accessFlags := 1537
  interfaces := #[]
  cf := some (fileOf pool9 2 #[] #[] 1537 4 #[] #[])
  fields := #[]
  methods := #[]
  instanceTypes := #[]
  staticTypes := #[]
  resolved := Array.replicate 8 none
  statics := none }

/-- the primitive byte -/
def k10 : Class := { plain "byte" none with kind := .primitive 'B', accessFlags := 0x411 }
/-- [B -/
def k11 : Class := { plain "[B" (some 0) with kind := .array 10 .byte, interfaces := #[9, 2], accessFlags := 1041 }

/-- the primitive int -/
def k12 : Class := { plain "int" none with kind := .primitive 'I', accessFlags := 0x411 }
/-- [I -/
def k13 : Class := { plain "[I" (some 0) with kind := .array 12 .int, interfaces := #[9, 2], accessFlags := 1041 }

/-- [Ljava/lang/String; -/
def k14 : Class := { plain "[Ljava/lang/String;" (some 0) with kind := .array 7 (.object "java/lang/String"), interfaces := #[9, 2], accessFlags := 1041 }

def heap : Heap := #[]
def classes : Array Class := #[k0, k1, k2, k3, k4, k5, k6, k7, k8, k9, k10, k11, k12, k13, k14]
def interned : List (Array UInt16 × Addr) := []
def slotsUsed : Nat := 0
def theMethod : MethodId := ⟨1, 1⟩
def args0 : Array Value := #[.int 1, .int 2, .int 3, .int 4, .int 5]
def aboutOver (below : List Frame) : State where
  vm := { classes := classes, interned := interned.toArray }
  heap := heap
  slotsUsed := slotsUsed
  threads := #[{ frames := .invoking theMethod args0 :: below }]
def below0 : List Frame := [.native { method := ⟨0, 0⟩, args := #[] }]
def about1 : State := aboutOver below0
def p0 : Program := .bare "" "" ""
def e0 : Env := launch0.env 0 0 0
theorem w_frames : about1.frames = Frame.invoking theMethod args0 :: below0 := rfl
set_option maxRecDepth 65536 in
theorem w_args : argsFit about1.vm theMethod args0 = true := by decide +kernel
set_option maxRecDepth 65536 in
theorem w_heap : heapFits about1 = true := by decide +kernel
set_option maxRecDepth 65536 in
theorem w_runnable : about1.curStatus? = some .runnable := by decide +kernel
set_option maxRecDepth 65536 in
theorem w_alone : about1.alone = true := by decide +kernel
set_option maxRecDepth 65536 in
theorem w_named : about1.methodNamed? x = some theMethod := by decide +kernel
set_option maxRecDepth 65536 in
theorem w_hears : about1.hears theMethod below0 = true := by decide +kernel
set_option maxRecDepth 65536 in
theorem w_ripe : about1.ripe theMethod args0 below0 = true := by decide +kernel
theorem w_running : about1.status = .running := rfl
set_option maxRecDepth 65536 in
theorem w_room : about1.hasRoom e0.platform room_1 = true :=
  launch0.hasRoom_least _ room_1 (by decide +kernel) (by decide +kernel) (by decide +kernel) (by decide +kernel) (by decide +kernel) (by decide +kernel)
theorem allAtoms_all (ts : List Jvm.Cond) (a : Array Jvm.Value) (st : Jvm.State) : (allAtoms ts).before a st = ts.all (fun c => c.before a st) := by
  induction ts with
  | nil => rfl
  | cons c t ih =>
    show (Jvm.Cond.and c (allAtoms t)).before a st = _
    rw [Jvm.Cond.before_and, ih, List.all_cons]
def words1 : List Jvm.Cond := Jvm.Cond.code x code maxLocals ret :: tables_1
/-- a 'code' word, met by the world's own term for the bytes: nothing is compared byte by byte -/
theorem code_word {y : MethodName} {bytes : ByteArray} {mx : Nat} {rt : Option FieldType} {a : Array Value} {s : State} {m : MethodId} {meth : Method} {c : Code} (h1 : s.methodNamed? y = some m) (h2 : s.vm.method? m = some meth) (h3 : meth.code = some c) (h4 : c.code = bytes)
    (h5 : (c.maxLocals == mx && c.exceptionTable.isEmpty && decide (c.maxStack ≤ mostOperands) && decide (meth.sig.returnType = rt) && !meth.locks && decide (parseMethodDescriptor y.desc = some meth.sig)) = true) : (Jvm.Cond.code y bytes mx rt).before a s = true := by
  simp only [Bool.and_eq_true, beq_iff_eq, Bool.not_eq_true', decide_eq_true_eq] at h5
  obtain ⟨⟨⟨⟨⟨g1, g2⟩, g3⟩, g4⟩, g5⟩, g6⟩ := h5
  simp [Cond.before, Cond.holds, Cond.value, h1, h2, h3, h4, g1, g2, g3, g4, g5, g6]
def isCode : Jvm.Cond → Bool
  | .code _ _ _ _ => true
  | _ => false
theorem all_split {L : List Jvm.Cond} {P : Jvm.Cond → Bool} (h1 : L.all (fun c => isCode c || P c) = true) (h2 : ∀ c ∈ L.filter isCode, P c = true) : L.all P = true := by
  refine List.all_eq_true.mpr fun c hc => ?_
  have h := List.all_eq_true.mp h1 c hc
  rcases Bool.eq_false_or_eq_true (isCode c) with hi | hi
  · exact h2 c (List.mem_filter.mpr ⟨hc, hi⟩)
  · simpa [hi] using h
set_option maxRecDepth 65536 in
theorem w_c0 : (Jvm.Cond.code x code maxLocals ret).before args0 about1 = true := code_word (m := ⟨1, 1⟩) (meth := k1m1) (c := k1c1) (by decide +kernel) rfl rfl rfl (by decide +kernel)
set_option maxRecDepth 65536 in
theorem w_c1 : (Jvm.Cond.code ({ cls := "com/example/skuld/skuld/htn/PatternSlotsPinLaw", name := "dom", desc := "(I)I" } : Jvm.MethodName) method_3_code (1 : Nat) (Option.some Jvm.ClassFile.FieldType.int)).before args0 about1 = true := code_word (m := ⟨1, 2⟩) (meth := k1m2) (c := k1c2) (by decide +kernel) rfl rfl rfl (by decide +kernel)
set_option maxRecDepth 65536 in
theorem w_c2 : (Jvm.Cond.code ({ cls := "com/example/skuld/skuld/htn/Pattern", name := "<init>", desc := "(Ljava/lang/String;[Ljava/lang/String;[II)V" } : Jvm.MethodName) prog_53_method_1_code (5 : Nat) (Option.none : Option Jvm.ClassFile.FieldType)).before args0 about1 = true := code_word (m := ⟨8, 0⟩) (meth := k8m0) (c := k8c0) (by decide +kernel) rfl rfl rfl (by decide +kernel)
set_option maxRecDepth 65536 in
theorem w_c3 : (Jvm.Cond.code ({ cls := "java/lang/Object", name := "<init>", desc := "()V" } : Jvm.MethodName) object_method_1_code (1 : Nat) (Option.none : Option Jvm.ClassFile.FieldType)).before args0 about1 = true := code_word (m := ⟨0, 0⟩) (meth := k0m0) (c := k0c0) (by decide +kernel) rfl rfl rfl (by decide +kernel)
set_option maxRecDepth 65536 in
theorem w_c4 : (Jvm.Cond.code ({ cls := "com/example/skuld/skuld/htn/Pattern", name := "slots", desc := "()[I" } : Jvm.MethodName) prog_53_method_6_code (8 : Nat) (Option.some (Jvm.ClassFile.FieldType.array Jvm.ClassFile.FieldType.int))).before args0 about1 = true := code_word (m := ⟨8, 2⟩) (meth := k8m2) (c := k8c2) (by decide +kernel) rfl rfl rfl (by decide +kernel)
set_option maxRecDepth 65536 in
theorem w_c5 : (Jvm.Cond.code ({ cls := "com/example/skuld/skuld/htn/Pattern", name := "arity", desc := "()I" } : Jvm.MethodName) prog_53_method_4_code (1 : Nat) (Option.some Jvm.ClassFile.FieldType.int)).before args0 about1 = true := code_word (m := ⟨8, 1⟩) (meth := k8m1) (c := k8c1) (by decide +kernel) rfl rfl rfl (by decide +kernel)
def codes1 : List Jvm.Cond := [Jvm.Cond.code x code maxLocals ret, Jvm.Cond.code ({ cls := "com/example/skuld/skuld/htn/PatternSlotsPinLaw", name := "dom", desc := "(I)I" } : Jvm.MethodName) method_3_code (1 : Nat) (Option.some Jvm.ClassFile.FieldType.int), Jvm.Cond.code ({ cls := "com/example/skuld/skuld/htn/Pattern", name := "<init>", desc := "(Ljava/lang/String;[Ljava/lang/String;[II)V" } : Jvm.MethodName) prog_53_method_1_code (5 : Nat) (Option.none : Option Jvm.ClassFile.FieldType), Jvm.Cond.code ({ cls := "java/lang/Object", name := "<init>", desc := "()V" } : Jvm.MethodName) object_method_1_code (1 : Nat) (Option.none : Option Jvm.ClassFile.FieldType), Jvm.Cond.code ({ cls := "com/example/skuld/skuld/htn/Pattern", name := "slots", desc := "()[I" } : Jvm.MethodName) prog_53_method_6_code (8 : Nat) (Option.some (Jvm.ClassFile.FieldType.array Jvm.ClassFile.FieldType.int)), Jvm.Cond.code ({ cls := "com/example/skuld/skuld/htn/Pattern", name := "arity", desc := "()I" } : Jvm.MethodName) prog_53_method_4_code (1 : Nat) (Option.some Jvm.ClassFile.FieldType.int)]
set_option maxRecDepth 65536 in
theorem codes_eq : words1.filter isCode = codes1 := rfl
theorem w_codes : ∀ c ∈ words1.filter isCode, c.before args0 about1 = true := by
  rw [codes_eq]
  intro c hc
  simp only [codes1, List.mem_cons, List.not_mem_nil, or_false] at hc
  rcases hc with rfl | rfl | rfl | rfl | rfl | rfl
  · exact w_c0
  · exact w_c1
  · exact w_c2
  · exact w_c3
  · exact w_c4
  · exact w_c5
set_option maxRecDepth 65536 in
theorem w_t1 : (words1.take 24).all (fun c => isCode c || c.before args0 about1) = true := by decide +kernel
set_option maxRecDepth 65536 in
theorem w_t2 : (words1.drop 24).all (fun c => isCode c || c.before args0 about1) = true := by decide +kernel
theorem w_tables : (allAtoms (Jvm.Cond.code x code maxLocals ret :: tables_1)).before args0 about1 = true := by
  rw [allAtoms_all]
  show words1.all (fun c => c.before args0 about1) = true
  refine all_split ?_ w_codes
  rw [← List.take_append_drop 24 words1, List.all_append, w_t1, w_t2]
  rfl
set_option maxRecDepth 65536 in
theorem w_case : (Jvm.Cond.and given_1 narrow_1).before args0 about1 = true := by decide +kernel
theorem w_applies : (headSpec (Jvm.Cond.code x code maxLocals ret :: tables_1) room_1).applies x e0.platform about1 = true :=
  (Spec.applies_iff w_frames).mpr ⟨w_running, w_runnable, w_alone, w_named, w_hears, w_ripe, w_room, w_tables⟩
theorem atStart : AtStart classFile x code maxLocals ret World_1 tables_1 room_1 Calls_1 rest_1 Pre_1 launch0 p0 e0 about1 theMethod args0 below0 :=
  ⟨lists_1, trivial, launch0.admits_env _ _ _, launch0.least_env, fairChoices_fair.cas, fairChoices_fair.clock, w_frames, w_args, w_heap, w_applies, trivial, trivial, w_case⟩
end start1
theorem witness_1 : WitnessClaimed_1 := ⟨start1.p0, start1.e0, start1.about1, start1.theMethod, start1.args0, start1.below0, start1.atStart⟩
end Jvm.Pilot.@@N@@
