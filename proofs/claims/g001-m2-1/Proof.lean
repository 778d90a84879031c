import JvmDerived
import JvmDerived.Pilot.@@N@@Statement
import JvmDerived.Pilot.@@N@@Code
set_option linter.unusedVariables false
set_option linter.unusedSimpArgs false
namespace Jvm.Own
open Jvm Sem ClassFile Op Lib Jvm.Stand Jvm.Free Jvm.LawKit Jvm.RoadKit Bundle
/-- from the state U on the body comes to its end, and what it leaves answers to Q -/
def Ends (tb : Tables) (e : Env) (below : List Frame) (Q : Option Value → Heap → List Loc → Prop) (F : Outcome → State → List Loc → Prop) (U : State) : Prop :=
  ∃ s₂ o, Steps tb e below U s₂ ∧ s₂.status = .running ∧ Ended s₂ below o ∧ ∃ v L, o = .returned v ∧ Q v s₂.heap L ∧ F o s₂ L
/-- the frame that a body keeps; the wide one of a body that may load a String constant -/
abbrev FE (s : State) (C S : Nat) : Outcome → State → List Loc → Prop := fun o t L => FrameEnd s o t L C S
abbrev FW (s : State) (C S : Nat) : Outcome → State → List Loc → Prop := fun o t L => ReturnedEndW s o t L C S
section Walk
variable {p : Program} {l : Launch} {e : Env} {R : Room} {s : State} {m : MethodId} {args : Array Value} {below : List Frame} {meth : Method} {c : Code} {T : State} {locs : List Loc} {cells slots : Nat} {Q : Option Value → Heap → List Loc → Prop} {F : Outcome → State → List Loc → Prop} {C S : Nat} {pc : Nat} {Ls : Array Slot} {st : List Value} {Z : State} {a0 : Array Value} {h : Heap}
theorem Ends.step {tb : Tables} {U V : State} (k : Ends tb e below Q F V) (hs : ∀ t, Steps tb e below V t → Steps tb e below U t) : Ends tb e below Q F U := by
  obtain ⟨s₂, o, h1, r⟩ := k
  exact ⟨s₂, o, hs _ h1, r⟩
theorem Ends.mono {tb : Tables} {U : State} {Q' : Option Value → Heap → List Loc → Prop} (k : Ends tb e below Q' F U) (hq : ∀ v h L, Q' v h L → Q v h L) : Ends tb e below Q F U := by
  obtain ⟨s₂, o, h1, h2, h3, v, L, h4, h5, h6⟩ := k
  exact ⟨s₂, o, h1, h2, h3, v, L, h4, hq _ _ _ h5, h6⟩
theorem iload (n : Nat) (X : Stand p l e R s m args below meth c T locs cells slots) (hx : p.tables.exec = Jvm.exec) {k : Nat} {v : Int32} (hd : decode c.code pc = .ok (.iload k, 2)) (hn : pc + 2 = n) (hl : Ls[k]? = some (.val (.int v))) (K : Ends p.tables e below Q F (T.setTop (mkF m n Ls (.int v :: st)))) : Ends p.tables e below Q F (T.setTop (mkF m pc Ls (st))) := by
  subst hn; exact K.step fun t k => XS.iload (g := mkF m pc Ls (st)) X.here hx rfl hd hl k
theorem iloadN (n : Nat) (X : Stand p l e R s m args below meth c T locs cells slots) (hx : p.tables.exec = Jvm.exec) {k : Fin 4} {v : Int32} (hd : decode c.code pc = .ok (.iload_n k, 1)) (hn : pc + 1 = n) (hl : Ls[k.val]? = some (.val (.int v))) (K : Ends p.tables e below Q F (T.setTop (mkF m n Ls (.int v :: st)))) : Ends p.tables e below Q F (T.setTop (mkF m pc Ls (st))) := by
  subst hn; exact K.step fun t k => XS.iloadN (g := mkF m pc Ls (st)) X.here hx rfl hd hl k
theorem lload (n : Nat) (X : Stand p l e R s m args below meth c T locs cells slots) (hx : p.tables.exec = Jvm.exec) {k : Nat} {v : Int64} (hd : decode c.code pc = .ok (.lload k, 2)) (hn : pc + 2 = n) (hl : Ls[k]? = some (.val (.long v))) (K : Ends p.tables e below Q F (T.setTop (mkF m n Ls (.long v :: st)))) : Ends p.tables e below Q F (T.setTop (mkF m pc Ls (st))) := by
  subst hn; exact K.step fun t k => XS.lload (g := mkF m pc Ls (st)) X.here hx rfl hd hl k
theorem lloadN (n : Nat) (X : Stand p l e R s m args below meth c T locs cells slots) (hx : p.tables.exec = Jvm.exec) {k : Fin 4} {v : Int64} (hd : decode c.code pc = .ok (.lload_n k, 1)) (hn : pc + 1 = n) (hl : Ls[k.val]? = some (.val (.long v))) (K : Ends p.tables e below Q F (T.setTop (mkF m n Ls (.long v :: st)))) : Ends p.tables e below Q F (T.setTop (mkF m pc Ls (st))) := by
  subst hn; exact K.step fun t k => XS.lloadN (g := mkF m pc Ls (st)) X.here hx rfl hd hl k
theorem aload (n : Nat) (X : Stand p l e R s m args below meth c T locs cells slots) (hx : p.tables.exec = Jvm.exec) {k : Nat} {v : Value} (hd : decode c.code pc = .ok (.aload k, 2)) (hn : pc + 2 = n) (hl : Ls[k]? = some (.val v)) (hv : v.isRef = true) (K : Ends p.tables e below Q F (T.setTop (mkF m n Ls (v :: st)))) : Ends p.tables e below Q F (T.setTop (mkF m pc Ls (st))) := by
  subst hn; exact K.step fun t k => XS.aload (g := mkF m pc Ls (st)) X.here hx rfl hd hl hv k
theorem aloadN (n : Nat) (X : Stand p l e R s m args below meth c T locs cells slots) (hx : p.tables.exec = Jvm.exec) {k : Fin 4} {v : Value} (hd : decode c.code pc = .ok (.aload_n k, 1)) (hn : pc + 1 = n) (hl : Ls[k.val]? = some (.val v)) (hv : v.isRef = true) (K : Ends p.tables e below Q F (T.setTop (mkF m n Ls (v :: st)))) : Ends p.tables e below Q F (T.setTop (mkF m pc Ls (st))) := by
  subst hn; exact K.step fun t k => XS.aloadN (g := mkF m pc Ls (st)) X.here hx rfl hd hl hv k
theorem iconst (n : Nat) (X : Stand p l e R s m args below meth c T locs cells slots) (hx : p.tables.exec = Jvm.exec) {i : Int} (v : Int32) (hd : decode c.code pc = .ok (.iconst i, 1)) (hn : pc + 1 = n) (hv : Int32.ofInt i = v) (K : Ends p.tables e below Q F (T.setTop (mkF m n Ls (.int v :: st)))) : Ends p.tables e below Q F (T.setTop (mkF m pc Ls (st))) := by
  subst hn; exact K.step fun t k => XS.iconst (g := mkF m pc Ls (st)) X.here hx rfl hd (hv ▸ k)
theorem bipush (n : Nat) (X : Stand p l e R s m args below meth c T locs cells slots) (hx : p.tables.exec = Jvm.exec) {i : Int} (v : Int32) (hd : decode c.code pc = .ok (.bipush i, 2)) (hn : pc + 2 = n) (hv : (Int8.ofInt i).toInt32 = v) (K : Ends p.tables e below Q F (T.setTop (mkF m n Ls (.int v :: st)))) : Ends p.tables e below Q F (T.setTop (mkF m pc Ls (st))) := by
  subst hn; exact K.step fun t k => XS.bipush (g := mkF m pc Ls (st)) X.here hx rfl hd (hv ▸ k)
theorem sipush (n : Nat) (X : Stand p l e R s m args below meth c T locs cells slots) (hx : p.tables.exec = Jvm.exec) {i : Int} (v : Int32) (hd : decode c.code pc = .ok (.sipush i, 3)) (hn : pc + 3 = n) (hv : (Int16.ofInt i).toInt32 = v) (K : Ends p.tables e below Q F (T.setTop (mkF m n Ls (.int v :: st)))) : Ends p.tables e below Q F (T.setTop (mkF m pc Ls (st))) := by
  subst hn; exact K.step fun t k => XS.sipush (g := mkF m pc Ls (st)) X.here hx rfl hd (hv ▸ k)
theorem lconst (n : Nat) (X : Stand p l e R s m args below meth c T locs cells slots) (hx : p.tables.exec = Jvm.exec) {i : Fin 2} (v : Int64) (hd : decode c.code pc = .ok (.lconst i, 1)) (hn : pc + 1 = n) (hv : Int64.ofNat i = v) (K : Ends p.tables e below Q F (T.setTop (mkF m n Ls (.long v :: st)))) : Ends p.tables e below Q F (T.setTop (mkF m pc Ls (st))) := by
  subst hn; exact K.step fun t k => XS.lconst (g := mkF m pc Ls (st)) X.here hx rfl hd (hv ▸ k)
theorem aconstNull (n : Nat) (X : Stand p l e R s m args below meth c T locs cells slots) (hx : p.tables.exec = Jvm.exec)  (hd : decode c.code pc = .ok (.aconst_null, 1)) (hn : pc + 1 = n)  (K : Ends p.tables e below Q F (T.setTop (mkF m n Ls (.null :: st)))) : Ends p.tables e below Q F (T.setTop (mkF m pc Ls (st))) := by
  subst hn; exact K.step fun t k => XS.aconstNull (g := mkF m pc Ls (st)) X.here hx rfl hd k
theorem iadd (n : Nat) (X : Stand p l e R s m args below meth c T locs cells slots) (hx : p.tables.exec = Jvm.exec) {x y r : Int32} {rest : List Value} (hd : decode c.code pc = .ok (.iadd, 1)) (hn : pc + 1 = n) (hr : x + y = r) (K : Ends p.tables e below Q F (T.setTop (mkF m n Ls (.int r :: rest)))) : Ends p.tables e below Q F (T.setTop (mkF m pc Ls (.int y :: .int x :: rest))) := by
  subst hn; exact K.step fun t k => XS.iadd (g := mkF m pc Ls (.int y :: .int x :: rest)) X.here hx rfl hd rfl (hr ▸ k)
theorem isub (n : Nat) (X : Stand p l e R s m args below meth c T locs cells slots) (hx : p.tables.exec = Jvm.exec) {x y r : Int32} {rest : List Value} (hd : decode c.code pc = .ok (.isub, 1)) (hn : pc + 1 = n) (hr : x - y = r) (K : Ends p.tables e below Q F (T.setTop (mkF m n Ls (.int r :: rest)))) : Ends p.tables e below Q F (T.setTop (mkF m pc Ls (.int y :: .int x :: rest))) := by
  subst hn; exact K.step fun t k => XS.isub (g := mkF m pc Ls (.int y :: .int x :: rest)) X.here hx rfl hd rfl (hr ▸ k)
theorem iand (n : Nat) (X : Stand p l e R s m args below meth c T locs cells slots) (hx : p.tables.exec = Jvm.exec) {x y r : Int32} {rest : List Value} (hd : decode c.code pc = .ok (.iand, 1)) (hn : pc + 1 = n) (hr : x &&& y = r) (K : Ends p.tables e below Q F (T.setTop (mkF m n Ls (.int r :: rest)))) : Ends p.tables e below Q F (T.setTop (mkF m pc Ls (.int y :: .int x :: rest))) := by
  subst hn; exact K.step fun t k => XS.iand (g := mkF m pc Ls (.int y :: .int x :: rest)) X.here hx rfl hd rfl (hr ▸ k)
theorem imul (n : Nat) (X : Stand p l e R s m args below meth c T locs cells slots) (hx : p.tables.exec = Jvm.exec) {x y r : Int32} {rest : List Value} (hd : decode c.code pc = .ok (.imul, 1)) (hn : pc + 1 = n) (hr : x * y = r) (K : Ends p.tables e below Q F (T.setTop (mkF m n Ls (.int r :: rest)))) : Ends p.tables e below Q F (T.setTop (mkF m pc Ls (.int y :: .int x :: rest))) := by
  subst hn; exact K.step fun t k => XS.imul (g := mkF m pc Ls (.int y :: .int x :: rest)) X.here hx rfl hd rfl (hr ▸ k)
theorem ior (n : Nat) (X : Stand p l e R s m args below meth c T locs cells slots) (hx : p.tables.exec = Jvm.exec) {x y r : Int32} {rest : List Value} (hd : decode c.code pc = .ok (.ior, 1)) (hn : pc + 1 = n) (hr : x ||| y = r) (K : Ends p.tables e below Q F (T.setTop (mkF m n Ls (.int r :: rest)))) : Ends p.tables e below Q F (T.setTop (mkF m pc Ls (.int y :: .int x :: rest))) := by
  subst hn; exact K.step fun t k => XS.ior (g := mkF m pc Ls (.int y :: .int x :: rest)) X.here hx rfl hd rfl (hr ▸ k)
theorem ixor (n : Nat) (X : Stand p l e R s m args below meth c T locs cells slots) (hx : p.tables.exec = Jvm.exec) {x y r : Int32} {rest : List Value} (hd : decode c.code pc = .ok (.ixor, 1)) (hn : pc + 1 = n) (hr : x ^^^ y = r) (K : Ends p.tables e below Q F (T.setTop (mkF m n Ls (.int r :: rest)))) : Ends p.tables e below Q F (T.setTop (mkF m pc Ls (.int y :: .int x :: rest))) := by
  subst hn; exact K.step fun t k => XS.ixor (g := mkF m pc Ls (.int y :: .int x :: rest)) X.here hx rfl hd rfl (hr ▸ k)
theorem ishl (n : Nat) (X : Stand p l e R s m args below meth c T locs cells slots) (hx : p.tables.exec = Jvm.exec) {x y r : Int32} {rest : List Value} (hd : decode c.code pc = .ok (.ishl, 1)) (hn : pc + 1 = n) (hr : x <<< (y &&& 31) = r) (K : Ends p.tables e below Q F (T.setTop (mkF m n Ls (.int r :: rest)))) : Ends p.tables e below Q F (T.setTop (mkF m pc Ls (.int y :: .int x :: rest))) := by
  subst hn; exact K.step fun t k => XS.ishl (g := mkF m pc Ls (.int y :: .int x :: rest)) X.here hx rfl hd rfl (hr ▸ k)
theorem ishr (n : Nat) (X : Stand p l e R s m args below meth c T locs cells slots) (hx : p.tables.exec = Jvm.exec) {x y r : Int32} {rest : List Value} (hd : decode c.code pc = .ok (.ishr, 1)) (hn : pc + 1 = n) (hr : x >>> (y &&& 31) = r) (K : Ends p.tables e below Q F (T.setTop (mkF m n Ls (.int r :: rest)))) : Ends p.tables e below Q F (T.setTop (mkF m pc Ls (.int y :: .int x :: rest))) := by
  subst hn; exact K.step fun t k => XS.ishr (g := mkF m pc Ls (.int y :: .int x :: rest)) X.here hx rfl hd rfl (hr ▸ k)
theorem iushr (n : Nat) (X : Stand p l e R s m args below meth c T locs cells slots) (hx : p.tables.exec = Jvm.exec) {x y r : Int32} {rest : List Value} (hd : decode c.code pc = .ok (.iushr, 1)) (hn : pc + 1 = n) (hr : (x.toUInt32 >>> (y &&& 31).toUInt32).toInt32 = r) (K : Ends p.tables e below Q F (T.setTop (mkF m n Ls (.int r :: rest)))) : Ends p.tables e below Q F (T.setTop (mkF m pc Ls (.int y :: .int x :: rest))) := by
  subst hn; exact K.step fun t k => XS.iushr (g := mkF m pc Ls (.int y :: .int x :: rest)) X.here hx rfl hd rfl (hr ▸ k)
theorem ladd (n : Nat) (X : Stand p l e R s m args below meth c T locs cells slots) (hx : p.tables.exec = Jvm.exec) {x y r : Int64} {rest : List Value} (hd : decode c.code pc = .ok (.ladd, 1)) (hn : pc + 1 = n) (hr : x + y = r) (K : Ends p.tables e below Q F (T.setTop (mkF m n Ls (.long r :: rest)))) : Ends p.tables e below Q F (T.setTop (mkF m pc Ls (.long y :: .long x :: rest))) := by
  subst hn; exact K.step fun t k => XS.ladd (g := mkF m pc Ls (.long y :: .long x :: rest)) X.here hx rfl hd rfl (hr ▸ k)
theorem lsub (n : Nat) (X : Stand p l e R s m args below meth c T locs cells slots) (hx : p.tables.exec = Jvm.exec) {x y r : Int64} {rest : List Value} (hd : decode c.code pc = .ok (.lsub, 1)) (hn : pc + 1 = n) (hr : x - y = r) (K : Ends p.tables e below Q F (T.setTop (mkF m n Ls (.long r :: rest)))) : Ends p.tables e below Q F (T.setTop (mkF m pc Ls (.long y :: .long x :: rest))) := by
  subst hn; exact K.step fun t k => XS.lsub (g := mkF m pc Ls (.long y :: .long x :: rest)) X.here hx rfl hd rfl (hr ▸ k)
theorem land (n : Nat) (X : Stand p l e R s m args below meth c T locs cells slots) (hx : p.tables.exec = Jvm.exec) {x y r : Int64} {rest : List Value} (hd : decode c.code pc = .ok (.land, 1)) (hn : pc + 1 = n) (hr : x &&& y = r) (K : Ends p.tables e below Q F (T.setTop (mkF m n Ls (.long r :: rest)))) : Ends p.tables e below Q F (T.setTop (mkF m pc Ls (.long y :: .long x :: rest))) := by
  subst hn; exact K.step fun t k => XS.land (g := mkF m pc Ls (.long y :: .long x :: rest)) X.here hx rfl hd rfl (hr ▸ k)
theorem lmul (n : Nat) (X : Stand p l e R s m args below meth c T locs cells slots) (hx : p.tables.exec = Jvm.exec) {x y r : Int64} {rest : List Value} (hd : decode c.code pc = .ok (.lmul, 1)) (hn : pc + 1 = n) (hr : x * y = r) (K : Ends p.tables e below Q F (T.setTop (mkF m n Ls (.long r :: rest)))) : Ends p.tables e below Q F (T.setTop (mkF m pc Ls (.long y :: .long x :: rest))) := by
  subst hn; exact K.step fun t k => XS.lmul (g := mkF m pc Ls (.long y :: .long x :: rest)) X.here hx rfl hd rfl (hr ▸ k)
theorem lor (n : Nat) (X : Stand p l e R s m args below meth c T locs cells slots) (hx : p.tables.exec = Jvm.exec) {x y r : Int64} {rest : List Value} (hd : decode c.code pc = .ok (.lor, 1)) (hn : pc + 1 = n) (hr : x ||| y = r) (K : Ends p.tables e below Q F (T.setTop (mkF m n Ls (.long r :: rest)))) : Ends p.tables e below Q F (T.setTop (mkF m pc Ls (.long y :: .long x :: rest))) := by
  subst hn; exact K.step fun t k => XS.lor (g := mkF m pc Ls (.long y :: .long x :: rest)) X.here hx rfl hd rfl (hr ▸ k)
theorem lxor (n : Nat) (X : Stand p l e R s m args below meth c T locs cells slots) (hx : p.tables.exec = Jvm.exec) {x y r : Int64} {rest : List Value} (hd : decode c.code pc = .ok (.lxor, 1)) (hn : pc + 1 = n) (hr : x ^^^ y = r) (K : Ends p.tables e below Q F (T.setTop (mkF m n Ls (.long r :: rest)))) : Ends p.tables e below Q F (T.setTop (mkF m pc Ls (.long y :: .long x :: rest))) := by
  subst hn; exact K.step fun t k => XS.lxor (g := mkF m pc Ls (.long y :: .long x :: rest)) X.here hx rfl hd rfl (hr ▸ k)
theorem lshl (n : Nat) (X : Stand p l e R s m args below meth c T locs cells slots) (hx : p.tables.exec = Jvm.exec) {x r : Int64} {y : Int32} {rest : List Value} (hd : decode c.code pc = .ok (.lshl, 1)) (hn : pc + 1 = n) (hr : x <<< (y &&& 0x3f).toInt64 = r) (K : Ends p.tables e below Q F (T.setTop (mkF m n Ls (.long r :: rest)))) : Ends p.tables e below Q F (T.setTop (mkF m pc Ls (.int y :: .long x :: rest))) := by
  subst hn; exact K.step fun t k => XS.lshl (g := mkF m pc Ls (.int y :: .long x :: rest)) X.here hx rfl hd rfl (hr ▸ k)
theorem lshr (n : Nat) (X : Stand p l e R s m args below meth c T locs cells slots) (hx : p.tables.exec = Jvm.exec) {x r : Int64} {y : Int32} {rest : List Value} (hd : decode c.code pc = .ok (.lshr, 1)) (hn : pc + 1 = n) (hr : x >>> (y &&& 0x3f).toInt64 = r) (K : Ends p.tables e below Q F (T.setTop (mkF m n Ls (.long r :: rest)))) : Ends p.tables e below Q F (T.setTop (mkF m pc Ls (.int y :: .long x :: rest))) := by
  subst hn; exact K.step fun t k => XS.lshr (g := mkF m pc Ls (.int y :: .long x :: rest)) X.here hx rfl hd rfl (hr ▸ k)
theorem lushr (n : Nat) (X : Stand p l e R s m args below meth c T locs cells slots) (hx : p.tables.exec = Jvm.exec) {x r : Int64} {y : Int32} {rest : List Value} (hd : decode c.code pc = .ok (.lushr, 1)) (hn : pc + 1 = n) (hr : (x.toUInt64 >>> (y &&& 0x3f).toInt64.toUInt64).toInt64 = r) (K : Ends p.tables e below Q F (T.setTop (mkF m n Ls (.long r :: rest)))) : Ends p.tables e below Q F (T.setTop (mkF m pc Ls (.int y :: .long x :: rest))) := by
  subst hn; exact K.step fun t k => XS.lushr (g := mkF m pc Ls (.int y :: .long x :: rest)) X.here hx rfl hd rfl (hr ▸ k)
theorem idiv (n : Nat) (X : Stand p l e R s m args below meth c T locs cells slots) (hx : p.tables.exec = Jvm.exec) {x y r : Int32} {rest : List Value} (hd : decode c.code pc = .ok (.idiv, 1)) (hn : pc + 1 = n) (hy : y ≠ 0) (hr : x / y = r) (K : Ends p.tables e below Q F (T.setTop (mkF m n Ls (.int r :: rest)))) : Ends p.tables e below Q F (T.setTop (mkF m pc Ls (.int y :: .int x :: rest))) := by
  subst hn; exact K.step fun t k => XS.idiv (g := mkF m pc Ls (.int y :: .int x :: rest)) X.here hx rfl hd rfl hy (hr ▸ k)
theorem irem (n : Nat) (X : Stand p l e R s m args below meth c T locs cells slots) (hx : p.tables.exec = Jvm.exec) {x y r : Int32} {rest : List Value} (hd : decode c.code pc = .ok (.irem, 1)) (hn : pc + 1 = n) (hy : y ≠ 0) (hr : x % y = r) (K : Ends p.tables e below Q F (T.setTop (mkF m n Ls (.int r :: rest)))) : Ends p.tables e below Q F (T.setTop (mkF m pc Ls (.int y :: .int x :: rest))) := by
  subst hn; exact K.step fun t k => iremM (g := mkF m pc Ls (.int y :: .int x :: rest)) X hx rfl hd rfl hy (hr ▸ k)
theorem ldiv (n : Nat) (X : Stand p l e R s m args below meth c T locs cells slots) (hx : p.tables.exec = Jvm.exec) {x y r : Int64} {rest : List Value} (hd : decode c.code pc = .ok (.ldiv, 1)) (hn : pc + 1 = n) (hy : y ≠ 0) (hr : x / y = r) (K : Ends p.tables e below Q F (T.setTop (mkF m n Ls (.long r :: rest)))) : Ends p.tables e below Q F (T.setTop (mkF m pc Ls (.long y :: .long x :: rest))) := by
  subst hn; exact K.step fun t k => XS.ldiv (g := mkF m pc Ls (.long y :: .long x :: rest)) X.here hx rfl hd rfl hy (hr ▸ k)
theorem lrem (n : Nat) (X : Stand p l e R s m args below meth c T locs cells slots) (hx : p.tables.exec = Jvm.exec) {x y r : Int64} {rest : List Value} (hd : decode c.code pc = .ok (.lrem, 1)) (hn : pc + 1 = n) (hy : y ≠ 0) (hr : x % y = r) (K : Ends p.tables e below Q F (T.setTop (mkF m n Ls (.long r :: rest)))) : Ends p.tables e below Q F (T.setTop (mkF m pc Ls (.long y :: .long x :: rest))) := by
  subst hn; exact K.step fun t k => XS.lrem (g := mkF m pc Ls (.long y :: .long x :: rest)) X.here hx rfl hd rfl hy (by rw [lrem_mod, hr]; exact k)
theorem ineg (n : Nat) (X : Stand p l e R s m args below meth c T locs cells slots) (hx : p.tables.exec = Jvm.exec) {x : Int32} {r : Int32} {rest : List Value} (hd : decode c.code pc = .ok (.ineg, 1)) (hn : pc + 1 = n) (hr : -x = r) (K : Ends p.tables e below Q F (T.setTop (mkF m n Ls (.int r :: rest)))) : Ends p.tables e below Q F (T.setTop (mkF m pc Ls (.int x :: rest))) := by
  subst hn; exact K.step fun t k => XS.ineg (g := mkF m pc Ls (.int x :: rest)) X.here hx rfl hd rfl (hr ▸ k)
theorem lneg (n : Nat) (X : Stand p l e R s m args below meth c T locs cells slots) (hx : p.tables.exec = Jvm.exec) {x : Int64} {r : Int64} {rest : List Value} (hd : decode c.code pc = .ok (.lneg, 1)) (hn : pc + 1 = n) (hr : -x = r) (K : Ends p.tables e below Q F (T.setTop (mkF m n Ls (.long r :: rest)))) : Ends p.tables e below Q F (T.setTop (mkF m pc Ls (.long x :: rest))) := by
  subst hn; exact K.step fun t k => XS.lneg (g := mkF m pc Ls (.long x :: rest)) X.here hx rfl hd rfl (hr ▸ k)
theorem i2l (n : Nat) (X : Stand p l e R s m args below meth c T locs cells slots) (hx : p.tables.exec = Jvm.exec) {x : Int32} {r : Int64} {rest : List Value} (hd : decode c.code pc = .ok (.i2l, 1)) (hn : pc + 1 = n) (hr : x.toInt64 = r) (K : Ends p.tables e below Q F (T.setTop (mkF m n Ls (.long r :: rest)))) : Ends p.tables e below Q F (T.setTop (mkF m pc Ls (.int x :: rest))) := by
  subst hn; exact K.step fun t k => XS.i2l (g := mkF m pc Ls (.int x :: rest)) X.here hx rfl hd rfl (hr ▸ k)
theorem l2i (n : Nat) (X : Stand p l e R s m args below meth c T locs cells slots) (hx : p.tables.exec = Jvm.exec) {x : Int64} {r : Int32} {rest : List Value} (hd : decode c.code pc = .ok (.l2i, 1)) (hn : pc + 1 = n) (hr : x.toInt32 = r) (K : Ends p.tables e below Q F (T.setTop (mkF m n Ls (.int r :: rest)))) : Ends p.tables e below Q F (T.setTop (mkF m pc Ls (.long x :: rest))) := by
  subst hn; exact K.step fun t k => XS.l2i (g := mkF m pc Ls (.long x :: rest)) X.here hx rfl hd rfl (hr ▸ k)
theorem i2b (n : Nat) (X : Stand p l e R s m args below meth c T locs cells slots) (hx : p.tables.exec = Jvm.exec) {x : Int32} {r : Int32} {rest : List Value} (hd : decode c.code pc = .ok (.i2b, 1)) (hn : pc + 1 = n) (hr : x.toInt8.toInt32 = r) (K : Ends p.tables e below Q F (T.setTop (mkF m n Ls (.int r :: rest)))) : Ends p.tables e below Q F (T.setTop (mkF m pc Ls (.int x :: rest))) := by
  subst hn; exact K.step fun t k => XS.i2b (g := mkF m pc Ls (.int x :: rest)) X.here hx rfl hd rfl (hr ▸ k)
theorem i2c (n : Nat) (X : Stand p l e R s m args below meth c T locs cells slots) (hx : p.tables.exec = Jvm.exec) {x : Int32} {r : Int32} {rest : List Value} (hd : decode c.code pc = .ok (.i2c, 1)) (hn : pc + 1 = n) (hr : x.toUInt32.toUInt16.toUInt32.toInt32 = r) (K : Ends p.tables e below Q F (T.setTop (mkF m n Ls (.int r :: rest)))) : Ends p.tables e below Q F (T.setTop (mkF m pc Ls (.int x :: rest))) := by
  subst hn; exact K.step fun t k => XS.i2c (g := mkF m pc Ls (.int x :: rest)) X.here hx rfl hd rfl (hr ▸ k)
theorem i2s (n : Nat) (X : Stand p l e R s m args below meth c T locs cells slots) (hx : p.tables.exec = Jvm.exec) {x : Int32} {r : Int32} {rest : List Value} (hd : decode c.code pc = .ok (.i2s, 1)) (hn : pc + 1 = n) (hr : x.toInt16.toInt32 = r) (K : Ends p.tables e below Q F (T.setTop (mkF m n Ls (.int r :: rest)))) : Ends p.tables e below Q F (T.setTop (mkF m pc Ls (.int x :: rest))) := by
  subst hn; exact K.step fun t k => XS.i2s (g := mkF m pc Ls (.int x :: rest)) X.here hx rfl hd rfl (hr ▸ k)
theorem dup (n : Nat) (X : Stand p l e R s m args below meth c T locs cells slots) (hx : p.tables.exec = Jvm.exec) {x : Value} {rest : List Value} (hd : decode c.code pc = .ok (.dup, 1)) (hn : pc + 1 = n) (hc : x.category = 1) (K : Ends p.tables e below Q F (T.setTop (mkF m n Ls (x :: x :: rest)))) : Ends p.tables e below Q F (T.setTop (mkF m pc Ls (x :: rest))) := by
  subst hn; exact K.step fun t k => XS.dup (g := mkF m pc Ls (x :: rest)) X.here hx rfl hd rfl hc k
theorem pop (n : Nat) (X : Stand p l e R s m args below meth c T locs cells slots) (hx : p.tables.exec = Jvm.exec) {x : Value} {rest : List Value} (hd : decode c.code pc = .ok (.pop, 1)) (hn : pc + 1 = n) (hc : x.category = 1) (K : Ends p.tables e below Q F (T.setTop (mkF m n Ls (rest)))) : Ends p.tables e below Q F (T.setTop (mkF m pc Ls (x :: rest))) := by
  subst hn; exact K.step fun t k => XS.pop (g := mkF m pc Ls (x :: rest)) X.here hx rfl hd rfl hc k
theorem dupX1 (n : Nat) (X : Stand p l e R s m args below meth c T locs cells slots) (hx : p.tables.exec = Jvm.exec) {x y : Value} {rest : List Value} (hd : decode c.code pc = .ok (.dup_x1, 1)) (hn : pc + 1 = n) (hc : x.category = 1) (hc2 : y.category = 1) (K : Ends p.tables e below Q F (T.setTop (mkF m n Ls (x :: y :: x :: rest)))) : Ends p.tables e below Q F (T.setTop (mkF m pc Ls (x :: y :: rest))) := by
  subst hn; exact K.step fun t k => XS.dupX1 (g := mkF m pc Ls (x :: y :: rest)) X.here hx rfl hd rfl hc hc2 k
theorem istore (n : Nat) (Fs : Int32 → Array Slot) (X : Stand p l e R s m args below meth c T locs cells slots) (hx : p.tables.exec = Jvm.exec) {k : Nat} {x : Int32} {rest : List Value} (hd : decode c.code pc = .ok (.istore k, 2)) (hn : pc + 2 = n) (hl : ∀ z, storeLocals Ls k (.int z) = some (Fs z)) (K : ∀ z, z = x → Ends p.tables e below Q F (T.setTop (mkF m n (Fs z) (rest)))) : Ends p.tables e below Q F (T.setTop (mkF m pc Ls (.int x :: rest))) := by
  subst hn; exact (K x rfl).step fun t k => XS.istore (g := mkF m pc Ls (.int x :: rest)) X.here hx rfl hd rfl (hl x) k
theorem istoreV (n : Nat) (L1 : Array Slot) (X : Stand p l e R s m args below meth c T locs cells slots) (hx : p.tables.exec = Jvm.exec) {k : Nat} {x : Int32} {rest : List Value} (hd : decode c.code pc = .ok (.istore k, 2)) (hn : pc + 2 = n) (hl : storeLocals Ls k (.int x) = some L1) (K : Ends p.tables e below Q F (T.setTop (mkF m n L1 (rest)))) : Ends p.tables e below Q F (T.setTop (mkF m pc Ls (.int x :: rest))) := by
  subst hn; exact K.step fun t k => XS.istore (g := mkF m pc Ls (.int x :: rest)) X.here hx rfl hd rfl hl k
theorem istoreN (n : Nat) (Fs : Int32 → Array Slot) (X : Stand p l e R s m args below meth c T locs cells slots) (hx : p.tables.exec = Jvm.exec) {k : Fin 4} {x : Int32} {rest : List Value} (hd : decode c.code pc = .ok (.istore_n k, 1)) (hn : pc + 1 = n) (hl : ∀ z, storeLocals Ls k.val (.int z) = some (Fs z)) (K : ∀ z, z = x → Ends p.tables e below Q F (T.setTop (mkF m n (Fs z) (rest)))) : Ends p.tables e below Q F (T.setTop (mkF m pc Ls (.int x :: rest))) := by
  subst hn; exact (K x rfl).step fun t k => XS.istoreN (g := mkF m pc Ls (.int x :: rest)) X.here hx rfl hd rfl (hl x) k
theorem istoreNV (n : Nat) (L1 : Array Slot) (X : Stand p l e R s m args below meth c T locs cells slots) (hx : p.tables.exec = Jvm.exec) {k : Fin 4} {x : Int32} {rest : List Value} (hd : decode c.code pc = .ok (.istore_n k, 1)) (hn : pc + 1 = n) (hl : storeLocals Ls k.val (.int x) = some L1) (K : Ends p.tables e below Q F (T.setTop (mkF m n L1 (rest)))) : Ends p.tables e below Q F (T.setTop (mkF m pc Ls (.int x :: rest))) := by
  subst hn; exact K.step fun t k => XS.istoreN (g := mkF m pc Ls (.int x :: rest)) X.here hx rfl hd rfl hl k
theorem lstore (n : Nat) (Fs : Int64 → Array Slot) (X : Stand p l e R s m args below meth c T locs cells slots) (hx : p.tables.exec = Jvm.exec) {k : Nat} {x : Int64} {rest : List Value} (hd : decode c.code pc = .ok (.lstore k, 2)) (hn : pc + 2 = n) (hl : ∀ z, storeLocals Ls k (.long z) = some (Fs z)) (K : ∀ z, z = x → Ends p.tables e below Q F (T.setTop (mkF m n (Fs z) (rest)))) : Ends p.tables e below Q F (T.setTop (mkF m pc Ls (.long x :: rest))) := by
  subst hn; exact (K x rfl).step fun t k => XS.lstore (g := mkF m pc Ls (.long x :: rest)) X.here hx rfl hd rfl (hl x) k
theorem lstoreV (n : Nat) (L1 : Array Slot) (X : Stand p l e R s m args below meth c T locs cells slots) (hx : p.tables.exec = Jvm.exec) {k : Nat} {x : Int64} {rest : List Value} (hd : decode c.code pc = .ok (.lstore k, 2)) (hn : pc + 2 = n) (hl : storeLocals Ls k (.long x) = some L1) (K : Ends p.tables e below Q F (T.setTop (mkF m n L1 (rest)))) : Ends p.tables e below Q F (T.setTop (mkF m pc Ls (.long x :: rest))) := by
  subst hn; exact K.step fun t k => XS.lstore (g := mkF m pc Ls (.long x :: rest)) X.here hx rfl hd rfl hl k
theorem lstoreN (n : Nat) (Fs : Int64 → Array Slot) (X : Stand p l e R s m args below meth c T locs cells slots) (hx : p.tables.exec = Jvm.exec) {k : Fin 4} {x : Int64} {rest : List Value} (hd : decode c.code pc = .ok (.lstore_n k, 1)) (hn : pc + 1 = n) (hl : ∀ z, storeLocals Ls k.val (.long z) = some (Fs z)) (K : ∀ z, z = x → Ends p.tables e below Q F (T.setTop (mkF m n (Fs z) (rest)))) : Ends p.tables e below Q F (T.setTop (mkF m pc Ls (.long x :: rest))) := by
  subst hn; exact (K x rfl).step fun t k => XS.lstoreN (g := mkF m pc Ls (.long x :: rest)) X.here hx rfl hd rfl (hl x) k
theorem lstoreNV (n : Nat) (L1 : Array Slot) (X : Stand p l e R s m args below meth c T locs cells slots) (hx : p.tables.exec = Jvm.exec) {k : Fin 4} {x : Int64} {rest : List Value} (hd : decode c.code pc = .ok (.lstore_n k, 1)) (hn : pc + 1 = n) (hl : storeLocals Ls k.val (.long x) = some L1) (K : Ends p.tables e below Q F (T.setTop (mkF m n L1 (rest)))) : Ends p.tables e below Q F (T.setTop (mkF m pc Ls (.long x :: rest))) := by
  subst hn; exact K.step fun t k => XS.lstoreN (g := mkF m pc Ls (.long x :: rest)) X.here hx rfl hd rfl hl k
theorem astore (n : Nat) (L1 : Array Slot) (X : Stand p l e R s m args below meth c T locs cells slots) (hx : p.tables.exec = Jvm.exec) {k : Nat} {x : Value} {rest : List Value} (hd : decode c.code pc = .ok (.astore k, 2)) (hn : pc + 2 = n) (hv : x.isRef = true) (hl : storeLocals Ls k x = some L1) (K : Ends p.tables e below Q F (T.setTop (mkF m n L1 (rest)))) : Ends p.tables e below Q F (T.setTop (mkF m pc Ls (x :: rest))) := by
  subst hn; exact K.step fun t k => XS.astore (g := mkF m pc Ls (x :: rest)) X.here hx rfl hd rfl hv hl k
theorem astoreN (n : Nat) (L1 : Array Slot) (X : Stand p l e R s m args below meth c T locs cells slots) (hx : p.tables.exec = Jvm.exec) {k : Fin 4} {x : Value} {rest : List Value} (hd : decode c.code pc = .ok (.astore_n k, 1)) (hn : pc + 1 = n) (hv : x.isRef = true) (hl : storeLocals Ls k.val x = some L1) (K : Ends p.tables e below Q F (T.setTop (mkF m n L1 (rest)))) : Ends p.tables e below Q F (T.setTop (mkF m pc Ls (x :: rest))) := by
  subst hn; exact K.step fun t k => XS.astoreN (g := mkF m pc Ls (x :: rest)) X.here hx rfl hd rfl hv hl k
theorem iinc (n : Nat) (Fs : Int32 → Array Slot) (X : Stand p l e R s m args below meth c T locs cells slots) (hx : p.tables.exec = Jvm.exec) {k : Nat} {cst : Int} {x : Int32} (d : Int32) (hd : decode c.code pc = .ok (.iinc k cst, 3)) (hn : pc + 3 = n) (hc : Int32.ofInt cst = d) (hl : Ls[k]? = some (.val (.int x))) (hl2 : ∀ z, storeLocals Ls k (.int z) = some (Fs z)) (K : ∀ z, z = x + d → Ends p.tables e below Q F (T.setTop (mkF m n (Fs z) (st)))) : Ends p.tables e below Q F (T.setTop (mkF m pc Ls (st))) := by
  subst hn hc; exact (K _ rfl).step fun t k => XS.iinc (g := mkF m pc Ls st) X.here hx rfl hd hl (hl2 _) k
theorem goto (n : Nat) (X : Stand p l e R s m args below meth c T locs cells slots) (hx : p.tables.exec = Jvm.exec) {o : Int} (hd : decode c.code pc = .ok (.goto o, 3)) (hn : 0 ≤ (pc : Int) + o ∧ ((pc : Int) + o).toNat = n) (K : Ends p.tables e below Q F (T.setTop (mkF m n Ls (st)))) : Ends p.tables e below Q F (T.setTop (mkF m pc Ls (st))) :=
  K.step fun t k => XS.goto (g := mkF m pc Ls st) X.here hx rfl (pc0 := pc) (pc' := n) rfl hd hn.1 hn.2 k
theorem icmpB (nY nN : Nat) (X : Stand p l e R s m args below meth c T locs cells slots) (hx : p.tables.exec = Jvm.exec) {cd : ClassFile.Cond} {o : Int} {x y : Int32} {rest : List Value} (hd : decode c.code pc = .ok (.if_icmp cd o, 3)) (hY : 0 ≤ (pc : Int) + o ∧ ((pc : Int) + o).toNat = nY) (hN : pc + 3 = nN) (KY : if_icmp.holds cd x y = true → Ends p.tables e below Q F (T.setTop (mkF m nY Ls (rest)))) (KN : if_icmp.holds cd x y = false → Ends p.tables e below Q F (T.setTop (mkF m nN Ls (rest)))) : Ends p.tables e below Q F (T.setTop (mkF m pc Ls (.int y :: .int x :: rest))) := by
  subst hN
  cases hb : if_icmp.holds cd x y with
  | true => exact (KY hb).step fun t k => XS.icmpYes (g := mkF m pc Ls (.int y :: .int x :: rest)) X.here hx rfl (pc0 := pc) (pc' := nY) rfl hd rfl hb hY.1 hY.2 k
  | false => exact (KN hb).step fun t k => XS.icmpNo (g := mkF m pc Ls (.int y :: .int x :: rest)) X.here hx rfl hd rfl hb k
theorem ifB (nY nN : Nat) (X : Stand p l e R s m args below meth c T locs cells slots) (hx : p.tables.exec = Jvm.exec) {cd : ClassFile.Cond} {o : Int} {x : Int32} {rest : List Value} (hd : decode c.code pc = .ok (.ifCond cd o, 3)) (hY : 0 ≤ (pc : Int) + o ∧ ((pc : Int) + o).toNat = nY) (hN : pc + 3 = nN) (KY : if_icmp.holds cd x 0 = true → Ends p.tables e below Q F (T.setTop (mkF m nY Ls (rest)))) (KN : if_icmp.holds cd x 0 = false → Ends p.tables e below Q F (T.setTop (mkF m nN Ls (rest)))) : Ends p.tables e below Q F (T.setTop (mkF m pc Ls (.int x :: rest))) := by
  subst hN
  cases hb : if_icmp.holds cd x 0 with
  | true => exact (KY hb).step fun t k => XS.ifYes (g := mkF m pc Ls (.int x :: rest)) X.here hx rfl (pc0 := pc) (pc' := nY) rfl hd rfl ((if0 _ _).trans hb) hY.1 hY.2 k
  | false => exact (KN hb).step fun t k => XS.ifNo (g := mkF m pc Ls (.int x :: rest)) X.here hx rfl hd rfl ((if0 _ _).trans hb) k
theorem h_lt {x y : Int32} : (if_icmp.holds .lt x y = true → x < y) ∧ (if_icmp.holds .lt x y = false → ¬ x < y) := by simp [if_icmp.holds]
theorem h_ge {x y : Int32} : (if_icmp.holds .ge x y = true → ¬ x < y) ∧ (if_icmp.holds .ge x y = false → x < y) := by simp [if_icmp.holds, Int32.not_lt, Int32.not_le]
theorem h_gt {x y : Int32} : (if_icmp.holds .gt x y = true → y < x) ∧ (if_icmp.holds .gt x y = false → ¬ y < x) := by simp [if_icmp.holds, Int32.not_lt, Int32.not_le]
theorem h_le {x y : Int32} : (if_icmp.holds .le x y = true → ¬ y < x) ∧ (if_icmp.holds .le x y = false → y < x) := by simp [if_icmp.holds, Int32.not_lt, Int32.not_le]
theorem h_eq {x y : Int32} : (if_icmp.holds .eq x y = true → x = y) ∧ (if_icmp.holds .eq x y = false → ¬ x = y) := by simp [if_icmp.holds]
theorem h_ne {x y : Int32} : (if_icmp.holds .ne x y = true → ¬ x = y) ∧ (if_icmp.holds .ne x y = false → x = y) := by simp [if_icmp.holds]
theorem icmp_lt (nY nN : Nat) (X : Stand p l e R s m args below meth c T locs cells slots) (hx : p.tables.exec = Jvm.exec) {o : Int} {x y : Int32} {rest : List Value} (hd : decode c.code pc = .ok (.if_icmp .lt o, 3)) (hY : 0 ≤ (pc : Int) + o ∧ ((pc : Int) + o).toNat = nY) (hN : pc + 3 = nN) (KY : x < y → Ends p.tables e below Q F (T.setTop (mkF m nY Ls (rest)))) (KN : ¬ x < y → Ends p.tables e below Q F (T.setTop (mkF m nN Ls (rest)))) : Ends p.tables e below Q F (T.setTop (mkF m pc Ls (.int y :: .int x :: rest))) :=
  icmpB nY nN X hx hd hY hN (fun hb => KY (h_lt.1 hb)) (fun hb => KN (h_lt.2 hb))
theorem if_lt (nY nN : Nat) (X : Stand p l e R s m args below meth c T locs cells slots) (hx : p.tables.exec = Jvm.exec) {o : Int} {x : Int32} {rest : List Value} (hd : decode c.code pc = .ok (.ifCond .lt o, 3)) (hY : 0 ≤ (pc : Int) + o ∧ ((pc : Int) + o).toNat = nY) (hN : pc + 3 = nN) (KY : x < 0 → Ends p.tables e below Q F (T.setTop (mkF m nY Ls (rest)))) (KN : ¬ x < 0 → Ends p.tables e below Q F (T.setTop (mkF m nN Ls (rest)))) : Ends p.tables e below Q F (T.setTop (mkF m pc Ls (.int x :: rest))) :=
  ifB nY nN X hx hd hY hN (fun hb => KY (h_lt.1 hb)) (fun hb => KN (h_lt.2 hb))
theorem icmp_ge (nY nN : Nat) (X : Stand p l e R s m args below meth c T locs cells slots) (hx : p.tables.exec = Jvm.exec) {o : Int} {x y : Int32} {rest : List Value} (hd : decode c.code pc = .ok (.if_icmp .ge o, 3)) (hY : 0 ≤ (pc : Int) + o ∧ ((pc : Int) + o).toNat = nY) (hN : pc + 3 = nN) (KY : ¬ x < y → Ends p.tables e below Q F (T.setTop (mkF m nY Ls (rest)))) (KN : x < y → Ends p.tables e below Q F (T.setTop (mkF m nN Ls (rest)))) : Ends p.tables e below Q F (T.setTop (mkF m pc Ls (.int y :: .int x :: rest))) :=
  icmpB nY nN X hx hd hY hN (fun hb => KY (h_ge.1 hb)) (fun hb => KN (h_ge.2 hb))
theorem if_ge (nY nN : Nat) (X : Stand p l e R s m args below meth c T locs cells slots) (hx : p.tables.exec = Jvm.exec) {o : Int} {x : Int32} {rest : List Value} (hd : decode c.code pc = .ok (.ifCond .ge o, 3)) (hY : 0 ≤ (pc : Int) + o ∧ ((pc : Int) + o).toNat = nY) (hN : pc + 3 = nN) (KY : ¬ x < 0 → Ends p.tables e below Q F (T.setTop (mkF m nY Ls (rest)))) (KN : x < 0 → Ends p.tables e below Q F (T.setTop (mkF m nN Ls (rest)))) : Ends p.tables e below Q F (T.setTop (mkF m pc Ls (.int x :: rest))) :=
  ifB nY nN X hx hd hY hN (fun hb => KY (h_ge.1 hb)) (fun hb => KN (h_ge.2 hb))
theorem icmp_gt (nY nN : Nat) (X : Stand p l e R s m args below meth c T locs cells slots) (hx : p.tables.exec = Jvm.exec) {o : Int} {x y : Int32} {rest : List Value} (hd : decode c.code pc = .ok (.if_icmp .gt o, 3)) (hY : 0 ≤ (pc : Int) + o ∧ ((pc : Int) + o).toNat = nY) (hN : pc + 3 = nN) (KY : y < x → Ends p.tables e below Q F (T.setTop (mkF m nY Ls (rest)))) (KN : ¬ y < x → Ends p.tables e below Q F (T.setTop (mkF m nN Ls (rest)))) : Ends p.tables e below Q F (T.setTop (mkF m pc Ls (.int y :: .int x :: rest))) :=
  icmpB nY nN X hx hd hY hN (fun hb => KY (h_gt.1 hb)) (fun hb => KN (h_gt.2 hb))
theorem if_gt (nY nN : Nat) (X : Stand p l e R s m args below meth c T locs cells slots) (hx : p.tables.exec = Jvm.exec) {o : Int} {x : Int32} {rest : List Value} (hd : decode c.code pc = .ok (.ifCond .gt o, 3)) (hY : 0 ≤ (pc : Int) + o ∧ ((pc : Int) + o).toNat = nY) (hN : pc + 3 = nN) (KY : 0 < x → Ends p.tables e below Q F (T.setTop (mkF m nY Ls (rest)))) (KN : ¬ 0 < x → Ends p.tables e below Q F (T.setTop (mkF m nN Ls (rest)))) : Ends p.tables e below Q F (T.setTop (mkF m pc Ls (.int x :: rest))) :=
  ifB nY nN X hx hd hY hN (fun hb => KY (h_gt.1 hb)) (fun hb => KN (h_gt.2 hb))
theorem icmp_le (nY nN : Nat) (X : Stand p l e R s m args below meth c T locs cells slots) (hx : p.tables.exec = Jvm.exec) {o : Int} {x y : Int32} {rest : List Value} (hd : decode c.code pc = .ok (.if_icmp .le o, 3)) (hY : 0 ≤ (pc : Int) + o ∧ ((pc : Int) + o).toNat = nY) (hN : pc + 3 = nN) (KY : ¬ y < x → Ends p.tables e below Q F (T.setTop (mkF m nY Ls (rest)))) (KN : y < x → Ends p.tables e below Q F (T.setTop (mkF m nN Ls (rest)))) : Ends p.tables e below Q F (T.setTop (mkF m pc Ls (.int y :: .int x :: rest))) :=
  icmpB nY nN X hx hd hY hN (fun hb => KY (h_le.1 hb)) (fun hb => KN (h_le.2 hb))
theorem if_le (nY nN : Nat) (X : Stand p l e R s m args below meth c T locs cells slots) (hx : p.tables.exec = Jvm.exec) {o : Int} {x : Int32} {rest : List Value} (hd : decode c.code pc = .ok (.ifCond .le o, 3)) (hY : 0 ≤ (pc : Int) + o ∧ ((pc : Int) + o).toNat = nY) (hN : pc + 3 = nN) (KY : ¬ 0 < x → Ends p.tables e below Q F (T.setTop (mkF m nY Ls (rest)))) (KN : 0 < x → Ends p.tables e below Q F (T.setTop (mkF m nN Ls (rest)))) : Ends p.tables e below Q F (T.setTop (mkF m pc Ls (.int x :: rest))) :=
  ifB nY nN X hx hd hY hN (fun hb => KY (h_le.1 hb)) (fun hb => KN (h_le.2 hb))
theorem icmp_eq (nY nN : Nat) (X : Stand p l e R s m args below meth c T locs cells slots) (hx : p.tables.exec = Jvm.exec) {o : Int} {x y : Int32} {rest : List Value} (hd : decode c.code pc = .ok (.if_icmp .eq o, 3)) (hY : 0 ≤ (pc : Int) + o ∧ ((pc : Int) + o).toNat = nY) (hN : pc + 3 = nN) (KY : x = y → Ends p.tables e below Q F (T.setTop (mkF m nY Ls (rest)))) (KN : ¬ x = y → Ends p.tables e below Q F (T.setTop (mkF m nN Ls (rest)))) : Ends p.tables e below Q F (T.setTop (mkF m pc Ls (.int y :: .int x :: rest))) :=
  icmpB nY nN X hx hd hY hN (fun hb => KY (h_eq.1 hb)) (fun hb => KN (h_eq.2 hb))
theorem if_eq (nY nN : Nat) (X : Stand p l e R s m args below meth c T locs cells slots) (hx : p.tables.exec = Jvm.exec) {o : Int} {x : Int32} {rest : List Value} (hd : decode c.code pc = .ok (.ifCond .eq o, 3)) (hY : 0 ≤ (pc : Int) + o ∧ ((pc : Int) + o).toNat = nY) (hN : pc + 3 = nN) (KY : x = 0 → Ends p.tables e below Q F (T.setTop (mkF m nY Ls (rest)))) (KN : ¬ x = 0 → Ends p.tables e below Q F (T.setTop (mkF m nN Ls (rest)))) : Ends p.tables e below Q F (T.setTop (mkF m pc Ls (.int x :: rest))) :=
  ifB nY nN X hx hd hY hN (fun hb => KY (h_eq.1 hb)) (fun hb => KN (h_eq.2 hb))
theorem icmp_ne (nY nN : Nat) (X : Stand p l e R s m args below meth c T locs cells slots) (hx : p.tables.exec = Jvm.exec) {o : Int} {x y : Int32} {rest : List Value} (hd : decode c.code pc = .ok (.if_icmp .ne o, 3)) (hY : 0 ≤ (pc : Int) + o ∧ ((pc : Int) + o).toNat = nY) (hN : pc + 3 = nN) (KY : ¬ x = y → Ends p.tables e below Q F (T.setTop (mkF m nY Ls (rest)))) (KN : x = y → Ends p.tables e below Q F (T.setTop (mkF m nN Ls (rest)))) : Ends p.tables e below Q F (T.setTop (mkF m pc Ls (.int y :: .int x :: rest))) :=
  icmpB nY nN X hx hd hY hN (fun hb => KY (h_ne.1 hb)) (fun hb => KN (h_ne.2 hb))
theorem if_ne (nY nN : Nat) (X : Stand p l e R s m args below meth c T locs cells slots) (hx : p.tables.exec = Jvm.exec) {o : Int} {x : Int32} {rest : List Value} (hd : decode c.code pc = .ok (.ifCond .ne o, 3)) (hY : 0 ≤ (pc : Int) + o ∧ ((pc : Int) + o).toNat = nY) (hN : pc + 3 = nN) (KY : ¬ x = 0 → Ends p.tables e below Q F (T.setTop (mkF m nY Ls (rest)))) (KN : x = 0 → Ends p.tables e below Q F (T.setTop (mkF m nN Ls (rest)))) : Ends p.tables e below Q F (T.setTop (mkF m pc Ls (.int x :: rest))) :=
  ifB nY nN X hx hd hY hN (fun hb => KY (h_ne.1 hb)) (fun hb => KN (h_ne.2 hb))
theorem w_lt {x y : Int64} : lcmpW x y < 0 → x < y := (lw_lt x y).mp
theorem w_nlt {x y : Int64} : ¬ lcmpW x y < 0 → ¬ x < y := fun q r => q ((lw_lt x y).mpr r)
theorem w_gt {x y : Int64} : 0 < lcmpW x y → y < x := (lw_gt x y).mp
theorem w_ngt {x y : Int64} : ¬ 0 < lcmpW x y → ¬ y < x := fun q r => q ((lw_gt x y).mpr r)
theorem w_eq {x y : Int64} : lcmpW x y = 0 → x = y := (lw_eq x y).mp
theorem w_neq {x y : Int64} : ¬ lcmpW x y = 0 → ¬ x = y := fun q r => q ((lw_eq x y).mpr r)
theorem lif_lt (nY nN : Nat) (X : Stand p l e R s m args below meth c T locs cells slots) (hx : p.tables.exec = Jvm.exec) {o : Int} {x y : Int64} {rest : List Value} (hd0 : decode c.code pc = .ok (.lcmp, 1)) {pc1 : Nat} (hp : pc + 1 = pc1) (hd : decode c.code pc1 = .ok (.ifCond .lt o, 3)) (hY : 0 ≤ (pc1 : Int) + o ∧ ((pc1 : Int) + o).toNat = nY) (hN : pc1 + 3 = nN) (KY : x < y → Ends p.tables e below Q F (T.setTop (mkF m nY Ls (rest)))) (KN : ¬ x < y → Ends p.tables e below Q F (T.setTop (mkF m nN Ls (rest)))) : Ends p.tables e below Q F (T.setTop (mkF m pc Ls (.long y :: .long x :: rest))) := by
  subst hp
  refine Ends.step ?_ fun t k => XS.lcmp (g := mkF m pc Ls (.long y :: .long x :: rest)) X.here hx rfl hd0 rfl k
  exact if_lt nY nN X hx hd hY hN (fun hb => KY (w_lt hb)) (fun hb => KN (w_nlt hb))
theorem lif_ge (nY nN : Nat) (X : Stand p l e R s m args below meth c T locs cells slots) (hx : p.tables.exec = Jvm.exec) {o : Int} {x y : Int64} {rest : List Value} (hd0 : decode c.code pc = .ok (.lcmp, 1)) {pc1 : Nat} (hp : pc + 1 = pc1) (hd : decode c.code pc1 = .ok (.ifCond .ge o, 3)) (hY : 0 ≤ (pc1 : Int) + o ∧ ((pc1 : Int) + o).toNat = nY) (hN : pc1 + 3 = nN) (KY : ¬ x < y → Ends p.tables e below Q F (T.setTop (mkF m nY Ls (rest)))) (KN : x < y → Ends p.tables e below Q F (T.setTop (mkF m nN Ls (rest)))) : Ends p.tables e below Q F (T.setTop (mkF m pc Ls (.long y :: .long x :: rest))) := by
  subst hp
  refine Ends.step ?_ fun t k => XS.lcmp (g := mkF m pc Ls (.long y :: .long x :: rest)) X.here hx rfl hd0 rfl k
  exact if_ge nY nN X hx hd hY hN (fun hb => KY (w_nlt hb)) (fun hb => KN (w_lt hb))
theorem lif_gt (nY nN : Nat) (X : Stand p l e R s m args below meth c T locs cells slots) (hx : p.tables.exec = Jvm.exec) {o : Int} {x y : Int64} {rest : List Value} (hd0 : decode c.code pc = .ok (.lcmp, 1)) {pc1 : Nat} (hp : pc + 1 = pc1) (hd : decode c.code pc1 = .ok (.ifCond .gt o, 3)) (hY : 0 ≤ (pc1 : Int) + o ∧ ((pc1 : Int) + o).toNat = nY) (hN : pc1 + 3 = nN) (KY : y < x → Ends p.tables e below Q F (T.setTop (mkF m nY Ls (rest)))) (KN : ¬ y < x → Ends p.tables e below Q F (T.setTop (mkF m nN Ls (rest)))) : Ends p.tables e below Q F (T.setTop (mkF m pc Ls (.long y :: .long x :: rest))) := by
  subst hp
  refine Ends.step ?_ fun t k => XS.lcmp (g := mkF m pc Ls (.long y :: .long x :: rest)) X.here hx rfl hd0 rfl k
  exact if_gt nY nN X hx hd hY hN (fun hb => KY (w_gt hb)) (fun hb => KN (w_ngt hb))
theorem lif_le (nY nN : Nat) (X : Stand p l e R s m args below meth c T locs cells slots) (hx : p.tables.exec = Jvm.exec) {o : Int} {x y : Int64} {rest : List Value} (hd0 : decode c.code pc = .ok (.lcmp, 1)) {pc1 : Nat} (hp : pc + 1 = pc1) (hd : decode c.code pc1 = .ok (.ifCond .le o, 3)) (hY : 0 ≤ (pc1 : Int) + o ∧ ((pc1 : Int) + o).toNat = nY) (hN : pc1 + 3 = nN) (KY : ¬ y < x → Ends p.tables e below Q F (T.setTop (mkF m nY Ls (rest)))) (KN : y < x → Ends p.tables e below Q F (T.setTop (mkF m nN Ls (rest)))) : Ends p.tables e below Q F (T.setTop (mkF m pc Ls (.long y :: .long x :: rest))) := by
  subst hp
  refine Ends.step ?_ fun t k => XS.lcmp (g := mkF m pc Ls (.long y :: .long x :: rest)) X.here hx rfl hd0 rfl k
  exact if_le nY nN X hx hd hY hN (fun hb => KY (w_ngt hb)) (fun hb => KN (w_gt hb))
theorem lif_eq (nY nN : Nat) (X : Stand p l e R s m args below meth c T locs cells slots) (hx : p.tables.exec = Jvm.exec) {o : Int} {x y : Int64} {rest : List Value} (hd0 : decode c.code pc = .ok (.lcmp, 1)) {pc1 : Nat} (hp : pc + 1 = pc1) (hd : decode c.code pc1 = .ok (.ifCond .eq o, 3)) (hY : 0 ≤ (pc1 : Int) + o ∧ ((pc1 : Int) + o).toNat = nY) (hN : pc1 + 3 = nN) (KY : x = y → Ends p.tables e below Q F (T.setTop (mkF m nY Ls (rest)))) (KN : ¬ x = y → Ends p.tables e below Q F (T.setTop (mkF m nN Ls (rest)))) : Ends p.tables e below Q F (T.setTop (mkF m pc Ls (.long y :: .long x :: rest))) := by
  subst hp
  refine Ends.step ?_ fun t k => XS.lcmp (g := mkF m pc Ls (.long y :: .long x :: rest)) X.here hx rfl hd0 rfl k
  exact if_eq nY nN X hx hd hY hN (fun hb => KY (w_eq hb)) (fun hb => KN (w_neq hb))
theorem lif_ne (nY nN : Nat) (X : Stand p l e R s m args below meth c T locs cells slots) (hx : p.tables.exec = Jvm.exec) {o : Int} {x y : Int64} {rest : List Value} (hd0 : decode c.code pc = .ok (.lcmp, 1)) {pc1 : Nat} (hp : pc + 1 = pc1) (hd : decode c.code pc1 = .ok (.ifCond .ne o, 3)) (hY : 0 ≤ (pc1 : Int) + o ∧ ((pc1 : Int) + o).toNat = nY) (hN : pc1 + 3 = nN) (KY : ¬ x = y → Ends p.tables e below Q F (T.setTop (mkF m nY Ls (rest)))) (KN : x = y → Ends p.tables e below Q F (T.setTop (mkF m nN Ls (rest)))) : Ends p.tables e below Q F (T.setTop (mkF m pc Ls (.long y :: .long x :: rest))) := by
  subst hp
  refine Ends.step ?_ fun t k => XS.lcmp (g := mkF m pc Ls (.long y :: .long x :: rest)) X.here hx rfl hd0 rfl k
  exact if_ne nY nN X hx hd hY hN (fun hb => KY (w_neq hb)) (fun hb => KN (w_eq hb))
theorem ifnull (nY nN : Nat) (X : Stand p l e R s m args below meth c T locs cells slots) (hx : p.tables.exec = Jvm.exec) {o : Int} {v : Value} {rest : List Value} (hd : decode c.code pc = .ok (.ifnull o, 3)) (hv : v.isRef = true) (hY : 0 ≤ (pc : Int) + o ∧ ((pc : Int) + o).toNat = nY) (hN : pc + 3 = nN) (KY : v = .null → Ends p.tables e below Q F (T.setTop (mkF m nY Ls (rest)))) (KN : ∀ a, v = .ref a → Ends p.tables e below Q F (T.setTop (mkF m nN Ls (rest)))) : Ends p.tables e below Q F (T.setTop (mkF m pc Ls (v :: rest))) := by
  subst hN
  rcases ref_cases hv with rfl | ⟨a, rfl⟩
  · exact (KY rfl).step fun t k => XS.ifnullYes (g := mkF m pc Ls (.null :: rest)) X.here hx rfl (pc0 := pc) (pc' := nY) rfl hd rfl hY.1 hY.2 k
  · exact (KN a rfl).step fun t k => XS.ifnullNo (g := mkF m pc Ls (.ref a :: rest)) X.here hx rfl hd rfl k
theorem ifnonnull (nY nN : Nat) (X : Stand p l e R s m args below meth c T locs cells slots) (hx : p.tables.exec = Jvm.exec) {o : Int} {v : Value} {rest : List Value} (hd : decode c.code pc = .ok (.ifnonnull o, 3)) (hv : v.isRef = true) (hY : 0 ≤ (pc : Int) + o ∧ ((pc : Int) + o).toNat = nY) (hN : pc + 3 = nN) (KY : ∀ a, v = .ref a → Ends p.tables e below Q F (T.setTop (mkF m nY Ls (rest)))) (KN : v = .null → Ends p.tables e below Q F (T.setTop (mkF m nN Ls (rest)))) : Ends p.tables e below Q F (T.setTop (mkF m pc Ls (v :: rest))) := by
  subst hN
  rcases ref_cases hv with rfl | ⟨a, rfl⟩
  · exact (KN rfl).step fun t k => XS.ifnonnullNo (g := mkF m pc Ls (.null :: rest)) X.here hx rfl hd rfl k
  · exact (KY a rfl).step fun t k => XS.ifnonnullYes (g := mkF m pc Ls (.ref a :: rest)) X.here hx rfl (pc0 := pc) (pc' := nY) rfl hd rfl hY.1 hY.2 k
theorem retI (X : Stand p l e R s m args below meth c T locs cells slots) (hx : p.tables.exec = Jvm.exec) {pc : Nat} {Ls : Array Slot} {z : Int32} {rest : List Value} (hret : meth.sig.returnType = some .int) (hd : decode c.code pc = .ok (.ireturn, 1)) {fs : List Frame}
    (hl : ∀ (f : JFrame) (acts : List Action), f.method = m → f.locked = none → f.entered = [] → (doReturn e (T.setTop f) acts (some (.int z))).1 = T.setFrames fs) : Steps p.tables e below (T.setTop (mkF m pc Ls (.int z :: rest))) (T.setFrames fs) := by
  have hm' : T.vm.method? m = some meth := X.method'
  have hn : narrow .int (.int z) = .int z := rfl
  show Steps p.tables e below (T.setTop { method := m, pc := pc, locals := Ls, stack := _ :: rest, locked := none }) _
  jvm_step X.here [X.here.top, hx, hd, hm', hret, hn]
  first | (intro acts; rw [hl _ acts rfl rfl rfl]) | rw [hl _ _ rfl rfl rfl]
  exact Steps.refl _
theorem fin {fs : List Frame} {v : Option Value} {U : State} (X : Stand p l e R s m args below meth c T locs cells slots) (hst : Steps p.tables e below U (T.setFrames fs)) (hrun : (T.setFrames fs).status = .running) (hend : Ended (T.setFrames fs) below (.returned v)) (hW : s.WarmedH (T.setFrames fs).vm) (hsame : s.sameButNew ({ T.setFrames fs with vm := s.vm } : State) locs cells slots) (q : Q v T.heap locs) (hC : cells ≤ C) (hS : slots ≤ S) : Ends p.tables e below Q (FE s C S) U :=
  ⟨_, _, hst, hrun, hend, _, _, rfl, q, ⟨_, rfl⟩, hW, hsame.mono hC hS⟩
theorem retInt (X : Stand p l e R s m args below meth c T locs cells slots) (hx : p.tables.exec = Jvm.exec) {z : Int32} {rest : List Value} (hlk : meth.locks = false) (hret : meth.sig.returnType = some .int) (hd : decode c.code pc = .ok (.ireturn, 1)) (hC : cells ≤ C) (hS : slots ≤ S) (q : Q (some (.int z)) T.heap locs) : Ends p.tables e below Q (FE s C S) (T.setTop (mkF m pc Ls (.int z :: rest))) := by
  obtain ⟨fs, hr, hrun, hended, hW, hsame⟩ := X.leave (v := some (.int z)) (fun h => by rw [hret] at h; cases h) hlk
  exact fin X (retI X hx hret hd hr) hrun hended hW hsame q hC hS
theorem retBool (X : Stand p l e R s m args below meth c T locs cells slots) (hx : p.tables.exec = Jvm.exec) {z : Int32} {rest : List Value} (hlk : meth.locks = false) (hret : meth.sig.returnType = some .boolean) (hd : decode c.code pc = .ok (.ireturn, 1)) (hC : cells ≤ C) (hS : slots ≤ S) (q : Q (some (.int (nar .boolean z))) T.heap locs) : Ends p.tables e below Q (FE s C S) (T.setTop (mkF m pc Ls (.int z :: rest))) := by
  obtain ⟨fs, hr, hrun, hended, hW, hsame⟩ := X.leave (v := some (.int (nar .boolean z))) (fun h => by rw [hret] at h; cases h) hlk
  exact fin X (retN X hx hret (Or.inl rfl) hd hr) hrun hended hW hsame q hC hS
theorem retLong (X : Stand p l e R s m args below meth c T locs cells slots) (hx : p.tables.exec = Jvm.exec) {z : Int64} (hlk : meth.locks = false) (hret : meth.sig.returnType = some .long) (hd : decode c.code pc = .ok (.lreturn, 1)) (hC : cells ≤ C) (hS : slots ≤ S) (q : Q (some (.long z)) T.heap locs) : Ends p.tables e below Q (FE s C S) (T.setTop (mkF m pc Ls ([.long z]))) := by
  obtain ⟨fs, hr, hrun, hended, hW, hsame⟩ := X.leave (v := some (.long z)) (fun h => by rw [hret] at h; cases h) hlk
  exact fin X (X.lreturnOut hx hret hd hr) hrun hended hW hsame q hC hS
theorem retRef (X : Stand p l e R s m args below meth c T locs cells slots) (hx : p.tables.exec = Jvm.exec) {v : Value} {t : FieldType} (hlk : meth.locks = false) (hv : v.isRef = true) (hret : meth.sig.returnType = some t) (ht : t.isReference = true) (hd : decode c.code pc = .ok (.areturn, 1)) (hC : cells ≤ C) (hS : slots ≤ S) (q : Q (some v) T.heap locs) : Ends p.tables e below Q (FE s C S) (T.setTop (mkF m pc Ls ([v]))) := by
  obtain ⟨fs, hr, hrun, hended, hW, hsame⟩ := X.leave (v := some v) (fun h => by rw [hret] at h; cases h) hlk
  exact fin X (X.areturnOut hx hv hret ht hd hr) hrun hended hW hsame q hC hS
theorem retVoid (X : Stand p l e R s m args below meth c T locs cells slots) (hx : p.tables.exec = Jvm.exec) (hlk : meth.locks = false) (hret : meth.sig.returnType = none) (hd : decode c.code pc = .ok (.return_, 1)) (hC : cells ≤ C) (hS : slots ≤ S) (q : Q none T.heap locs) : Ends p.tables e below Q (FE s C S) (T.setTop (mkF m pc Ls ([]))) := by
  obtain ⟨fs, hr, hrun, hended, hW, hsame⟩ := X.leave (v := none) (fun _ => rfl) hlk
  exact fin X (X.returnOut hx hret hd hr) hrun hended hW hsame q hC hS
theorem ldcInt (n : Nat) (X : Stand p l e R s m args below meth c T locs cells slots) (hx : p.tables.exec = Jvm.exec) (hZ : Z.Warmed39 s.vm) {own : String} {index : Nat} (v : Int32) (hown : s.vm.findClass own = some m.cls) (w : (Cond.constant own index v).before a0 Z = true) (hd : decode c.code pc = .ok (.ldc index, 2)) (hn : pc + 2 = n) (K : Ends p.tables e below Q F (T.setTop (mkF m n Ls (.int v :: st)))) : Ends p.tables e below Q F (T.setTop (mkF m pc Ls (st))) := by
  subst hn; exact K.step fun t k => X.ldcInt hx hown (mvT hZ w) (g := mkF m pc Ls st) rfl hd _ k
theorem ldcwInt (n : Nat) (X : Stand p l e R s m args below meth c T locs cells slots) (hx : p.tables.exec = Jvm.exec) (hZ : Z.Warmed39 s.vm) {own : String} {index : Nat} (v : Int32) (hown : s.vm.findClass own = some m.cls) (w : (Cond.constant own index v).before a0 Z = true) (hd : decode c.code pc = .ok (.ldc_w index, 3)) (hn : pc + 3 = n) (K : Ends p.tables e below Q F (T.setTop (mkF m n Ls (.int v :: st)))) : Ends p.tables e below Q F (T.setTop (mkF m pc Ls (st))) := by
  subst hn; exact K.step fun t k => X.ldcwInt hx hown (mvT hZ w) (g := mkF m pc Ls st) rfl hd _ k
theorem ldc2Long (n : Nat) (X : Stand p l e R s m args below meth c T locs cells slots) (hx : p.tables.exec = Jvm.exec) (hZ : Z.Warmed39 s.vm) {own : String} {index : Nat} (v : Int64) (hown : s.vm.findClass own = some m.cls) (w : (Cond.constantLong own index v).before a0 Z = true) (hd : decode c.code pc = .ok (.ldc2_w index, 3)) (hn : pc + 3 = n) (K : Ends p.tables e below Q F (T.setTop (mkF m n Ls (.long v :: st)))) : Ends p.tables e below Q F (T.setTop (mkF m pc Ls (st))) := by
  subst hn; exact K.step fun t k => X.ldc2Long hx hown (mvT hZ w) (g := mkF m pc Ls st) rfl hd _ k
theorem getFld (n : Nat) (X : Stand p l e R s m args below meth c T locs cells slots) (hx : p.tables.exec = Jvm.exec) (hZ : Z.Warmed39 s.vm) {own R0 O nm d host : String} {index : Nat} (hown : s.vm.findClass own = some m.cls) (w : (Cond.fieldLink own index R0 nm d).before a0 Z = true ∨ (Cond.fieldLinkNest own index R0 nm d host).before a0 Z = true) (via : Via Z R0 O nm d) (eT : T.heap = h) {a : Addr} {v : Value} (Fd : Fld Z h a O nm d v) {rest : List Value} (hd : decode c.code pc = .ok (.getfield index, 3)) (hn : pc + 3 = n) (K : ∀ T', Stand p l e R s m args below meth c T' locs cells slots → T'.heap = h → Ends p.tables e below Q F (T'.setTop (mkF m n Ls (v :: rest)))) : Ends p.tables e below Q F (T.setTop (mkF m pc Ls (.ref a :: rest))) := by
  subst hn
  obtain ⟨T1, X1, e1, st1⟩ := getF X hx hZ hown w via eT Fd (g := mkF m pc Ls (.ref a :: rest)) rfl rfl hd
  exact (K T1 X1 e1).step st1
theorem getSta (n : Nat) (X : Stand p l e R s m args below meth c T locs cells slots) (hx : p.tables.exec = Jvm.exec) (hZ : Z.Warmed39 s.vm) {own R0 O nm d host : String} {index : Nat} (hown : s.vm.findClass own = some m.cls) (w : (Cond.fieldLink own index R0 nm d).before a0 Z = true ∨ (Cond.fieldLinkNest own index R0 nm d host).before a0 Z = true) (via : Via Z R0 O nm d) (eT : T.heap = h) {v : Value} (Fd : Sta Z h O nm d v) (hd : decode c.code pc = .ok (.getstatic index, 3)) (hn : pc + 3 = n) (K : ∀ T', Stand p l e R s m args below meth c T' locs cells slots → T'.heap = h → Ends p.tables e below Q F (T'.setTop (mkF m n Ls (v :: st)))) : Ends p.tables e below Q F (T.setTop (mkF m pc Ls (st))) := by
  subst hn
  obtain ⟨T1, X1, e1, st1⟩ := getS2 X hx hZ hown w via eT Fd (g := mkF m pc Ls st) rfl hd
  exact (K T1 X1 e1).step st1
theorem putFld (n : Nat) (X : Stand p l e R s m args below meth c T locs cells slots) (hx : p.tables.exec = Jvm.exec) (hZ : Z.Warmed39 s.vm) {own R0 O nm d host CC : String} {index kk : Nat} {ty : FieldType} (hown : s.vm.findClass own = some m.cls) (w : (Cond.fieldLink own index R0 nm d).before a0 Z = true ∨ (Cond.fieldLinkNest own index R0 nm d host).before a0 Z = true) (via : Via Z R0 O nm d) (eT : T.heap = h) {a : Addr} {v old : Value} (Fd : Fld Z h a O nm d old) (E : Exa Z h a CC) (L : (Cond.lays CC O nm d).before a0 Z = true ∨ ((Cond.laysFinal CC O nm d).before a0 Z = true ∧ own = O ∧ meth.name = "<init>")) (wi : (Cond.instantiable CC kk).before a0 Z = true) (hty : parseFieldDescriptor d = some ty) (hnw : narrow ty v = v) (hf : fits ty v = true) {rest : List Value} (hd : decode c.code pc = .ok (.putfield index, 3)) (hn : pc + 3 = n) (K : ∀ T' h', Stand p l e R s m args below meth c T' (locs ++ [⟨a, Jvm.RoadKit.slotOf Z O nm d⟩]) cells slots → T'.heap = h' → Wr h h' a (Jvm.RoadKit.slotOf Z O nm d) v → Ends p.tables e below Q F (T'.setTop (mkF m n Ls (rest)))) : Ends p.tables e below Q F (T.setTop (mkF m pc Ls (v :: .ref a :: rest))) := by
  subst hn
  obtain ⟨T1, h1, X1, e1, W1, st1⟩ := putF X hx hZ hown w via eT Fd E L wi hty hnw hf (g := mkF m pc Ls (v :: .ref a :: rest)) rfl rfl hd
  exact (K T1 h1 X1 e1 W1).step st1
theorem newObj (n : Nat) (X : Stand p l e R s m args below meth c T locs cells slots) (hx : p.tables.exec = Jvm.exec) (hZ : Z.Warmed39 s.vm) {own CC : String} {index sz : Nat} (hown : s.vm.findClass own = some m.cls) (w : (Cond.classLink own index CC).before a0 Z = true) (wi : (Cond.instantiable CC sz).before a0 Z = true) (wz : (Cond.initialized CC).before a0 Z = true) (eT : T.heap = h) (hd : decode c.code pc = .ok (.new index, 3)) (hn : pc + 3 = n) (hc : cells + 1 ≤ R.cells) (hl : slots + sz ≤ R.slots) (K : ∀ T' h' a, a = h.size → Stand p l e R s m args below meth c T' locs (cells + 1) (slots + sz) → T'.heap = h' → Ext h h' → Exa Z h' a CC → (∀ {O nm d : String} {ty : FieldType}, Laid Z a0 CC O nm d → parseFieldDescriptor d = some ty → Fld Z h' a O nm d (defaultValue ty)) → Ends p.tables e below Q F (T'.setTop (mkF m n Ls (.ref a :: st)))) : Ends p.tables e below Q F (T.setTop (mkF m pc Ls (st))) := by
  subst hn
  obtain ⟨T1, h1, X1, e1, E1, A1, D1, -, st1⟩ := newO X hx hZ hown w wi wz eT (g := mkF m pc Ls st) rfl hd hc hl
  exact (K T1 h1 _ rfl X1 e1 E1 A1 (fun L q => D1 L q)).step st1
theorem initObj (n W : Nat) (X : Stand p l e R s m args below meth c T locs cells slots) (hx : p.tables.exec = Jvm.exec) (hZ : Z.Warmed39 s.vm) {own : String} {index : Nat} (hown : s.vm.findClass own = some m.cls) (w1 : (Cond.methodLink own index Lib.objectInit).before a0 Z = true) (w2 : (Cond.instanceMethod Lib.objectInit).before a0 Z = true) (w3 : (Cond.code Lib.objectInit ⟨#[0xb1]⟩ 1 none).before a0 Z = true) (eT : T.heap = h) {a : Addr} {rest : List Value} (hsz : Ls.size = c.maxLocals) (hd : decode c.code pc = .ok (.invokespecial index, 3)) (hn : pc + 3 = n) (hf : 1 ≤ R.frames) (hW : (rest.map fun v => v.category).sum ≤ W) (hl : W + 12 ≤ R.locals) (K : ∀ T', Stand p l e R s m args below meth c T' locs cells slots → T'.heap = h → Ends p.tables e below Q F (T'.setTop (mkF m n Ls (rest)))) : Ends p.tables e below Q F (T.setTop (mkF m pc Ls (.ref a :: rest))) := by
  subst hn
  obtain ⟨T1, X1, e1, st1⟩ := initO X hx hZ hown w1 w2 w3 eT (g := mkF m pc Ls (.ref a :: rest)) rfl hsz rfl hd hf (W := W) (by show 2 * 0 + _ ≤ _; omega) hl
  exact (K T1 X1 e1).step st1
/-- the contract of a body: entered with these arguments at this heap it returns, and what it leaves answers to QQ -/
def Met (l : Launch) (Z : State) (y : MethodName) (bytes : ByteArray) (maxL : Nat) (ret : Option FieldType) (ws : List Cond) (rm : Room) (as : Array Value) (h : Heap) (QQ : Option Value → Heap → List Loc → Prop) : Prop :=
  MetFree l y (head1 (Cond.code y bytes maxL ret :: ws) rm) (fun a U => a = as ∧ Z.Warmed39 U.vm ∧ U.heap = h) (fun _ _ _ _ _ => True) (fun _ U o U' => ∃ v L, o = .returned v ∧ QQ v U'.heap L ∧ FrameEnd U o U' L rm.cells rm.slots)
theorem Met.of {y : MethodName} {bytes : ByteArray} {maxL : Nat} {ret : Option FieldType} {ws : List Cond} {rm : Room} {as : Array Value} {QQ : Option Value → Heap → List Loc → Prop} (hp : plainFor y = true)
    (body : ∀ (p : Program) (e : Env) (s : State) (m : MethodId) (below : List Frame) (meth : Method) (c : Code) (T : State), p.tables.exec = Jvm.exec → c.code = bytes → c.maxLocals = maxL → s.vm.findClass y.cls = some m.cls → meth.name = y.name → meth.sig.returnType = ret → meth.locks = false → Z.Warmed39 s.vm → Stand p l e rm s m as below meth c T [] 0 0 → T.heap = h → Ends p.tables e below QQ (FE s rm.cells rm.slots) (T.setTop (entryFrame m as maxL))) :
    Met l Z y bytes maxL ret ws rm as h QQ := by
  refine MetFree.of_bodySF hp hisR ?_
  intro p e s m args below meth c s₁ Bd hml0 hP hK
  obtain ⟨rfl, hZ, hh⟩ := hP
  exact body p e s m below meth c s₁ Bd.exec Bd.bytes hml0 (findClass_of_methodNamed Bd.named) (name_of_methodNamed Bd.named Bd.method).1 Bd.returns Bd.notSynchronized hZ (Stand.of_body Bd) (by rw [← hh, Bd.state]; rfl)
theorem callSt (n W : Nat) (argsL rest : List Value) (X : Stand p l e R s m args below meth c T locs cells slots) (hx : p.tables.exec = Jvm.exec) (hZ : Z.Warmed39 s.vm) {own : String} {index : Nat} {y : MethodName} {bytes : ByteArray} {maxL : Nat} {ret : Option FieldType} {rm : Room} {QQ : Option Value → Heap → List Loc → Prop} (hown : s.vm.findClass own = some m.cls) (hM : Met l Z y bytes maxL ret [] rm argsL.toArray h QQ) (wl : (Cond.methodLink own index y).before a0 Z = true) (ws : (Cond.static y).before a0 Z = true) (wi : (Cond.initialized y.cls).before a0 Z = true) (wc : (Cond.code y bytes maxL ret).before a0 Z = true) (hy : y.cls ≠ "java/lang/invoke/MethodHandle" ∧ y.cls ≠ "java/lang/invoke/VarHandle") (eT : T.heap = h) (hfr : rm.frames + 1 ≤ R.frames) (hlc : W + (maxL + 11) + rm.locals ≤ R.locals) (hc : cells + rm.cells ≤ R.cells) (hs : slots + rm.slots ≤ R.slots) (hsz : Ls.size = c.maxLocals) (hlen : ∀ sig, parseMethodDescriptor y.desc = some sig → argsL.length = sig.parameters.length) (hst : st = argsL.reverse ++ rest) (hW : (rest.map fun v => v.category).sum ≤ W) (hd : decode c.code pc = .ok (.invokestatic index, 3)) (hn : pc + 3 = n) (K : ∀ v T' L', Stand p l e R s m args below meth c T' (locs ++ L') (cells + rm.cells) (slots + rm.slots) → QQ v T'.heap L' → Ends p.tables e below Q F (T'.setTop (mkF m n Ls (v.toList ++ rest)))) : Ends p.tables e below Q F (T.setTop (mkF m pc Ls (st))) := by
  subst hn
  obtain ⟨v, vm1, ⟨T1, L1, k1, n1⟩, -, X1, ⟨Lc, hQ, l1, y1, z1⟩, st1⟩ := Jvm.LawKit.callS X hx (y := y) hown (mvT hZ wl) (mvT hZ ws) (mvT hZ wi) (mvT hZ wc) hy (backOf (W := W) hM hZ wc wi hfr hlc) (g := mkF m pc Ls st) rfl hsz (argsL := argsL) (rest := rest) hlen hst (by show 2 * 0 + _ ≤ _; omega) hd (fun _ _ => ⟨rfl, eT, hc, hs⟩)
  dsimp only [Pt.U, Pt.locs, Pt.cells, Pt.slots] at X1 l1 y1 z1 st1 hQ
  subst l1 y1 z1
  exact (K v T1 Lc X1 hQ).step st1
theorem callInit (n W : Nat) (a : Addr) (argsL rest : List Value) (X : Stand p l e R s m args below meth c T locs cells slots) (hx : p.tables.exec = Jvm.exec) (hZ : Z.Warmed39 s.vm) {own : String} {index : Nat} {y : MethodName} {bytes : ByteArray} {maxL : Nat} {rm : Room} {QQ : Option Value → Heap → List Loc → Prop} (hown : s.vm.findClass own = some m.cls) (hM : Met l Z y bytes maxL none [] rm (.ref a :: argsL).toArray h QQ) (hy1 : y.name = "<init>") (wl : (Cond.methodLink own index y).before a0 Z = true) (ws : (Cond.instanceMethod y).before a0 Z = true) (wi : (Cond.initialized y.cls).before a0 Z = true) (wc : (Cond.code y bytes maxL none).before a0 Z = true) (hy : y.cls ≠ "java/lang/invoke/MethodHandle" ∧ y.cls ≠ "java/lang/invoke/VarHandle") (eT : T.heap = h) (hfr : rm.frames + 1 ≤ R.frames) (hlc : W + (maxL + 11) + rm.locals ≤ R.locals) (hc : cells + rm.cells ≤ R.cells) (hs : slots + rm.slots ≤ R.slots) (hsz : Ls.size = c.maxLocals) (hlen : ∀ sig, parseMethodDescriptor y.desc = some sig → argsL.length = sig.parameters.length) (hst : st = argsL.reverse ++ .ref a :: rest) (hW : (rest.map fun v => v.category).sum ≤ W) (hd : decode c.code pc = .ok (.invokespecial index, 3)) (hn : pc + 3 = n) (K : ∀ v T' L', Stand p l e R s m args below meth c T' (locs ++ L') (cells + rm.cells) (slots + rm.slots) → QQ v T'.heap L' → Ends p.tables e below Q F (T'.setTop (mkF m n Ls (v.toList ++ rest)))) : Ends p.tables e below Q F (T.setTop (mkF m pc Ls (st))) := by
  subst hn
  obtain ⟨v, vm1, ⟨T1, L1, k1, n1⟩, -, X1, ⟨Lc, hQ, l1, y1, z1⟩, st1⟩ := X.specialBack hx (y := y) hy1 hown (mvT hZ wl) (mvT hZ ws) (mvT hZ wc) hy (backOf (W := W) hM hZ wc wi hfr hlc) (g := mkF m pc Ls st) rfl hsz (Steps.refl _) (a := a) (argsL := argsL) (rest := rest) hlen hst (by show 2 * 0 + _ ≤ _; omega) hd (fun _ _ => ⟨rfl, eT, hc, hs⟩)
  dsimp only [Pt.U, Pt.locs, Pt.cells, Pt.slots] at X1 l1 y1 z1 st1 hQ
  subst l1 y1 z1
  exact (K v T1 Lc X1 hQ).step fun t k => st1.trans k
theorem callVt (n W : Nat) (a : Addr) (argsL rest : List Value) (X : Stand p l e R s m args below meth c T locs cells slots) (hx : p.tables.exec = Jvm.exec) (hZ : Z.Warmed39 s.vm) {own CC : String} {index : Nat} {y z : MethodName} {bytes : ByteArray} {maxL : Nat} {ret : Option FieldType} {rm : Room} {QQ : Option Value → Heap → List Loc → Prop} (hown : s.vm.findClass own = some m.cls) (hM : Met l Z z bytes maxL ret [] rm (.ref a :: argsL).toArray h QQ) (E : Exa Z h a CC) (hnf : NotFace s y) (wl : (Cond.methodLink own index y).before a0 Z = true) (wd : (Cond.declares y).before a0 Z = true) (wsel : (Cond.selects CC y z).before a0 Z = true) (ws : (Cond.instanceMethod z).before a0 Z = true) (wi : (Cond.initialized z.cls).before a0 Z = true) (wc : (Cond.code z bytes maxL ret).before a0 Z = true) (hy : y.cls ≠ "java/lang/invoke/MethodHandle" ∧ y.cls ≠ "java/lang/invoke/VarHandle") (eT : T.heap = h) (hfr : rm.frames + 1 ≤ R.frames) (hlc : W + (maxL + 11) + rm.locals ≤ R.locals) (hc : cells + rm.cells ≤ R.cells) (hs : slots + rm.slots ≤ R.slots) (hsz : Ls.size = c.maxLocals) (hlen : ∀ sig, parseMethodDescriptor y.desc = some sig → argsL.length = sig.parameters.length) (hst : st = argsL.reverse ++ .ref a :: rest) (hW : (rest.map fun v => v.category).sum ≤ W) (hd : decode c.code pc = .ok (.invokevirtual index, 3)) (hn : pc + 3 = n) (K : ∀ v T' L', Stand p l e R s m args below meth c T' (locs ++ L') (cells + rm.cells) (slots + rm.slots) → QQ v T'.heap L' → Ends p.tables e below Q F (T'.setTop (mkF m n Ls (v.toList ++ rest)))) : Ends p.tables e below Q F (T.setTop (mkF m pc Ls (st))) := by
  subst hn
  obtain ⟨cq, kq, qa, qb, qc⟩ := isOf hZ eT E
  obtain ⟨v, vm1, ⟨T1, L1, k1, n1⟩, -, X1, ⟨Lc, hQ, l1, y1, z1⟩, st1⟩ := X.virtualBack hx (y := y) (z := z) hown (mvT hZ wl) (mvT hZ wd) hnf (mvT hZ wsel) (mvT hZ ws) hy (backOf (W := W) hM hZ wc wi hfr hlc) qa qc (g := mkF m pc Ls st) rfl hsz (Steps.refl _) (argsL := argsL) (rest := rest) hlen hst (by show 2 * 0 + _ ≤ _; omega) hd (fun _ _ => ⟨rfl, eT, hc, hs⟩)
  dsimp only [Pt.U, Pt.locs, Pt.cells, Pt.slots] at X1 l1 y1 z1 st1 hQ
  subst l1 y1 z1
  exact (K v T1 Lc X1 hQ).step fun t k => st1.trans k
theorem callPr (n W : Nat) (a : Addr) (argsL rest : List Value) (X : Stand p l e R s m args below meth c T locs cells slots) (hx : p.tables.exec = Jvm.exec) (hZ : Z.Warmed39 s.vm) {own CC : String} {index : Nat} {y : MethodName} {bytes : ByteArray} {maxL : Nat} {ret : Option FieldType} {rm : Room} {QQ : Option Value → Heap → List Loc → Prop} (hown : s.vm.findClass own = some m.cls) (hM : Met l Z y bytes maxL ret [] rm (.ref a :: argsL).toArray h QQ) (E : Exa Z h a CC) (wl : (Cond.methodLink own index y).before a0 Z = true) (wp : (Cond.privateMethod y).before a0 Z = true) {kk : Nat} (wk : (Cond.instantiable y.cls kk).before a0 Z = true) (ws : (Cond.instanceMethod y).before a0 Z = true) (wi : (Cond.initialized y.cls).before a0 Z = true) (wc : (Cond.code y bytes maxL ret).before a0 Z = true) (hy : y.cls ≠ "java/lang/invoke/MethodHandle" ∧ y.cls ≠ "java/lang/invoke/VarHandle") (eT : T.heap = h) (hfr : rm.frames + 1 ≤ R.frames) (hlc : W + (maxL + 11) + rm.locals ≤ R.locals) (hc : cells + rm.cells ≤ R.cells) (hs : slots + rm.slots ≤ R.slots) (hsz : Ls.size = c.maxLocals) (hlen : ∀ sig, parseMethodDescriptor y.desc = some sig → argsL.length = sig.parameters.length) (hst : st = argsL.reverse ++ .ref a :: rest) (hW : (rest.map fun v => v.category).sum ≤ W) (hd : decode c.code pc = .ok (.invokevirtual index, 3)) (hn : pc + 3 = n) (K : ∀ v T' L', Stand p l e R s m args below meth c T' (locs ++ L') (cells + rm.cells) (slots + rm.slots) → QQ v T'.heap L' → Ends p.tables e below Q F (T'.setTop (mkF m n Ls (v.toList ++ rest)))) : Ends p.tables e below Q F (T.setTop (mkF m pc Ls (st))) := by
  subst hn
  obtain ⟨cq, qa, qb⟩ := E.cell
  obtain ⟨cI, kI, i1, i2, -, i4, -⟩ := Cond.instantiable_spec (mvT (args := args) hZ wk)
  obtain ⟨v, vm1, ⟨T1, L1, k1, n1⟩, -, X1, ⟨Lc, hQ, l1, y1, z1⟩, st1⟩ := X.privateBack hx (y := y) hown (mvT hZ wl) (mvT hZ ws) (selects_self_of_private i1 i2 (by simpa using (Bool.or_eq_false_iff.mp i4).1) (Cond.privateMethod_at (mvP hZ wp (args := #[]))) (mvT hZ ws) hy) (Cond.privateMethod_at (mvP hZ wp (args := #[]))) (mvT hZ wc) hy (backOf (W := W) hM hZ wc wi hfr hlc) (g := mkF m pc Ls st) rfl hsz (Steps.refl _) (a := a) (by rw [eT]; exact qa) qb (argsL := argsL) (rest := rest) hlen hst (by show 2 * 0 + _ ≤ _; omega) hd (fun _ _ => ⟨rfl, eT, hc, hs⟩)
  dsimp only [Pt.U, Pt.locs, Pt.cells, Pt.slots] at X1 l1 y1 z1 st1 hQ
  subst l1 y1 z1
  exact (K v T1 Lc X1 hQ).step fun t k => st1.trans k
theorem arrLen (n : Nat) (X : Stand p l e R s m args below meth c T locs cells slots) (hx : p.tables.exec = Jvm.exec) (hZ : Z.Warmed39 s.vm) (eT : T.heap = h) {a : Addr} {k : ClassId} {ty : FieldType} {z : Int32} {vs : List Value} {dv : Value} {rest : List Value} (A : Arv Z h a k ty z vs dv) (hd : decode c.code pc = .ok (.arraylength, 1)) (hn : pc + 1 = n) (K : Ends p.tables e below Q F (T.setTop (mkF m n Ls (.int z :: rest)))) : Ends p.tables e below Q F (T.setTop (mkF m pc Ls (.ref a :: rest))) := by
  subst hn
  obtain ⟨cl, Ar, -, Sz, Nz, -, -⟩ := A
  refine K.step fun t kk => X.arraylength hx (by rw [eT]; exact Ar.1) (State.isArrayOf_alike hZ.alike Ar.2.1) (g := mkF m pc Ls (.ref a :: rest)) rfl rfl hd _ ?_
  rw [len_of Sz Nz]; exact kk
theorem iaload (n : Nat) (X : Stand p l e R s m args below meth c T locs cells slots) (hx : p.tables.exec = Jvm.exec) (hZ : Z.Warmed39 s.vm) (eT : T.heap = h) {a : Addr} {k : ClassId} {z j : Int32} (v : Int32) {vs : List Value} {dv : Value} {rest : List Value} (A : Arv Z h a k .int z vs dv) (hj : ¬ j < 0 ∧ j < z) (hv : vs.getD j.toNatClampNeg dv = .int v) (hd : decode c.code pc = .ok (.iaload, 1)) (hn : pc + 1 = n) (K : Ends p.tables e below Q F (T.setTop (mkF m n Ls (.int v :: rest)))) : Ends p.tables e below Q F (T.setTop (mkF m pc Ls (.int j :: .ref a :: rest))) := by
  subst hn
  obtain ⟨cl, Ar, -, Sz, Nz, Hs, -⟩ := A
  have hin := inb_of Sz hj
  exact K.step fun t kk => X.iaload hx (j := j) (v := .int v) (by rw [eT]; exact Ar.1) (State.isArrayOf_alike hZ.alike Ar.2.1) Ar.2.2 hin (Hs.at hin hv) (g := mkF m pc Ls (.int j :: .ref a :: rest)) rfl rfl hd _ kk
theorem laload (n : Nat) (X : Stand p l e R s m args below meth c T locs cells slots) (hx : p.tables.exec = Jvm.exec) (hZ : Z.Warmed39 s.vm) (eT : T.heap = h) {a : Addr} {k : ClassId} {z j : Int32} (v : Int64) {vs : List Value} {dv : Value} {rest : List Value} (A : Arv Z h a k .long z vs dv) (hj : ¬ j < 0 ∧ j < z) (hv : vs.getD j.toNatClampNeg dv = .long v) (hd : decode c.code pc = .ok (.laload, 1)) (hn : pc + 1 = n) (K : Ends p.tables e below Q F (T.setTop (mkF m n Ls (.long v :: rest)))) : Ends p.tables e below Q F (T.setTop (mkF m pc Ls (.int j :: .ref a :: rest))) := by
  subst hn
  obtain ⟨cl, Ar, -, Sz, Nz, Hs, -⟩ := A
  have hin := inb_of Sz hj
  exact K.step fun t kk => X.laload hx (j := j) (v := .long v) (by rw [eT]; exact Ar.1) (State.isArrayOf_alike hZ.alike Ar.2.1) Ar.2.2 hin (Hs.at hin hv) (g := mkF m pc Ls (.int j :: .ref a :: rest)) rfl rfl hd _ kk
theorem baload (n : Nat) (X : Stand p l e R s m args below meth c T locs cells slots) (hx : p.tables.exec = Jvm.exec) (hZ : Z.Warmed39 s.vm) (eT : T.heap = h) {a : Addr} {k : ClassId} {z j : Int32} (v : Int32) {vs : List Value} {dv : Value} {rest : List Value} (A : Arv Z h a k .byte z vs dv) (hj : ¬ j < 0 ∧ j < z) (hv : vs.getD j.toNatClampNeg dv = .int v) (hd : decode c.code pc = .ok (.baload, 1)) (hn : pc + 1 = n) (K : Ends p.tables e below Q F (T.setTop (mkF m n Ls (.int v :: rest)))) : Ends p.tables e below Q F (T.setTop (mkF m pc Ls (.int j :: .ref a :: rest))) := by
  subst hn
  obtain ⟨cl, Ar, -, Sz, Nz, Hs, -⟩ := A
  have hin := inb_of Sz hj
  exact K.step fun t kk => X.baloadBytes hx (j := j) (v := .int v) (by rw [eT]; exact Ar.1) (State.isArrayOf_alike hZ.alike Ar.2.1) Ar.2.2 hin (Hs.at hin hv) (g := mkF m pc Ls (.int j :: .ref a :: rest)) rfl rfl hd _ kk
theorem caload (n : Nat) (X : Stand p l e R s m args below meth c T locs cells slots) (hx : p.tables.exec = Jvm.exec) (hZ : Z.Warmed39 s.vm) (eT : T.heap = h) {a : Addr} {k : ClassId} {z j : Int32} (v : Int32) {vs : List Value} {dv : Value} {rest : List Value} (A : Arv Z h a k .char z vs dv) (hj : ¬ j < 0 ∧ j < z) (hv : vs.getD j.toNatClampNeg dv = .int v) (hd : decode c.code pc = .ok (.caload, 1)) (hn : pc + 1 = n) (K : Ends p.tables e below Q F (T.setTop (mkF m n Ls (.int v :: rest)))) : Ends p.tables e below Q F (T.setTop (mkF m pc Ls (.int j :: .ref a :: rest))) := by
  subst hn
  obtain ⟨cl, Ar, -, Sz, Nz, Hs, -⟩ := A
  have hin := inb_of Sz hj
  exact K.step fun t kk => X.caload hx (j := j) (v := .int v) (by rw [eT]; exact Ar.1) (State.isArrayOf_alike hZ.alike Ar.2.1) Ar.2.2 hin (Hs.at hin hv) (g := mkF m pc Ls (.int j :: .ref a :: rest)) rfl rfl hd _ kk
theorem aaload (n : Nat) (X : Stand p l e R s m args below meth c T locs cells slots) (hx : p.tables.exec = Jvm.exec) (hZ : Z.Warmed39 s.vm) (eT : T.heap = h) {a : Addr} {k : ClassId} {z j : Int32} {ty : FieldType} (v : Value) {vs : List Value} {dv : Value} {rest : List Value} (A : Arv Z h a k ty z vs dv) (hty : ty.isReference = true) (hj : ¬ j < 0 ∧ j < z) (hv : vs.getD j.toNatClampNeg dv = v) (hd : decode c.code pc = .ok (.aaload, 1)) (hn : pc + 1 = n) (K : Ends p.tables e below Q F (T.setTop (mkF m n Ls (v :: rest)))) : Ends p.tables e below Q F (T.setTop (mkF m pc Ls (.int j :: .ref a :: rest))) := by
  subst hn
  obtain ⟨cl, Ar, -, Sz, Nz, Hs, -⟩ := A
  have hin := inb_of Sz hj
  exact K.step fun t kk => X.aaload hx (j := j) (v := v) (by rw [eT]; exact Ar.1) (State.isArrayOf_alike hZ.alike Ar.2.1) hty Ar.2.2 hin (Hs.at hin hv) (g := mkF m pc Ls (.int j :: .ref a :: rest)) rfl rfl hd _ kk
theorem iastore (n : Nat) (X : Stand p l e R s m args below meth c T locs cells slots) (hx : p.tables.exec = Jvm.exec) (hZ : Z.Warmed39 s.vm) (eT : T.heap = h) {a : Addr} {k : ClassId} {z j : Int32} {x : Int32} {vs : List Value} {dv : Value} {rest : List Value} (A : Arv Z h a k .int z vs dv) (hj : ¬ j < 0 ∧ j < z) (hlen : j.toNatClampNeg < vs.length) (hd : decode c.code pc = .ok (.iastore, 1)) (hn : pc + 1 = n) (K : ∀ T' h', Stand p l e R s m args below meth c T' (locs ++ [⟨a, j.toNatClampNeg⟩]) cells slots → T'.heap = h' → Wr h h' a j.toNatClampNeg (.int x) → Arv Z h' a k .int z (vs.set j.toNatClampNeg (.int x)) dv → Ends p.tables e below Q F (T'.setTop (mkF m n Ls (rest)))) : Ends p.tables e below Q F (T.setTop (mkF m pc Ls (.int x :: .int j :: .ref a :: rest))) := by
  subst hn
  obtain ⟨cl, Ar, q1, Sz, Nz, Hs, Gs⟩ := A
  obtain ⟨T1, h1, X1, e1, W1, st1⟩ := stI X hx hZ eT Ar (j := j) (inb_of Sz hj) (g := mkF m pc Ls (.int x :: .int j :: .ref a :: rest)) rfl rfl hd
  exact (K T1 h1 X1 e1 W1 (Arv.set Ar q1 Sz Nz Hs Gs rfl W1 _ rfl hlen)).step st1
theorem lastore (n : Nat) (X : Stand p l e R s m args below meth c T locs cells slots) (hx : p.tables.exec = Jvm.exec) (hZ : Z.Warmed39 s.vm) (eT : T.heap = h) {a : Addr} {k : ClassId} {z j : Int32} {x : Int64} {vs : List Value} {dv : Value} {rest : List Value} (A : Arv Z h a k .long z vs dv) (hj : ¬ j < 0 ∧ j < z) (hlen : j.toNatClampNeg < vs.length) (hd : decode c.code pc = .ok (.lastore, 1)) (hn : pc + 1 = n) (K : ∀ T' h', Stand p l e R s m args below meth c T' (locs ++ [⟨a, j.toNatClampNeg⟩]) cells slots → T'.heap = h' → Wr h h' a j.toNatClampNeg (.long x) → Arv Z h' a k .long z (vs.set j.toNatClampNeg (.long x)) dv → Ends p.tables e below Q F (T'.setTop (mkF m n Ls (rest)))) : Ends p.tables e below Q F (T.setTop (mkF m pc Ls (.long x :: .int j :: .ref a :: rest))) := by
  subst hn
  obtain ⟨cl, Ar, q1, Sz, Nz, Hs, Gs⟩ := A
  obtain ⟨T1, h1, X1, e1, W1, st1⟩ := stJ X hx hZ eT Ar (j := j) (inb_of Sz hj) (g := mkF m pc Ls (.long x :: .int j :: .ref a :: rest)) rfl rfl hd
  exact (K T1 h1 X1 e1 W1 (Arv.set Ar q1 Sz Nz Hs Gs rfl W1 _ rfl hlen)).step st1
theorem bastore (n : Nat) (X : Stand p l e R s m args below meth c T locs cells slots) (hx : p.tables.exec = Jvm.exec) (hZ : Z.Warmed39 s.vm) (eT : T.heap = h) {a : Addr} {k : ClassId} {z j : Int32} {x : Int32} {vs : List Value} {dv : Value} {rest : List Value} (A : Arv Z h a k .byte z vs dv) (hj : ¬ j < 0 ∧ j < z) (hlen : j.toNatClampNeg < vs.length) (hd : decode c.code pc = .ok (.bastore, 1)) (hn : pc + 1 = n) (K : ∀ T' h', Stand p l e R s m args below meth c T' (locs ++ [⟨a, j.toNatClampNeg⟩]) cells slots → T'.heap = h' → Wr h h' a j.toNatClampNeg (.int x.toInt8.toInt32) → Arv Z h' a k .byte z (vs.set j.toNatClampNeg (.int x.toInt8.toInt32)) dv → Ends p.tables e below Q F (T'.setTop (mkF m n Ls (rest)))) : Ends p.tables e below Q F (T.setTop (mkF m pc Ls (.int x :: .int j :: .ref a :: rest))) := by
  subst hn
  obtain ⟨cl, Ar, q1, Sz, Nz, Hs, Gs⟩ := A
  obtain ⟨T1, h1, X1, e1, W1, st1⟩ := stB X hx hZ eT Ar (j := j) (inb_of Sz hj) (g := mkF m pc Ls (.int x :: .int j :: .ref a :: rest)) rfl rfl hd
  exact (K T1 h1 X1 e1 W1 (Arv.set Ar q1 Sz Nz Hs Gs (fits_nar_byte _) W1 _ rfl hlen)).step st1
theorem castore (n : Nat) (X : Stand p l e R s m args below meth c T locs cells slots) (hx : p.tables.exec = Jvm.exec) (hZ : Z.Warmed39 s.vm) (eT : T.heap = h) {a : Addr} {k : ClassId} {z j : Int32} {x : Int32} {vs : List Value} {dv : Value} {rest : List Value} (A : Arv Z h a k .char z vs dv) (hj : ¬ j < 0 ∧ j < z) (hlen : j.toNatClampNeg < vs.length) (hd : decode c.code pc = .ok (.castore, 1)) (hn : pc + 1 = n) (K : ∀ T' h', Stand p l e R s m args below meth c T' (locs ++ [⟨a, j.toNatClampNeg⟩]) cells slots → T'.heap = h' → Wr h h' a j.toNatClampNeg (.int (nar .char x)) → Arv Z h' a k .char z (vs.set j.toNatClampNeg (.int (nar .char x))) dv → Ends p.tables e below Q F (T'.setTop (mkF m n Ls (rest)))) : Ends p.tables e below Q F (T.setTop (mkF m pc Ls (.int x :: .int j :: .ref a :: rest))) := by
  subst hn
  obtain ⟨cl, Ar, q1, Sz, Nz, Hs, Gs⟩ := A
  obtain ⟨T1, h1, X1, e1, W1, st1⟩ := stC X hx hZ eT Ar (j := j) (inb_of Sz hj) (g := mkF m pc Ls (.int x :: .int j :: .ref a :: rest)) rfl rfl hd
  exact (K T1 h1 X1 e1 W1 (Arv.set Ar q1 Sz Nz Hs Gs (fits_nar_char _) W1 _ rfl hlen)).step st1
theorem newArr (n cap : Nat) (X : Stand p l e R s m args below meth c T locs cells slots) (hx : p.tables.exec = Jvm.exec) (hZ : Z.Warmed39 s.vm) {aty : ArrayType} (w : (Cond.arrayClass (newarray.typeOf aty)).before a0 Z = true) (eT : T.heap = h) {z : Int32} {rest : List Value} (hz : ¬ z < 0) (hcap : z.toNatClampNeg ≤ cap) (hb : cap * 8 ≤ 536870912) (hd : decode c.code pc = .ok (.newarray aty, 2)) (hn : pc + 2 = n) (hc : cells + 1 ≤ R.cells) (hl : slots + cap ≤ R.slots) (K : ∀ T' h' a k, a = h.size → Stand p l e R s m args below meth c T' locs (cells + 1) (slots + cap) → T'.heap = h' → Ext h h' → Arv Z h' a k (newarray.typeOf aty) z (List.replicate z.toNatClampNeg (defaultValue (newarray.typeOf aty))) (defaultValue (newarray.typeOf aty)) → Ends p.tables e below Q F (T'.setTop (mkF m n Ls (.ref a :: rest)))) : Ends p.tables e below Q F (T.setTop (mkF m pc Ls (.int z :: rest))) := by
  subst hn
  obtain ⟨T1, h1, k1, X1, e1, E1, A1, st1⟩ := newP X hx hZ w eT (g := mkF m pc Ls (.int z :: rest)) rfl hd rfl hz (cap := cap) hcap hb hc hl
  exact (K T1 h1 _ k1 rfl X1 e1 E1 ((Arv.new A1 hz).pad (pad_rep [] _ _))).step st1
theorem arrCopy (n W : Nat) (X : Stand p l e R s m args below meth c T locs cells slots) (hx : p.tables.exec = Jvm.exec) (hZ : Z.Warmed39 s.vm) {own : String} {index : Nat} (hown : s.vm.findClass own = some m.cls) (w1 : (Cond.methodLink own index Jvm.Stand.acN).before a0 Z = true) (w2 : (Cond.native Jvm.Stand.acN).before a0 Z = true) (w3 : (Cond.static Jvm.Stand.acN).before a0 Z = true) (w4 : (Cond.initialized "java/lang/System").before a0 Z = true) (eT : T.heap = h) {a b : Addr} {k k2 : ClassId} {ty : FieldType} {z z2 sp dp nn : Int32} {vs vd : List Value} {dv dd : Value} (A : Arv Z h a k ty z vs dv) (B : Arv Z h b k2 ty z2 vd dd) (hty : refKind ty = false) (h1 : ¬ sp < 0) (h2 : ¬ dp < 0) (h3 : ¬ nn < 0) (h4 : sp.toNatClampNeg + nn.toNatClampNeg ≤ z.toNatClampNeg) (h5 : dp.toNatClampNeg + nn.toNatClampNeg ≤ z2.toNatClampNeg) (hl : dp.toNatClampNeg + nn.toNatClampNeg ≤ vd.length) {n0 : Nat} (N : Fr n0 locs) (ge : n0 ≤ b) (hsz : Ls.size = c.maxLocals) {rest : List Value} (hd : decode c.code pc = .ok (.invokestatic index, 3)) (hn : pc + 3 = n) (hf : 1 ≤ R.frames) (hW : (rest.map fun v => v.category).sum ≤ W) (hlo : W + (nativeFrameWords "java/lang/System" "arraycopy" 5 + 11) ≤ R.locals) (K : ∀ T' h' L vs', Stand p l e R s m args below meth c T' L cells slots → T'.heap = h' → Fr n0 L → Keep h h' [b] → vs' = vd.take dp.toNatClampNeg ++ ((List.range nn.toNatClampNeg).map fun i => vs.getD (sp.toNatClampNeg + i) dv) ++ vd.drop (dp.toNatClampNeg + nn.toNatClampNeg) → vs'.length = vd.length → Arv Z h' b k2 ty z2 vs' dd → Ends p.tables e below Q F (T'.setTop (mkF m n Ls (rest)))) : Ends p.tables e below Q F (T.setTop (mkF m pc Ls (.int nn :: .int dp :: .ref b :: .int sp :: .ref a :: rest))) := by
  subst hn
  obtain ⟨T1, hh1, L1, X1, e1, N1, K1, V1, st1⟩ := cpA X hx hZ hown w1 w2 w3 w4 eT A B (Or.inl ⟨rfl, hty⟩) h1 h2 h3 h4 h5 rfl hl N ge (g := mkF m pc Ls (.int nn :: .int dp :: .ref b :: .int sp :: .ref a :: rest)) rfl hsz rfl hd hf (W := W) (by show 2 * 0 + _ ≤ _; omega) hlo
  exact (K T1 hh1 L1 _ X1 e1 N1 K1 rfl (by simp; omega) V1).step st1
/-- an array of this kind and length, whatever it holds -/
def Ax (Z : State) (h : Heap) (a : Addr) (ty : FieldType) (z : Int32) : Prop := ∃ (k : ClassId) (vs : List Value), vs.length = z.toNatClampNeg ∧ Arv Z h a k ty z vs (defaultValue ty)
theorem Ax.lt {a : Addr} {ty : FieldType} {z : Int32} (F : Ax Z h a ty z) : a < h.size := by obtain ⟨k, vs, -, A⟩ := F; exact A.lt
theorem Ax.ext {h' : Heap} {a : Addr} {ty : FieldType} {z : Int32} (F : Ax Z h a ty z) (E : Ext h h') : Ax Z h' a ty z := by obtain ⟨k, vs, q, A⟩ := F; exact ⟨k, vs, q, A.ext E⟩
theorem Ax.keep {h' : Heap} {a : Addr} {ty : FieldType} {z : Int32} {ws : List Addr} (F : Ax Z h a ty z) (K : Keep h h' ws) (q : a ∉ ws) : Ax Z h' a ty z := by obtain ⟨k, vs, r, A⟩ := F; exact ⟨k, vs, r, A.keep K q⟩
theorem Ax.other {h' : Heap} {a b : Addr} {sl : Nat} {v : Value} {ty : FieldType} {z : Int32} (F : Ax Z h a ty z) (W : Wr h h' b sl v) (q : a ≠ b) : Ax Z h' a ty z := by obtain ⟨k, vs, r, A⟩ := F; exact ⟨k, vs, r, A.other W q⟩
theorem Ax.nn {a : Addr} {ty : FieldType} {z : Int32} (F : Ax Z h a ty z) : ¬ z < 0 := by obtain ⟨k, vs, -, c, -, -, -, N, -⟩ := F; exact N
theorem axLen (n : Nat) (X : Stand p l e R s m args below meth c T locs cells slots) (hx : p.tables.exec = Jvm.exec) (hZ : Z.Warmed39 s.vm) (eT : T.heap = h) {a : Addr} {ty : FieldType} {z : Int32} {rest : List Value} (A : Ax Z h a ty z) (hd : decode c.code pc = .ok (.arraylength, 1)) (hn : pc + 1 = n) (K : Ends p.tables e below Q F (T.setTop (mkF m n Ls (.int z :: rest)))) : Ends p.tables e below Q F (T.setTop (mkF m pc Ls (.ref a :: rest))) := by
  obtain ⟨k, vs, -, A⟩ := A
  exact arrLen n X hx hZ eT A hd hn K
theorem axLoadI (n : Nat) (X : Stand p l e R s m args below meth c T locs cells slots) (hx : p.tables.exec = Jvm.exec) (hZ : Z.Warmed39 s.vm) (eT : T.heap = h) {a : Addr} {z j : Int32} {rest : List Value} (A : Ax Z h a .int z) (hj : ¬ j < 0 ∧ j < z) (hd : decode c.code pc = .ok (.iaload, 1)) (hn : pc + 1 = n) (K : ∀ v : Int32, Ends p.tables e below Q F (T.setTop (mkF m n Ls (.int v :: rest)))) : Ends p.tables e below Q F (T.setTop (mkF m pc Ls (.int j :: .ref a :: rest))) := by
  obtain ⟨k, vs, -, A⟩ := A
  have A1 := A
  obtain ⟨cl, Ar, -, Sz, Nz, Hs, Gs⟩ := A1
  have hin := inb_of Sz hj
  have G := Gs j.toNatClampNeg (Nat.lt_of_not_le fun y => hin (Or.inr y))
  obtain ⟨v, hv⟩ := fit_I G (Or.inl rfl)
  exact iaload n X hx hZ eT v A hj hv hd hn (K v)
theorem axLoadJ (n : Nat) (X : Stand p l e R s m args below meth c T locs cells slots) (hx : p.tables.exec = Jvm.exec) (hZ : Z.Warmed39 s.vm) (eT : T.heap = h) {a : Addr} {z j : Int32} {rest : List Value} (A : Ax Z h a .long z) (hj : ¬ j < 0 ∧ j < z) (hd : decode c.code pc = .ok (.laload, 1)) (hn : pc + 1 = n) (K : ∀ v : Int64, Ends p.tables e below Q F (T.setTop (mkF m n Ls (.long v :: rest)))) : Ends p.tables e below Q F (T.setTop (mkF m pc Ls (.int j :: .ref a :: rest))) := by
  obtain ⟨k, vs, -, A⟩ := A
  have A1 := A
  obtain ⟨cl, Ar, -, Sz, Nz, Hs, Gs⟩ := A1
  have hin := inb_of Sz hj
  have G := Gs j.toNatClampNeg (Nat.lt_of_not_le fun y => hin (Or.inr y))
  obtain ⟨v, hv⟩ := fit_J G
  exact laload n X hx hZ eT v A hj hv hd hn (K v)
theorem axLoadB (n : Nat) (X : Stand p l e R s m args below meth c T locs cells slots) (hx : p.tables.exec = Jvm.exec) (hZ : Z.Warmed39 s.vm) (eT : T.heap = h) {a : Addr} {z j : Int32} {rest : List Value} (A : Ax Z h a .byte z) (hj : ¬ j < 0 ∧ j < z) (hd : decode c.code pc = .ok (.baload, 1)) (hn : pc + 1 = n) (K : ∀ v : Int32, Ends p.tables e below Q F (T.setTop (mkF m n Ls (.int v :: rest)))) : Ends p.tables e below Q F (T.setTop (mkF m pc Ls (.int j :: .ref a :: rest))) := by
  obtain ⟨k, vs, -, A⟩ := A
  have A1 := A
  obtain ⟨cl, Ar, -, Sz, Nz, Hs, Gs⟩ := A1
  have hin := inb_of Sz hj
  have G := Gs j.toNatClampNeg (Nat.lt_of_not_le fun y => hin (Or.inr y))
  obtain ⟨v, hv⟩ := fit_I G (Or.inr (Or.inr (Or.inl rfl)))
  exact baload n X hx hZ eT v A hj hv hd hn (K v)
theorem axStoreI (n : Nat) (X : Stand p l e R s m args below meth c T locs cells slots) (hx : p.tables.exec = Jvm.exec) (hZ : Z.Warmed39 s.vm) (eT : T.heap = h) {a : Addr} {z j : Int32} {x : Int32} {rest : List Value} (A : Ax Z h a .int z) (hj : ¬ j < 0 ∧ j < z) (hd : decode c.code pc = .ok (.iastore, 1)) (hn : pc + 1 = n) (K : ∀ T' h', Stand p l e R s m args below meth c T' (locs ++ [⟨a, j.toNatClampNeg⟩]) cells slots → T'.heap = h' → Wr h h' a j.toNatClampNeg (.int x) → Ax Z h' a .int z → Ends p.tables e below Q F (T'.setTop (mkF m n Ls (rest)))) : Ends p.tables e below Q F (T.setTop (mkF m pc Ls (.int x :: .int j :: .ref a :: rest))) := by
  obtain ⟨k, vs, hl, A⟩ := A
  have hjz : j.toNatClampNeg < z.toNatClampNeg := by
    have h1 := nat_of hj.1
    have h2 := hj.2
    have h3 := nat_of (Ax.nn ⟨k, vs, hl, A⟩)
    rw [Int32.lt_iff_toInt_lt] at h2
    omega
  exact iastore n X hx hZ eT A hj (by rw [hl]; exact hjz) hd hn (fun T1 h1 X1 e1 W1 A1 => K T1 h1 X1 e1 W1 ⟨k, _, by rw [List.length_set, hl], A1⟩)
theorem axStoreJ (n : Nat) (X : Stand p l e R s m args below meth c T locs cells slots) (hx : p.tables.exec = Jvm.exec) (hZ : Z.Warmed39 s.vm) (eT : T.heap = h) {a : Addr} {z j : Int32} {x : Int64} {rest : List Value} (A : Ax Z h a .long z) (hj : ¬ j < 0 ∧ j < z) (hd : decode c.code pc = .ok (.lastore, 1)) (hn : pc + 1 = n) (K : ∀ T' h', Stand p l e R s m args below meth c T' (locs ++ [⟨a, j.toNatClampNeg⟩]) cells slots → T'.heap = h' → Wr h h' a j.toNatClampNeg (.long x) → Ax Z h' a .long z → Ends p.tables e below Q F (T'.setTop (mkF m n Ls (rest)))) : Ends p.tables e below Q F (T.setTop (mkF m pc Ls (.long x :: .int j :: .ref a :: rest))) := by
  obtain ⟨k, vs, hl, A⟩ := A
  have hjz : j.toNatClampNeg < z.toNatClampNeg := by
    have h1 := nat_of hj.1
    have h2 := hj.2
    have h3 := nat_of (Ax.nn ⟨k, vs, hl, A⟩)
    rw [Int32.lt_iff_toInt_lt] at h2
    omega
  exact lastore n X hx hZ eT A hj (by rw [hl]; exact hjz) hd hn (fun T1 h1 X1 e1 W1 A1 => K T1 h1 X1 e1 W1 ⟨k, _, by rw [List.length_set, hl], A1⟩)
theorem axStoreB (n : Nat) (X : Stand p l e R s m args below meth c T locs cells slots) (hx : p.tables.exec = Jvm.exec) (hZ : Z.Warmed39 s.vm) (eT : T.heap = h) {a : Addr} {z j : Int32} {x : Int32} {rest : List Value} (A : Ax Z h a .byte z) (hj : ¬ j < 0 ∧ j < z) (hd : decode c.code pc = .ok (.bastore, 1)) (hn : pc + 1 = n) (K : ∀ T' h', Stand p l e R s m args below meth c T' (locs ++ [⟨a, j.toNatClampNeg⟩]) cells slots → T'.heap = h' → Wr h h' a j.toNatClampNeg (.int x.toInt8.toInt32) → Ax Z h' a .byte z → Ends p.tables e below Q F (T'.setTop (mkF m n Ls (rest)))) : Ends p.tables e below Q F (T.setTop (mkF m pc Ls (.int x :: .int j :: .ref a :: rest))) := by
  obtain ⟨k, vs, hl, A⟩ := A
  have hjz : j.toNatClampNeg < z.toNatClampNeg := by
    have h1 := nat_of hj.1
    have h2 := hj.2
    have h3 := nat_of (Ax.nn ⟨k, vs, hl, A⟩)
    rw [Int32.lt_iff_toInt_lt] at h2
    omega
  exact bastore n X hx hZ eT A hj (by rw [hl]; exact hjz) hd hn (fun T1 h1 X1 e1 W1 A1 => K T1 h1 X1 e1 W1 ⟨k, _, by rw [List.length_set, hl], A1⟩)
theorem axNew (n cap : Nat) (X : Stand p l e R s m args below meth c T locs cells slots) (hx : p.tables.exec = Jvm.exec) (hZ : Z.Warmed39 s.vm) {aty : ArrayType} (w : (Cond.arrayClass (newarray.typeOf aty)).before a0 Z = true) (eT : T.heap = h) {z : Int32} {rest : List Value} (hz : ¬ z < 0) (hcap : z.toNatClampNeg ≤ cap) (hb : cap * 8 ≤ 536870912) (hd : decode c.code pc = .ok (.newarray aty, 2)) (hn : pc + 2 = n) (hc : cells + 1 ≤ R.cells) (hl : slots + cap ≤ R.slots) (K : ∀ T' h' a, a = h.size → Stand p l e R s m args below meth c T' locs (cells + 1) (slots + cap) → T'.heap = h' → Ext h h' → Ax Z h' a (newarray.typeOf aty) z → Ends p.tables e below Q F (T'.setTop (mkF m n Ls (.ref a :: rest)))) : Ends p.tables e below Q F (T.setTop (mkF m pc Ls (.int z :: rest))) :=
  newArr n cap X hx hZ w eT hz hcap hb hd hn hc hl (fun T1 h1 a k q X1 e1 E1 A1 => K T1 h1 a q X1 e1 E1 ⟨k, _, List.length_replicate, A1⟩)
theorem axCopy (n W : Nat) (X : Stand p l e R s m args below meth c T locs cells slots) (hx : p.tables.exec = Jvm.exec) (hZ : Z.Warmed39 s.vm) {own : String} {index : Nat} (hown : s.vm.findClass own = some m.cls) (w1 : (Cond.methodLink own index Jvm.Stand.acN).before a0 Z = true) (w2 : (Cond.native Jvm.Stand.acN).before a0 Z = true) (w3 : (Cond.static Jvm.Stand.acN).before a0 Z = true) (w4 : (Cond.initialized "java/lang/System").before a0 Z = true) (eT : T.heap = h) {a b : Addr} {ty : FieldType} {z z2 sp dp nn : Int32} (A : Ax Z h a ty z) (B : Ax Z h b ty z2) (hty : refKind ty = false) (h1 : ¬ sp < 0) (h2 : ¬ dp < 0) (h3 : ¬ nn < 0) (h4 : sp.toNatClampNeg + nn.toNatClampNeg ≤ z.toNatClampNeg) (h5 : dp.toNatClampNeg + nn.toNatClampNeg ≤ z2.toNatClampNeg) {n0 : Nat} (N : Fr n0 locs) (ge : n0 ≤ b) (hsz : Ls.size = c.maxLocals) {rest : List Value} (hd : decode c.code pc = .ok (.invokestatic index, 3)) (hn : pc + 3 = n) (hf : 1 ≤ R.frames) (hW : (rest.map fun v => v.category).sum ≤ W) (hlo : W + (nativeFrameWords "java/lang/System" "arraycopy" 5 + 11) ≤ R.locals) (K : ∀ T' h' L, Stand p l e R s m args below meth c T' L cells slots → T'.heap = h' → Fr n0 L → Keep h h' [b] → Ax Z h' b ty z2 → Ends p.tables e below Q F (T'.setTop (mkF m n Ls (rest)))) : Ends p.tables e below Q F (T.setTop (mkF m pc Ls (.int nn :: .int dp :: .ref b :: .int sp :: .ref a :: rest))) := by
  obtain ⟨k, vs, hl, A⟩ := A
  obtain ⟨k2, vd, hl2, B⟩ := B
  exact arrCopy n W X hx hZ hown w1 w2 w3 w4 eT A B hty h1 h2 h3 h4 h5 (by rw [hl2]; exact h5) N ge hsz hd hn hf hW hlo (fun T1 hh1 L1 vs1 X1 e1 N1 K1 _ q V1 => K T1 hh1 L1 X1 e1 N1 K1 ⟨k2, vs1, q.trans hl2, V1⟩)
theorem acmp_ne (nY nN : Nat) (X : Stand p l e R s m args below meth c T locs cells slots) (hx : p.tables.exec = Jvm.exec) {o : Int} {x y : Value} {rest : List Value} (hd : decode c.code pc = .ok (.if_acmp .ne o, 3)) (h1 : x.isRef = true) (h2 : y.isRef = true) (hY : 0 ≤ (pc : Int) + o ∧ ((pc : Int) + o).toNat = nY) (hN : pc + 3 = nN) (KY : ¬ x = y → Ends p.tables e below Q F (T.setTop (mkF m nY Ls (rest)))) (KN : x = y → Ends p.tables e below Q F (T.setTop (mkF m nN Ls (rest)))) : Ends p.tables e below Q F (T.setTop (mkF m pc Ls (y :: x :: rest))) := by
  subst hN
  by_cases q : x = y
  · exact (KN q).step fun t k => acmp (g := mkF m pc Ls (y :: x :: rest)) X hx rfl h1 h2 (pc0 := pc) (pc' := pc + 3) (same := true) rfl hd rfl (decide_eq_true q) hY.1 rfl k
  · exact (KY q).step fun t k => acmp (g := mkF m pc Ls (y :: x :: rest)) X hx rfl h1 h2 (pc0 := pc) (pc' := nY) (same := false) rfl hd rfl (decide_eq_false q) hY.1 hY.2.symm k
theorem acmp_eq (nY nN : Nat) (X : Stand p l e R s m args below meth c T locs cells slots) (hx : p.tables.exec = Jvm.exec) {o : Int} {x y : Value} {rest : List Value} (hd : decode c.code pc = .ok (.if_acmp .eq o, 3)) (h1 : x.isRef = true) (h2 : y.isRef = true) (hY : 0 ≤ (pc : Int) + o ∧ ((pc : Int) + o).toNat = nY) (hN : pc + 3 = nN) (KY : x = y → Ends p.tables e below Q F (T.setTop (mkF m nY Ls (rest)))) (KN : ¬ x = y → Ends p.tables e below Q F (T.setTop (mkF m nN Ls (rest)))) : Ends p.tables e below Q F (T.setTop (mkF m pc Ls (y :: x :: rest))) := by
  subst hN
  by_cases q : x = y
  · exact (KY q).step fun t k => acmp (g := mkF m pc Ls (y :: x :: rest)) X hx rfl h1 h2 (pc0 := pc) (pc' := nY) (same := true) rfl hd rfl (decide_eq_true q) hY.1 hY.2.symm k
  · exact (KN q).step fun t k => acmp (g := mkF m pc Ls (y :: x :: rest)) X hx rfl h1 h2 (pc0 := pc) (pc' := pc + 3) (same := false) rfl hd rfl (decide_eq_false q) hY.1 rfl k
theorem callInitB (n W rc rs : Nat) (a : Addr) (argsL rest : List Value) (X : Stand p l e R s m args below meth c T locs cells slots) (hx : p.tables.exec = Jvm.exec) (hZ : Z.Warmed39 s.vm) {own : String} {index : Nat} {y : MethodName} {bytes : ByteArray} {maxL : Nat} {QQ : Option Value → Heap → List Loc → Prop} (hown : s.vm.findClass own = some m.cls) (hB : Back l R p e below s args y 3 W (fun P a' => a' = (.ref a :: argsL).toArray ∧ P.U.heap = h ∧ P.cells + rc ≤ R.cells ∧ P.slots + rs ≤ R.slots) (fun P _ v B => ∃ L, QQ v B.U.heap L ∧ B.locs = P.locs ++ L ∧ B.cells = P.cells + rc ∧ B.slots = P.slots + rs)) (hy1 : y.name = "<init>") (wl : (Cond.methodLink own index y).before a0 Z = true) (ws : (Cond.instanceMethod y).before a0 Z = true) (wc : (Cond.code y bytes maxL none).before a0 Z = true) (hy : y.cls ≠ "java/lang/invoke/MethodHandle" ∧ y.cls ≠ "java/lang/invoke/VarHandle") (eT : T.heap = h) (hc : cells + rc ≤ R.cells) (hs : slots + rs ≤ R.slots) (hsz : Ls.size = c.maxLocals) (hlen : ∀ sig, parseMethodDescriptor y.desc = some sig → argsL.length = sig.parameters.length) (hst : st = argsL.reverse ++ .ref a :: rest) (hW : (rest.map fun v => v.category).sum ≤ W) (hd : decode c.code pc = .ok (.invokespecial index, 3)) (hn : pc + 3 = n) (K : ∀ v T' L', Stand p l e R s m args below meth c T' (locs ++ L') (cells + rc) (slots + rs) → QQ v T'.heap L' → Ends p.tables e below Q F (T'.setTop (mkF m n Ls (v.toList ++ rest)))) : Ends p.tables e below Q F (T.setTop (mkF m pc Ls (st))) := by
  subst hn
  obtain ⟨v, vm1, ⟨T1, L1, k1, n1⟩, -, X1, ⟨Lc, hQ, l1, y1, z1⟩, st1⟩ := X.specialBack hx (y := y) hy1 hown (mvT hZ wl) (mvT hZ ws) (mvT hZ wc) hy hB (g := mkF m pc Ls st) rfl hsz (Steps.refl _) (a := a) (argsL := argsL) (rest := rest) hlen hst (by show 2 * 0 + _ ≤ _; omega) hd (fun _ _ => ⟨rfl, eT, hc, hs⟩)
  dsimp only [Pt.U, Pt.locs, Pt.cells, Pt.slots] at X1 l1 y1 z1 st1 hQ
  subst l1 y1 z1
  exact (K v T1 Lc X1 hQ).step fun t k => st1.trans k
theorem callVtB (n W rc rs : Nat) (a : Addr) (argsL rest : List Value) (X : Stand p l e R s m args below meth c T locs cells slots) (hx : p.tables.exec = Jvm.exec) (hZ : Z.Warmed39 s.vm) {own CC : String} {index : Nat} {y z : MethodName} {QQ : Option Value → Heap → List Loc → Prop} (hown : s.vm.findClass own = some m.cls) (hB : Back l R p e below s args z 3 W (fun P a' => a' = (.ref a :: argsL).toArray ∧ P.U.heap = h ∧ P.cells + rc ≤ R.cells ∧ P.slots + rs ≤ R.slots) (fun P _ v B => ∃ L, QQ v B.U.heap L ∧ B.locs = P.locs ++ L ∧ B.cells = P.cells + rc ∧ B.slots = P.slots + rs)) (E : Exa Z h a CC) (hnf : NotFace s y) (wl : (Cond.methodLink own index y).before a0 Z = true) (wd : (Cond.declares y).before a0 Z = true) (wsel : (Cond.selects CC y z).before a0 Z = true) (ws : (Cond.instanceMethod z).before a0 Z = true) (hy : y.cls ≠ "java/lang/invoke/MethodHandle" ∧ y.cls ≠ "java/lang/invoke/VarHandle") (eT : T.heap = h) (hc : cells + rc ≤ R.cells) (hs : slots + rs ≤ R.slots) (hsz : Ls.size = c.maxLocals) (hlen : ∀ sig, parseMethodDescriptor y.desc = some sig → argsL.length = sig.parameters.length) (hst : st = argsL.reverse ++ .ref a :: rest) (hW : (rest.map fun v => v.category).sum ≤ W) (hd : decode c.code pc = .ok (.invokevirtual index, 3)) (hn : pc + 3 = n) (K : ∀ v T' L', Stand p l e R s m args below meth c T' (locs ++ L') (cells + rc) (slots + rs) → QQ v T'.heap L' → Ends p.tables e below Q F (T'.setTop (mkF m n Ls (v.toList ++ rest)))) : Ends p.tables e below Q F (T.setTop (mkF m pc Ls (st))) := by
  subst hn
  obtain ⟨cq, kq, qa, qb, qc⟩ := isOf hZ eT E
  obtain ⟨v, vm1, ⟨T1, L1, k1, n1⟩, -, X1, ⟨Lc, hQ, l1, y1, z1⟩, st1⟩ := X.virtualBack hx (y := y) (z := z) hown (mvT hZ wl) (mvT hZ wd) hnf (mvT hZ wsel) (mvT hZ ws) hy hB qa qc (g := mkF m pc Ls st) rfl hsz (Steps.refl _) (argsL := argsL) (rest := rest) hlen hst (by show 2 * 0 + _ ≤ _; omega) hd (fun _ _ => ⟨rfl, eT, hc, hs⟩)
  dsimp only [Pt.U, Pt.locs, Pt.cells, Pt.slots] at X1 l1 y1 z1 st1 hQ
  subst l1 y1 z1
  exact (K v T1 Lc X1 hQ).step fun t k => st1.trans k
theorem eqI_v {t : Term} {k : Int32} {as : Array Value} (q : (Cond.eq t (.int k)).value as s none s [] = some true) : t.eval as s none [] s = some (.int k) := by
  cases ht : t.eval as s none [] s with
  | none => simp [Cond.value, ht] at q
  | some x => cases x <;> simp [Cond.value, Term.eval, ht] at q ⊢; exact q
theorem eqR_v {t u : Term} {b : Addr} {as : Array Value} (hu : u.eval as s none [] s = some (.ref b)) (q : (Cond.eq t u).value as s none s [] = some true) : t.eval as s none [] s = some (.ref b) := by
  cases ht : t.eval as s none [] s with
  | none => simp [Cond.value, ht] at q
  | some x => cases x <;> simp [Cond.value, hu, ht] at q ⊢; exact q
theorem Ends.wide {tb : Tables} {U : State} (k : Ends tb e below Q (FE s C S) U) : Ends tb e below Q (FW s C S) U := by
  obtain ⟨s₂, o, h1, h2, h3, v, L, h4, h5, h6⟩ := k
  exact ⟨s₂, o, h1, h2, h3, v, L, h4, h5, Jvm.RoadKit.wide h6⟩
theorem Ends.since {tb : Tables} {U : State} {vm1 : Vm} {k1 : Nat} (hS : s.Since vm1 k1) (k : Ends tb e below (fun v hh L => Q v hh L ∧ k1 ≤ hh.size) (FE (s.setVm vm1) C S) U) : Ends tb e below Q (FW s C S) U := by
  obtain ⟨s₂, o, h1, h2, h3, v, L, h4, ⟨h5, hk⟩, h6, h7, h8⟩ := k
  obtain ⟨a, b, d⟩ := hS.ended (U := s₂) h7 hk h8
  exact ⟨s₂, o, h1, h2, h3, v, L, h4, h5, h6, a, b, d⟩
theorem ldcStr (n cap : Nat) (X : Stand p l e R s m args below meth c T locs cells slots) (hx : p.tables.exec = Jvm.exec) (hZ : Z.Warmed39 s.vm) {own text : String} {index : Nat} (hown : s.vm.findClass own = some m.cls) (w : (Cond.stringLink own index text).before a0 Z = true) (wS : ∀ a ∈ Bundle.stringAtoms, a.before a0 Z = true) (eT : T.heap = h) (hd : decode c.code pc = .ok (.ldc index, 2)) (hn : pc + 2 = n) (hcap : 4 * text.toList.length ≤ cap) (hbig : cap ≤ 536870912) (hc : cells + 2 ≤ R.cells) (hl : slots + (cap + 4) ≤ R.slots) (K : ∀ (a : Addr) (T' : State) (h' : Heap), Stand p l e R (s.setVm T'.vm) m args below meth c T' locs (cells + 2) (slots + (cap + 4)) → T'.heap = h' → Ext h h' → Z.Warmed39 (s.setVm T'.vm).vm → (s.setVm T'.vm).vm.findClass own = some m.cls → Ends p.tables e below (fun v hh L => Q v hh L ∧ h'.size ≤ hh.size) (FE (s.setVm T'.vm) C S) (T'.setTop (mkF m n Ls (.ref a :: st)))) : Ends p.tables e below Q (FW s C S) (T.setTop (mkF m pc Ls st)) := by
  subst hn
  obtain ⟨a, T1, h1, k1, X1, e1, E1, S1, hk1, Z1, o1, st1⟩ := ldcS (s := s) (vm0 := s.vm) X hx hZ hown w wS eT (k0 := 0) ⟨State.Warmed39.refl s, fun j p hj hp => absurd (Array.getElem?_eq_some_iff.mp hp).1 (Nat.not_lt.mpr hj)⟩ (Nat.zero_le _) (g := mkF m pc Ls st) rfl hd hcap hbig hc hl
  exact Ends.since S1 (Ends.mono ((K a T1 h1 X1 e1 E1 Z1 o1).step st1) (fun v hh L q => ⟨q.1, Nat.le_trans hk1 q.2⟩))
/-- the contract of a body that may load a String constant -/
def MetW (l : Launch) (Z : State) (y : MethodName) (bytes : ByteArray) (maxL : Nat) (ret : Option FieldType) (ws : List Cond) (rm : Room) (as : Array Value) (h : Heap) (QQ : Option Value → Heap → List Loc → Prop) : Prop :=
  MetFree l y (head1 (Cond.code y bytes maxL ret :: ws) rm) (fun a U => a = as ∧ Z.Warmed39 U.vm ∧ U.heap = h) (fun _ _ _ _ _ => True) (fun _ U o U' => ∃ v L, o = .returned v ∧ QQ v U'.heap L ∧ ReturnedEndW U o U' L rm.cells rm.slots)
theorem MetW.of {y : MethodName} {bytes : ByteArray} {maxL : Nat} {ret : Option FieldType} {ws : List Cond} {rm : Room} {as : Array Value} {QQ : Option Value → Heap → List Loc → Prop} (hp : plainFor y = true)
    (body : ∀ (p : Program) (e : Env) (s : State) (m : MethodId) (below : List Frame) (meth : Method) (c : Code) (T : State), p.tables.exec = Jvm.exec → c.code = bytes → c.maxLocals = maxL → s.vm.findClass y.cls = some m.cls → meth.name = y.name → meth.sig.returnType = ret → meth.locks = false → Z.Warmed39 s.vm → Stand p l e rm s m as below meth c T [] 0 0 → T.heap = h → Ends p.tables e below QQ (FW s rm.cells rm.slots) (T.setTop (entryFrame m as maxL))) :
    MetW l Z y bytes maxL ret ws rm as h QQ := by
  refine MetFree.of_bodySF hp hisR ?_
  intro p e s m args below meth c s₁ Bd hml0 hP hK
  obtain ⟨rfl, hZ, hh⟩ := hP
  exact body p e s m below meth c s₁ Bd.exec Bd.bytes hml0 (findClass_of_methodNamed Bd.named) (name_of_methodNamed Bd.named Bd.method).1 Bd.returns Bd.notSynchronized hZ (Stand.of_body Bd) (by rw [← hh, Bd.state]; rfl)
theorem newRefArr (n cap : Nat) (X : Stand p l e R s m args below meth c T locs cells slots) (hx : p.tables.exec = Jvm.exec) (hZ : Z.Warmed39 s.vm) {own CC : String} {index : Nat} (hown : s.vm.findClass own = some m.cls) (w1 : (Cond.classLink own index CC).before a0 Z = true) (w2 : (Cond.arrayOver (.object CC)).before a0 Z = true) (eT : T.heap = h) {z : Int32} {rest : List Value} (hz : ¬ z < 0) (hcap : z.toNatClampNeg ≤ cap) (hb : cap * 8 ≤ 536870912) (hd : decode c.code pc = .ok (.anewarray index, 3)) (hn : pc + 3 = n) (hc : cells + 1 ≤ R.cells) (hl : slots + cap ≤ R.slots) (K : ∀ T' h' a k, a = h.size → Stand p l e R s m args below meth c T' locs (cells + 1) (slots + cap) → T'.heap = h' → Ext h h' → Arv Z h' a k (.object CC) z (List.replicate z.toNatClampNeg .null) .null → Ovr Z k CC → Ends p.tables e below Q F (T'.setTop (mkF m n Ls (.ref a :: rest)))) : Ends p.tables e below Q F (T.setTop (mkF m pc Ls (.int z :: rest))) := by
  subst hn
  obtain ⟨T1, h1, k1, X1, e1, E1, A1, O1, st1⟩ := newR X hx hZ hown w1 w2 eT (g := mkF m pc Ls (.int z :: rest)) rfl hd rfl hz (cap := cap) hcap hb hc hl
  exact (K T1 h1 _ k1 rfl X1 e1 E1 ((Arv.new A1 hz).pad (pad_rep [] _ _)) O1).step st1
theorem aastore (n : Nat) (X : Stand p l e R s m args below meth c T locs cells slots) (hx : p.tables.exec = Jvm.exec) (hZ : Z.Warmed39 s.vm) (eT : T.heap = h) {a : Addr} {k : ClassId} {z j : Int32} {ty : FieldType} {v : Value} {vs : List Value} {dv : Value} {rest : List Value} (A : Arv Z h a k ty z vs dv) (hty : ty.isReference = true) (hv : fits ty v = true) (hS : Sto Z h a v) (hj : ¬ j < 0 ∧ j < z) (hlen : j.toNatClampNeg < vs.length) (hd : decode c.code pc = .ok (.aastore, 1)) (hn : pc + 1 = n) (K : ∀ T' h', Stand p l e R s m args below meth c T' (locs ++ [⟨a, j.toNatClampNeg⟩]) cells slots → T'.heap = h' → Wr h h' a j.toNatClampNeg v → Arv Z h' a k ty z (vs.set j.toNatClampNeg v) dv → Ends p.tables e below Q F (T'.setTop (mkF m n Ls (rest)))) : Ends p.tables e below Q F (T.setTop (mkF m pc Ls (v :: .int j :: .ref a :: rest))) := by
  subst hn
  obtain ⟨cl, Ar, q1, Sz, Nz, Hs, Gs⟩ := A
  obtain ⟨T1, h1, X1, e1, W1, st1⟩ := stR X hx hZ eT Ar (j := j) (inb_of Sz hj) hty hS (g := mkF m pc Ls (v :: .int j :: .ref a :: rest)) rfl rfl hd
  exact (K T1 h1 X1 e1 W1 (Arv.set Ar q1 Sz Nz Hs Gs hv W1 _ rfl hlen)).step st1
theorem cat_ref {v : Value} (hv : v.isRef = true) : v.category = 1 := by rcases ref_cases hv with rfl | ⟨a, rfl⟩ <;> rfl
theorem fits_obj {v : Value} {C : String} (hv : v.isRef = true) : fits (.object C) v = true := by rcases ref_cases hv with rfl | ⟨a, rfl⟩ <;> rfl
/-- a reference that may be null; if not, one of this class -/
def Opt (Z : State) (h : Heap) (v : Value) (C : String) : Prop := v = .null ∨ ∃ a, v = .ref a ∧ Exa Z h a C
theorem Opt.isRef {v : Value} {CC : String} (F : Opt Z h v CC) : v.isRef = true := by rcases F with rfl | ⟨a, rfl, -⟩ <;> rfl
theorem Opt.ext {h' : Heap} {v : Value} {CC : String} (F : Opt Z h v CC) (E : Ext h h') : Opt Z h' v CC := F.imp id fun ⟨a, q, r⟩ => ⟨a, q, r.ext E⟩
theorem Opt.wr {h' : Heap} {v : Value} {CC : String} {a : Addr} {sl : Nat} {u : Value} (F : Opt Z h v CC) (W : Wr h h' a sl u) : Opt Z h' v CC := F.imp id fun ⟨a, q, r⟩ => ⟨a, q, r.wr W⟩
theorem Opt.keep {h' : Heap} {v : Value} {CC : String} {ws : List Addr} (F : Opt Z h v CC) (K : Keep h h' ws) : Opt Z h' v CC := F.imp id fun ⟨a, q, r⟩ => ⟨a, q, r.keep K⟩
theorem Opt.sto {v : Value} {CC : String} {a : Addr} {k : ClassId} {ty : FieldType} {z : Int32} {vs : List Value} {dv : Value} (F : Opt Z h v CC) (A : Arv Z h a k ty z vs dv) (O : Ovr Z k CC) : Sto Z h a v := by
  rcases F with rfl | ⟨y, rfl, E⟩
  · exact Or.inl rfl
  · obtain ⟨cq, Aq, qq, -⟩ := A
    exact Sto.ofV Aq qq O (Ins.self E)
theorem astoreV (n : Nat) (L1 : Array Slot) (X : Stand p l e R s m args below meth c T locs cells slots) (hx : p.tables.exec = Jvm.exec) {k : Nat} {x : Value} {o : Slot} {rest : List Value} (hd : decode c.code pc = .ok (.astore k, 2)) (hn : pc + 2 = n) (hv : x.isRef = true) (hold : Ls[k]? = some o) (ho : One o) (hL : Ls.setIfInBounds k (.val x) = L1) (K : Ends p.tables e below Q F (T.setTop (mkF m n (Ls.setIfInBounds k (.val x)) (rest)))) : Ends p.tables e below Q F (T.setTop (mkF m pc Ls (x :: rest))) := by
  subst hn hL; exact K.step fun t k => XS.astore (g := mkF m pc Ls (x :: rest)) X.here hx rfl hd rfl hv (XS.store1 hold ho (cat_ref hv)) k
theorem astoreNV (n : Nat) (L1 : Array Slot) (X : Stand p l e R s m args below meth c T locs cells slots) (hx : p.tables.exec = Jvm.exec) {k : Fin 4} {x : Value} {o : Slot} {rest : List Value} (hd : decode c.code pc = .ok (.astore_n k, 1)) (hn : pc + 1 = n) (hv : x.isRef = true) (hold : Ls[k.val]? = some o) (ho : One o) (hL : Ls.setIfInBounds k.val (.val x) = L1) (K : Ends p.tables e below Q F (T.setTop (mkF m n (Ls.setIfInBounds k.val (.val x)) (rest)))) : Ends p.tables e below Q F (T.setTop (mkF m pc Ls (x :: rest))) := by
  subst hn hL; exact K.step fun t k => XS.astoreN (g := mkF m pc Ls (x :: rest)) X.here hx rfl hd rfl hv (XS.store1 hold ho (cat_ref hv)) k
end Walk
end Jvm.Own
/- laws to paste: Road.backV (cut by pick.py; bodies as the Statement names them) -/
namespace Jvm.Pilot.@@N@@
namespace StrChars
open Jvm Sem ClassFile Op Lib Jvm.Stand Jvm.Free.XT Jvm.Free.ALB Jvm.Free.JM Jvm.Free
open Jvm.Lib.Cold (StaticIs)
/-- a char array whose places are chars -/
def Ch (a : Addr) (A : Cell) (U : State) : Prop := Arr .char a A U ∧ Typed .char A
theorem Ch.mv {a : Addr} {A : Cell} {U U' : State} (h : Ch a A U) (hal : U.vm.Alike U'.vm) (hh : U'.heap = U.heap) : Ch a A U' := ⟨h.1.mv hal hh, h.2⟩
theorem Ch.keep {a : Addr} {A : Cell} {U U' : State} (h : Ch a A U) (hal : U.vm.Alike U'.vm) (hk : U'.heap[a]? = some A) : Ch a A U' := ⟨h.1.keep hal hk, h.2⟩
/-- what place i of a char[]'s cell holds -/
def cv (A : Cell) (i : Nat) : Int32 := match A.slots[i]? with | some (.int x) => x | _ => 0
theorem Ch.get {a : Addr} {A : Cell} {U : State} (h : Ch a A U) {i : Nat} (hi : i < A.slots.size) : A.slots[i]? = some (.int (cv A i)) := by
  have e := Array.getElem?_eq_getElem hi
  have f := h.2 i _ e
  unfold cv; rw [e]
  generalize A.slots[i] = v at f
  cases v <;> simp [fits] at f ⊢
/-- the byte that i2b leaves of a char -/
def lo8 (x : Int32) : Int32 := x.toInt8.toInt32
theorem fits_lo8 (y : Int32) : fits .byte (.int (lo8 y)) = true := by
  have h1 := y.toInt8.le_toInt
  have h2 := y.toInt8.toInt_lt
  simp only [lo8, fits, Bool.and_eq_true, decide_eq_true_eq, Int32.le_iff_toInt_le, Int8.toInt_toInt32, show (-128 : Int32).toInt = -128 from by decide, show (127 : Int32).toInt = 127 from by decide]
  omega
/-- A' is A but that each place j of lo .. hi - 1 holds f j -/
def Laid (A A' : Cell) (lo hi : Nat) (f : Nat → Value) : Prop := A'.cls = A.cls ∧ A'.vm = A.vm ∧ A'.slots.size = A.slots.size ∧ ∀ i, A'.slots[i]? = if lo ≤ i ∧ i < hi then some (f i) else A.slots[i]?
theorem Laid.zero (A : Cell) (lo : Nat) (f : Nat → Value) : Laid A A lo (lo + 0) f := ⟨rfl, rfl, rfl, fun i => by rw [if_neg (by omega)]⟩
theorem Laid.step {A Ak : Cell} {lo k : Nat} {f : Nat → Value} {v : Value} (h : Laid A Ak lo k f) (hlo : lo ≤ k) (hk : k < Ak.slots.size) (hv : v = f k) : Laid A (Ak.setSlot k v) lo (k + 1) f := by
  refine ⟨h.1, h.2.1, by simpa [Cell.setSlot] using h.2.2.1, fun i => ?_⟩
  by_cases e : k = i
  · subst e; rw [Cell.slots_setSlot_self v hk, if_pos (by omega), hv]
  · rw [Cell.slots_setSlot_ne v e, h.2.2.2 i]
    by_cases q : lo ≤ i ∧ i < k
    · rw [if_pos q, if_pos (by omega)]
    · rw [if_neg q, if_neg (by omega)]
def U16 : String := "java/lang/StringUTF16"
namespace Cmp5
def yN : MethodName := ⟨"java/lang/StringUTF16", "compress", "([CI[BII)I"⟩
abbrev yB : ByteArray := jdk_52_method_21_code
theorem d0 : decode yB 0 = .ok (.iconst 0, 1) := by decide +kernel
theorem d1 : decode yB 1 = .ok (.istore 5, 2) := by decide +kernel
theorem d3 : decode yB 3 = .ok (.iload 5, 2) := by decide +kernel
theorem d5 : decode yB 5 = .ok (.iload 4, 2) := by decide +kernel
theorem d7 : decode yB 7 = .ok (.if_icmp (.ge) 37, 3) := by decide +kernel
theorem d10 : decode yB 10 = .ok (.aload_n 0, 1) := by decide +kernel
theorem d11 : decode yB 11 = .ok (.iload_n 1, 1) := by decide +kernel
theorem d12 : decode yB 12 = .ok (.caload, 1) := by decide +kernel
theorem d13 : decode yB 13 = .ok (.istore 6, 2) := by decide +kernel
theorem d15 : decode yB 15 = .ok (.iload 6, 2) := by decide +kernel
theorem d17 : decode yB 17 = .ok (.sipush 255, 3) := by decide +kernel
theorem d20 : decode yB 20 = .ok (.if_icmp (.le) 6, 3) := by decide +kernel
theorem d26 : decode yB 26 = .ok (.aload_n 2, 1) := by decide +kernel
theorem d27 : decode yB 27 = .ok (.iload_n 3, 1) := by decide +kernel
theorem d28 : decode yB 28 = .ok (.iload 6, 2) := by decide +kernel
theorem d30 : decode yB 30 = .ok (.i2b, 1) := by decide +kernel
theorem d31 : decode yB 31 = .ok (.bastore, 1) := by decide +kernel
theorem d32 : decode yB 32 = .ok (.iinc 1 1, 3) := by decide +kernel
theorem d35 : decode yB 35 = .ok (.iinc 3 1, 3) := by decide +kernel
theorem d38 : decode yB 38 = .ok (.iinc 5 1, 3) := by decide +kernel
theorem d41 : decode yB 41 = .ok (.goto (-38), 3) := by decide +kernel
theorem d44 : decode yB 44 = .ok (.iload 4, 2) := by decide +kernel
theorem d46 : decode yB 46 = .ok (.ireturn, 1) := by decide +kernel
def site : List Cond := []
def tab : Cond := tabOf yN yB 7 (some .int) site
def P (b : Addr) (A : Cell) (d : Addr) (B : Cell) (o q len : Nat) (args : Array Value) (s : State) : Prop := args = #[.ref b, .int (Int32.ofNat o), .ref d, .int (Int32.ofNat q), .int (Int32.ofNat len)] ∧ Ch b A s ∧ Arr .byte d B s ∧ b ≠ d ∧ o + len ≤ A.slots.size ∧ q + len ≤ B.slots.size ∧ ∀ i, i < len → ¬ 255 < cv A (o + i)
def E (b : Addr) (A : Cell) (d : Addr) (B : Cell) (o q len : Nat) (r : Option Value) (s u : State) : Prop := r = some (.int (Int32.ofNat len)) ∧ ∃ B', Put d B' s u ∧ Laid B B' q (q + len) (fun j => Value.int (lo8 (cv A (o + (j - q)))))
/-- no char of the range above 255: len; the places written hold each char's low byte -/
theorem law (l : Launch) (b : Addr) (A : Cell) (d : Addr) (B : Cell) (o q len : Nat) : Law l yN 5 5 0 0 yB 7 (some .int) site (P b A d B o q len) (E b A d B o q len) (copyLocs d q len) 0 0 := by
  refine Law.of_walk (plainFor_of_name (by decide +kernel)) (by decide +kernel) (by decide +kernel) (by decide) (fun _ _ h => by rw [h.1]; rfl) (fun _ U U' hal hh h => ⟨h.1, h.2.1.mv hal hh, h.2.2.1.mv hal hh, h.2.2.2⟩) (fun r U U' V V' h1 hal h2 h => ⟨h.1, h.2.elim fun B' q => ⟨B', q.1.mv h1 h2, q.2⟩⟩) ?_
  intro p e s m args below meth c s₁ X0 hexec hbytes hml hret hlk hnm hown hh0 W hP
  obtain ⟨rfl, hA, hB, hne, l1, l2, hp⟩ := hP
  have c1 : Steps p.tables e below (s₁.setTop (entryFrame m #[.ref b, .int (Int32.ofNat o), .ref d, .int (Int32.ofNat q), .int (Int32.ofNat len)] 7)) (s₁.setTop (mkF m 0 #[.val (.ref b), .val (.int (Int32.ofNat o)), .val (.ref d), .val (.int (Int32.ofNat q)), .val (.int (Int32.ofNat len)), .unset, .unset] [])) := entry rfl
  have hA0 := hA.1.mv X0.warmed.alike hh0
  have hB0 := hB.mv X0.warmed.alike hh0
  have a31 := hA.1.2.2.2
  have c2 : Steps p.tables e below (s₁.setTop (entryFrame m #[.ref b, .int (Int32.ofNat o), .ref d, .int (Int32.ofNat q), .int (Int32.ofNat len)] 7)) (s₁.setTop (mkF m 3 #[.val (.ref b), .val (.int (Int32.ofNat o)), .val (.ref d), .val (.int (Int32.ofNat q)), .val (.int (Int32.ofNat len)), .val (.int 0), .unset] [])) := c1.trans (by
    refine iconstV X0.here hexec rfl 0 (hb hbytes d0) (by decide) ?_
    refine XS.istore X0.here hexec rfl (hb hbytes d1) rfl rfl ?_
    exact Steps.refl _)
  have loop : ∀ (r i : Nat), i + r = len → ∀ (z : Slot), (z = .unset ∨ ∃ w, z = .val w ∧ w.category = 1) → ∀ (Tl : State) (Bk : Cell), Stand p l e { frames := 0, locals := 0, cells := 0, slots := 0 } s m #[.ref b, .int (Int32.ofNat o), .ref d, .int (Int32.ofNat q), .int (Int32.ofNat len)] below meth c Tl ([] ++ copyLocs d q i) 0 0 → Put d Bk s₁ Tl → Laid B Bk q (q + i) (fun j => Value.int (lo8 (cv A (o + (j - q))))) →
      Steps p.tables e below (s₁.setTop (entryFrame m #[.ref b, .int (Int32.ofNat o), .ref d, .int (Int32.ofNat q), .int (Int32.ofNat len)] 7)) (Tl.setTop (mkF m 3 #[.val (.ref b), .val (.int (Int32.ofNat (o + i))), .val (.ref d), .val (.int (Int32.ofNat (q + i))), .val (.int (Int32.ofNat len)), .val (.int (Int32.ofNat i)), z] [])) → ∃ (T' : State) (B' : Cell) (z' : Slot), Stand p l e { frames := 0, locals := 0, cells := 0, slots := 0 } s m #[.ref b, .int (Int32.ofNat o), .ref d, .int (Int32.ofNat q), .int (Int32.ofNat len)] below meth c T' ([] ++ copyLocs d q len) 0 0 ∧ Put d B' s₁ T' ∧ Laid B B' q (q + len) (fun j => Value.int (lo8 (cv A (o + (j - q))))) ∧
      Steps p.tables e below (s₁.setTop (entryFrame m #[.ref b, .int (Int32.ofNat o), .ref d, .int (Int32.ofNat q), .int (Int32.ofNat len)] 7)) (T'.setTop (mkF m 3 #[.val (.ref b), .val (.int (Int32.ofNat (o + len))), .val (.ref d), .val (.int (Int32.ofNat (q + len))), .val (.int (Int32.ofNat len)), .val (.int (Int32.ofNat len)), z'] [])) := by
    intro r
    induction r with
    | zero =>
      intro i hi z hz Tl Bk Xl pl fl cl
      have hil : i = len := by omega
      rw [hil] at Xl fl cl
      exact ⟨Tl, Bk, z, Xl, pl, fl, cl⟩
    | succ r ih =>
      intro i hi z hz Tl Bk Xl pl fl cl
      have all := X0.warmed.alike.symm.trans Xl.warmed.alike
      have hAl := hA0.keep all (pl.other hne hA0.1)
      have hBk := hB0.like all pl.1 fl.1 fl.2.1 fl.2.2.1
      have hlt : q + i < Bk.slots.size := by rw [fl.2.2.1]; omega
      have c3 : Steps p.tables e below (s₁.setTop (entryFrame m #[.ref b, .int (Int32.ofNat o), .ref d, .int (Int32.ofNat q), .int (Int32.ofNat len)] 7)) (Tl.setTop (mkF m 12 #[.val (.ref b), .val (.int (Int32.ofNat (o + i))), .val (.ref d), .val (.int (Int32.ofNat (q + i))), .val (.int (Int32.ofNat len)), .val (.int (Int32.ofNat i)), z] [.int (Int32.ofNat (o + i)), .ref b])) := cl.trans (by
        refine XS.iload Xl.here hexec rfl (hb hbytes d3) rfl ?_
        refine XS.iload Xl.here hexec rfl (hb hbytes d5) rfl ?_
        refine XS.icmpNo Xl.here hexec rfl (hb hbytes d7) rfl (ii_ge_f (lt32 (by omega) (by omega))) ?_
        refine XS.aloadN Xl.here hexec rfl (hb hbytes d10) rfl rfl ?_
        refine XS.iloadN Xl.here hexec rfl (hb hbytes d11) rfl ?_
        exact Steps.refl _)
      have c4 : Steps p.tables e below (s₁.setTop (entryFrame m #[.ref b, .int (Int32.ofNat o), .ref d, .int (Int32.ofNat q), .int (Int32.ofNat len)] 7)) (Tl.setTop (mkF m 13 #[.val (.ref b), .val (.int (Int32.ofNat (o + i))), .val (.ref d), .val (.int (Int32.ofNat (q + i))), .val (.int (Int32.ofNat len)), .val (.int (Int32.ofNat i)), z] [.int (cv A (o + i))])) := c3.trans (by
        refine Xl.aget hexec hAl rfl (hA.get (i := o + i) (by omega)) rfl rfl (hb hbytes d12) ?_
        exact Steps.refl _)
      have c5 : Steps p.tables e below (s₁.setTop (entryFrame m #[.ref b, .int (Int32.ofNat o), .ref d, .int (Int32.ofNat q), .int (Int32.ofNat len)] 7)) (Tl.setTop (mkF m 15 #[.val (.ref b), .val (.int (Int32.ofNat (o + i))), .val (.ref d), .val (.int (Int32.ofNat (q + i))), .val (.int (Int32.ofNat len)), .val (.int (Int32.ofNat i)), .val (.int (cv A (o + i)))] [])) := c4.trans (by
        refine XS.istoreS Xl.here hexec rfl (hb hbytes d13) rfl rfl hz ?_
        exact Steps.refl _)
      have c6 : Steps p.tables e below (s₁.setTop (entryFrame m #[.ref b, .int (Int32.ofNat o), .ref d, .int (Int32.ofNat q), .int (Int32.ofNat len)] 7)) (Tl.setTop (mkF m 31 #[.val (.ref b), .val (.int (Int32.ofNat (o + i))), .val (.ref d), .val (.int (Int32.ofNat (q + i))), .val (.int (Int32.ofNat len)), .val (.int (Int32.ofNat i)), .val (.int (cv A (o + i)))] [.int (lo8 (cv A (o + i))), .int (Int32.ofNat (q + i)), .ref d])) := c5.trans (by
        refine XS.iload Xl.here hexec rfl (hb hbytes d15) rfl ?_
        refine sipushV Xl.here hexec rfl 255 (hb hbytes d17) (by decide) ?_
        refine XS.icmpYes Xl.here hexec rfl (pc0 := 20) rfl (hb hbytes d20) rfl (ii_le_t (hp i (by omega))) (by decide) rfl ?_
        refine XS.aloadN Xl.here hexec rfl (hb hbytes d26) rfl rfl ?_
        refine XS.iloadN Xl.here hexec rfl (hb hbytes d27) rfl ?_
        refine XS.iload Xl.here hexec rfl (hb hbytes d28) rfl ?_
        refine i2b Xl.here hexec rfl (hb hbytes d30) rfl ?_
        exact Steps.refl _)
      obtain ⟨T7, X7, p7, st7⟩ := Xl.aput hexec hBk rfl hlt rfl (fits_lo8 (cv A (o + i))) (g := (mkF m 31 #[.val (.ref b), .val (.int (Int32.ofNat (o + i))), .val (.ref d), .val (.int (Int32.ofNat (q + i))), .val (.int (Int32.ofNat len)), .val (.int (Int32.ofNat i)), .val (.int (cv A (o + i)))] [.int (lo8 (cv A (o + i))), .int (Int32.ofNat (q + i)), .ref d])) rfl (rest := []) rfl (hb hbytes d31)
      have c8 : Steps p.tables e below (s₁.setTop (entryFrame m #[.ref b, .int (Int32.ofNat o), .ref d, .int (Int32.ofNat q), .int (Int32.ofNat len)] 7)) (T7.setTop (mkF m 32 #[.val (.ref b), .val (.int (Int32.ofNat (o + i))), .val (.ref d), .val (.int (Int32.ofNat (q + i))), .val (.int (Int32.ofNat len)), .val (.int (Int32.ofNat i)), .val (.int (cv A (o + i)))] [])) := c6.trans (st7 _ (Steps.refl _))
      have c9 : Steps p.tables e below (s₁.setTop (entryFrame m #[.ref b, .int (Int32.ofNat o), .ref d, .int (Int32.ofNat q), .int (Int32.ofNat len)] 7)) (T7.setTop (mkF m 3 #[.val (.ref b), .val (.int (Int32.ofNat (o + i) + 1)), .val (.ref d), .val (.int (Int32.ofNat (q + i) + 1)), .val (.int (Int32.ofNat len)), .val (.int (Int32.ofNat i + 1)), .val (.int (cv A (o + i)))] [])) := c8.trans (by
        refine iincV X7.here hexec rfl 1 (hb hbytes d32) (by decide) rfl rfl ?_
        refine iincV X7.here hexec rfl 1 (hb hbytes d35) (by decide) rfl rfl ?_
        refine iincV X7.here hexec rfl 1 (hb hbytes d38) (by decide) rfl rfl ?_
        refine XS.goto X7.here hexec rfl (pc0 := 41) rfl (hb hbytes d41) (by decide) rfl ?_
        exact Steps.refl _)
      have c10 : Steps p.tables e below (s₁.setTop (entryFrame m #[.ref b, .int (Int32.ofNat o), .ref d, .int (Int32.ofNat q), .int (Int32.ofNat len)] 7)) (T7.setTop (mkF m 3 #[.val (.ref b), .val (.int (Int32.ofNat (o + (i + 1)))), .val (.ref d), .val (.int (Int32.ofNat (q + (i + 1)))), .val (.int (Int32.ofNat len)), .val (.int (Int32.ofNat (i + 1))), .val (.int (cv A (o + i)))] [])) := by
        have := c9
        rw [succ32, succ32, succ32] at this
        exact this
      exact ih (i + 1) (by omega) _ (Or.inr ⟨_, rfl, rfl⟩) T7 _ (by rw [copyLocs_step, ← List.append_assoc]; exact X7) (pl.trans p7) (fl.step (by omega) hlt (by simp)) c10
  obtain ⟨T9, B9, z9, X9, p9, f9, g9⟩ := loop len 0 (by omega) .unset (Or.inl rfl) s₁ B (by simpa [copyLocs] using X0) ⟨hB0.1, fun _ _ => rfl, rfl⟩ (Laid.zero _ _ _) c2
  have c11 : Steps p.tables e below (s₁.setTop (entryFrame m #[.ref b, .int (Int32.ofNat o), .ref d, .int (Int32.ofNat q), .int (Int32.ofNat len)] 7)) (T9.setTop (mkF m 46 #[.val (.ref b), .val (.int (Int32.ofNat (o + len))), .val (.ref d), .val (.int (Int32.ofNat (q + len))), .val (.int (Int32.ofNat len)), .val (.int (Int32.ofNat len)), z9] [.int (Int32.ofNat len)])) := g9.trans (by
    refine XS.iload X9.here hexec rfl (hb hbytes d3) rfl ?_
    refine XS.iload X9.here hexec rfl (hb hbytes d5) rfl ?_
    refine XS.icmpYes X9.here hexec rfl (pc0 := 7) rfl (hb hbytes d7) rfl (ii_ge_t (nlt32 (by omega) (Nat.le_refl _))) (by decide) rfl ?_
    refine XS.iload X9.here hexec rfl (hb hbytes d44) rfl ?_
    exact Steps.refl _)
  exact ⟨T9, some (.int (Int32.ofNat len)), _, _, _, X9, by simp, rfl, rfl, (fun h => by cases h), ⟨rfl, B9, p9.from hh0, f9⟩, fun fs hl => c11.trans (X9.ireturnOut hexec hret rfl (Or.inl rfl) (hb hbytes d46) hl)⟩
end Cmp5
namespace Cmp3
def yN : MethodName := ⟨"java/lang/StringUTF16", "compress", "([CII)[B"⟩
abbrev yB : ByteArray := jdk_52_method_16_code
theorem d0 : decode yB 0 = .ok (.iload_n 2, 1) := by decide +kernel
theorem d1 : decode yB 1 = .ok (.newarray .byte, 2) := by decide +kernel
theorem d3 : decode yB 3 = .ok (.astore_n 3, 1) := by decide +kernel
theorem d4 : decode yB 4 = .ok (.aload_n 0, 1) := by decide +kernel
theorem d5 : decode yB 5 = .ok (.iload_n 1, 1) := by decide +kernel
theorem d6 : decode yB 6 = .ok (.aload_n 3, 1) := by decide +kernel
theorem d7 : decode yB 7 = .ok (.iconst 0, 1) := by decide +kernel
theorem d8 : decode yB 8 = .ok (.iload_n 2, 1) := by decide +kernel
theorem d9 : decode yB 9 = .ok (.invokestatic 115, 3) := by decide +kernel
theorem d12 : decode yB 12 = .ok (.istore 4, 2) := by decide +kernel
theorem d14 : decode yB 14 = .ok (.iload 4, 2) := by decide +kernel
theorem d16 : decode yB 16 = .ok (.iload_n 2, 1) := by decide +kernel
theorem d17 : decode yB 17 = .ok (.if_icmp (.eq) 40, 3) := by decide +kernel
theorem d57 : decode yB 57 = .ok (.aload_n 3, 1) := by decide +kernel
theorem d58 : decode yB 58 = .ok (.areturn, 1) := by decide +kernel
def site : List Cond := [.arrayClass .byte, Cmp5.tab] ++ staticW U16 115 Cmp5.yN
def tab : Cond := tabOf yN yB 6 (some (.array .byte)) site
def P (b : Addr) (A : Cell) (o len : Nat) (args : Array Value) (s : State) : Prop := args = #[.ref b, .int (Int32.ofNat o), .int (Int32.ofNat len)] ∧ Ch b A s ∧ o + len ≤ A.slots.size ∧ len ≤ 536870912 ∧ ∀ i, i < len → ¬ 255 < cv A (o + i)
def E (b : Addr) (A : Cell) (o len : Nat) (r : Option Value) (s u : State) : Prop := NewArr .byte "[B" len (fun j => .int (lo8 (cv A (o + j)))) r s u ∧ u.heap.size = s.heap.size + 1
/-- no char of the range above 255: a new byte[] of their low bytes -/
theorem law (l : Launch) (b : Addr) (A : Cell) (o len : Nat) : Law l yN 3 3 1 18 yB 6 (some (.array .byte)) site (P b A o len) (E b A o len) [] 1 len := by
  refine Law.of_walk (plainFor_of_name (by decide +kernel)) (by decide +kernel) (by decide +kernel) (by decide) (fun _ _ h => by rw [h.1]; rfl) (fun _ U U' hal hh h => ⟨h.1, h.2.1.mv hal hh, h.2.2⟩) (fun r U U' V V' h1 hal h2 h => ⟨NewArr.mv r U U' V V' h1 hal h2 h.1, by rw [h1, h2]; exact h.2⟩) ?_
  intro p e s m args below meth c s₁ X0 hexec hbytes hml hret hlk hnm hown hh0 W hP
  obtain ⟨rfl, hA, l1, l2, hp⟩ := hP
  have a31 := hA.1.2.2.2
  have c1 : Steps p.tables e below (s₁.setTop (entryFrame m #[.ref b, .int (Int32.ofNat o), .int (Int32.ofNat len)] 6)) (s₁.setTop (mkF m 0 #[.val (.ref b), .val (.int (Int32.ofNat o)), .val (.int (Int32.ofNat len)), .unset, .unset, .unset] [])) := entry rfl
  have c2 : Steps p.tables e below (s₁.setTop (entryFrame m #[.ref b, .int (Int32.ofNat o), .int (Int32.ofNat len)] 6)) (s₁.setTop (mkF m 1 #[.val (.ref b), .val (.int (Int32.ofNat o)), .val (.int (Int32.ofNat len)), .unset, .unset, .unset] [.int (Int32.ofNat len)])) := c1.trans (by
    refine XS.iloadN X0.here hexec rfl (hb hbytes d0) rfl ?_
    exact Steps.refl _)
  obtain ⟨T3, B3, X3, ba3, bs3, bv3, bh3, bf3, st3⟩ := X0.anew hexec (atype := .byte) (wk W (.arrayClass .byte)) rfl (by show len * 1 ≤ _; omega) (by omega) (g := (mkF m 1 #[.val (.ref b), .val (.int (Int32.ofNat o)), .val (.int (Int32.ofNat len)), .unset, .unset, .unset] [.int (Int32.ofNat len)])) rfl (hb hbytes d1) (rest := []) rfl (Nat.le_refl _) (by show 0 + len ≤ len; omega)
  rw [hh0] at ba3 st3
  have kp3 : XT.Kept s T3 := (XT.Kept.of_eq hh0).push bh3
  have hA3 := hA.keep X3.warmed.alike (kp3 _ _ hA.1.1)
  have hne : b ≠ s.heap.size := hA.1.ne
  have c4 : Steps p.tables e below (s₁.setTop (entryFrame m #[.ref b, .int (Int32.ofNat o), .int (Int32.ofNat len)] 6)) (T3.setTop (mkF m 3 #[.val (.ref b), .val (.int (Int32.ofNat o)), .val (.int (Int32.ofNat len)), .unset, .unset, .unset] [.ref s.heap.size])) := c2.trans (st3 _ (Steps.refl _))
  have c5 : Steps p.tables e below (s₁.setTop (entryFrame m #[.ref b, .int (Int32.ofNat o), .int (Int32.ofNat len)] 6)) (T3.setTop (mkF m 9 #[.val (.ref b), .val (.int (Int32.ofNat o)), .val (.int (Int32.ofNat len)), .val (.ref s.heap.size), .unset, .unset] [.int (Int32.ofNat len), .int 0, .ref s.heap.size, .int (Int32.ofNat o), .ref b])) := c4.trans (by
    refine XS.astoreN X3.here hexec rfl (hb hbytes d3) rfl rfl rfl ?_
    refine XS.aloadN X3.here hexec rfl (hb hbytes d4) rfl rfl ?_
    refine XS.iloadN X3.here hexec rfl (hb hbytes d5) rfl ?_
    refine XS.aloadN X3.here hexec rfl (hb hbytes d6) rfl rfl ?_
    refine iconstV X3.here hexec rfl 0 (hb hbytes d7) (by decide) ?_
    refine XS.iloadN X3.here hexec rfl (hb hbytes d8) rfl ?_
    exact Steps.refl _)
  obtain ⟨v6, T6, X6, E6, g6⟩ := X3.callS hexec (Cmp5.law l b A s.heap.size B3 o 0 len) hown (wks W (staticW U16 115 Cmp5.yN)) (wk W Cmp5.tab) (W := 0) (Nat.le_of_ble_eq_true rfl) (Nat.le_of_ble_eq_true rfl) (Nat.le_refl _) (by show 0 + len + 0 ≤ len; omega) (g := (mkF m 9 #[.val (.ref b), .val (.int (Int32.ofNat o)), .val (.int (Int32.ofNat len)), .val (.ref s.heap.size), .unset, .unset] [.int (Int32.ofNat len), .int (Int32.ofNat 0), .ref s.heap.size, .int (Int32.ofNat o), .ref b])) rfl (by rw [hml]; rfl) c5 (argsL := [.ref b, .int (Int32.ofNat o), .ref s.heap.size, .int (Int32.ofNat 0), .int (Int32.ofNat len)]) (rest := []) rfl rfl (by show 2 * 0 + 0 ≤ _; decide) (hb hbytes d9) (⟨rfl, hA3, ba3, hne, l1, by rw [bs3]; simp, hp⟩)
  obtain ⟨rfl, B6, p6, f6⟩ := E6
  have c7 : Steps p.tables e below (s₁.setTop (entryFrame m #[.ref b, .int (Int32.ofNat o), .int (Int32.ofNat len)] 6)) (T6.setTop (mkF m 12 #[.val (.ref b), .val (.int (Int32.ofNat o)), .val (.int (Int32.ofNat len)), .val (.ref s.heap.size), .unset, .unset] [.int (Int32.ofNat len)])) := g6
  have c8 : Steps p.tables e below (s₁.setTop (entryFrame m #[.ref b, .int (Int32.ofNat o), .int (Int32.ofNat len)] 6)) (T6.setTop (mkF m 58 #[.val (.ref b), .val (.int (Int32.ofNat o)), .val (.int (Int32.ofNat len)), .val (.ref s.heap.size), .val (.int (Int32.ofNat len)), .unset] [.ref s.heap.size])) := c7.trans (by
    refine XS.istore X6.here hexec rfl (hb hbytes d12) rfl rfl ?_
    refine XS.iload X6.here hexec rfl (hb hbytes d14) rfl ?_
    refine XS.iloadN X6.here hexec rfl (hb hbytes d16) rfl ?_
    refine XS.icmpYes X6.here hexec rfl (pc0 := 17) rfl (hb hbytes d17) rfl (ii_eq_t rfl) (by decide) rfl ?_
    refine XS.aloadN X6.here hexec rfl (hb hbytes d57) rfl rfl ?_
    exact Steps.refl _)
  have X8 := X6.wide (L' := []) (cells' := 1) (slots' := len) (fun x hx hlt => by
    simp only [List.nil_append, copyLocs, List.mem_map, List.mem_range] at hx
    obtain ⟨i, -, rfl⟩ := hx
    exact absurd hlt (Nat.lt_irrefl _)) (Nat.le_refl _) (by omega)
  exact ⟨T6, some (.ref s.heap.size), _, _, _, X8, rfl, rfl, rfl, (fun h => by cases h), ⟨⟨rfl, B6, ba3.like (X3.warmed.alike.symm.trans X6.warmed.alike) p6.1 f6.1 f6.2.1 f6.2.2.1, f6.2.1.trans bv3, by rw [X6.warmed.alike.findClass, f6.1]; exact bf3, by rw [f6.2.2.1, bs3]; simp, fun j hj => by rw [f6.2.2.2 j, if_pos (by omega)]; rfl, kp3.put p6 (Nat.le_refl _)⟩, by rw [p6.2.2, bh3, hh0]; simp⟩, fun fs hl => c8.trans (X8.areturnOut hexec rfl hret rfl (hb hbytes d58) hl)⟩
end Cmp3
namespace CodL
def yN : MethodName := ⟨"java/lang/StringUTF16", "coderFromArrayLen", "([BI)B"⟩
abbrev yB : ByteArray := jdk_52_method_15_code
theorem d0 : decode yB 0 = .ok (.iload_n 1, 1) := by decide +kernel
theorem d1 : decode yB 1 = .ok (.aload_n 0, 1) := by decide +kernel
theorem d2 : decode yB 2 = .ok (.arraylength, 1) := by decide +kernel
theorem d3 : decode yB 3 = .ok (.isub, 1) := by decide +kernel
theorem d4 : decode yB 4 = .ok (.bipush 31, 2) := by decide +kernel
theorem d6 : decode yB 6 = .ok (.iushr, 1) := by decide +kernel
theorem d7 : decode yB 7 = .ok (.i2b, 1) := by decide +kernel
theorem d8 : decode yB 8 = .ok (.ireturn, 1) := by decide +kernel
def site : List Cond := []
def tab : Cond := tabOf yN yB 2 (some .byte) site
def P (d : Addr) (B : Cell) (args : Array Value) (s : State) : Prop := args = #[.ref d, .int (Int32.ofNat B.slots.size)] ∧ Arr .byte d B s
def E (r : Option Value) (s u : State) : Prop := XT.PureE (some (.int 0)) r s u
/-- an array as long as the number of chars: LATIN1 -/
theorem law (l : Launch) (d : Addr) (B : Cell) : Law l yN 2 2 0 0 yB 2 (some .byte) site (P d B) E [] 0 0 := by
  refine Law.of_walk (plainFor_of_name (by decide +kernel)) (by decide +kernel) (by decide +kernel) (by decide) (fun _ _ h => by rw [h.1]; rfl) (fun _ U U' hal hh h => ⟨h.1, h.2.mv hal hh⟩) (fun r U U' V V' h1 hal h2 h => XT.PureE.mv r U U' V V' h1 hal h2 h) ?_
  intro p e s m args below meth c s₁ X0 hexec hbytes hml hret hlk hnm hown hh0 W hP
  obtain ⟨rfl, hB⟩ := hP
  have hB0 := hB.mv X0.warmed.alike hh0
  have c1 : Steps p.tables e below (s₁.setTop (entryFrame m #[.ref d, .int (Int32.ofNat B.slots.size)] 2)) (s₁.setTop (mkF m 0 #[.val (.ref d), .val (.int (Int32.ofNat B.slots.size))] [])) := entry rfl
  have c2 : Steps p.tables e below (s₁.setTop (entryFrame m #[.ref d, .int (Int32.ofNat B.slots.size)] 2)) (s₁.setTop (mkF m 2 #[.val (.ref d), .val (.int (Int32.ofNat B.slots.size))] [.ref d, .int (Int32.ofNat B.slots.size)])) := c1.trans (by
    refine XS.iloadN X0.here hexec rfl (hb hbytes d0) rfl ?_
    refine XS.aloadN X0.here hexec rfl (hb hbytes d1) rfl rfl ?_
    exact Steps.refl _)
  have c3 : Steps p.tables e below (s₁.setTop (entryFrame m #[.ref d, .int (Int32.ofNat B.slots.size)] 2)) (s₁.setTop (mkF m 8 #[.val (.ref d), .val (.int (Int32.ofNat B.slots.size))] [.int (lo8 (ushr (Int32.ofNat B.slots.size - Int32.ofNat B.slots.size) 31))])) := c2.trans (by
    refine X0.alen hexec hB0 rfl rfl (hb hbytes d2) ?_
    refine XS.isub X0.here hexec rfl (hb hbytes d3) rfl ?_
    refine bipushV X0.here hexec rfl 31 (hb hbytes d4) (by decide) ?_
    refine iushr X0.here hexec rfl (hb hbytes d6) rfl ?_
    refine i2b X0.here hexec rfl (hb hbytes d7) rfl ?_
    exact Steps.refl _)
  have e0 : lo8 (ushr (Int32.ofNat B.slots.size - Int32.ofNat B.slots.size) 31) = 0 := by rw [Int32.sub_self]; decide
  rw [e0] at c3
  exact ⟨s₁, some (.int 0), _, _, _, X0, rfl, rfl, rfl, (fun h => by cases h), ⟨rfl, hh0⟩, fun fs hl => c3.trans (X0.ireturnOut hexec hret rfl (Or.inr (Or.inr (Or.inl rfl))) (hb hbytes d8) hl)⟩
end CodL
/-- the String at a is Latin-1 over a new byte[] (the heap's one new cell): the low bytes of the len chars of A from o on; every cell but a is kept -/
def Got (a : Addr) (D : Cell) (fV fC : Field) (A : Cell) (o len : Nat) (r : Option Value) (s u : State) : Prop := r = none ∧ ∃ D' V : Cell, Blank "java/lang/String" a D' u ∧ Same D D' [fV.slot, fC.slot] ∧ D'.slots[fV.slot]? = some (.ref s.heap.size) ∧ D'.slots[fC.slot]? = some (.int 0) ∧ Arr .byte s.heap.size V u ∧ V.vm = .none ∧ u.vm.findClass "[B" = some V.cls ∧ V.slots.size = len ∧ (∀ j, j < len → V.slots[j]? = some (.int (lo8 (cv A (o + j))))) ∧ (∀ (y : Addr) (c : Cell), y ≠ a → s.heap[y]? = some c → u.heap[y]? = some c) ∧ u.heap.size = s.heap.size + 1
theorem Got.mv {a : Addr} {D A : Cell} {fV fC : Field} {o len : Nat} : ∀ r (U U' V V' : State), U'.heap = U.heap → V.vm.Alike V'.vm → V'.heap = V.heap → Got a D fV fC A o len r U V → Got a D fV fC A o len r U' V' :=
  fun r U U' V V' h1 hal h2 ⟨e0, D', X, a1, a2, a3, a4, a5, a6, a7, a8, a9, a10, a11⟩ => ⟨e0, D', X, a1.mv hal h2, a2, by rw [h1]; exact a3, a4, by rw [h1]; exact a5.mv hal h2, a6, by rw [hal.findClass]; exact a7, a8, a9, by rw [h1, h2]; exact a10, by rw [h1, h2]; exact a11⟩
namespace New4
def yN : MethodName := ⟨"java/lang/String", "<init>", "([CIILjava/lang/Void;)V"⟩
abbrev yB : ByteArray := jdk_42_method_149_code
theorem d0 : decode yB 0 = .ok (.aload_n 0, 1) := by decide +kernel
theorem d1 : decode yB 1 = .ok (.invokespecial 1, 3) := by decide +kernel
theorem d4 : decode yB 4 = .ok (.iload_n 3, 1) := by decide +kernel
theorem d5 : decode yB 5 = .ok (.ifCond (.ne) 22, 3) := by decide +kernel
theorem d27 : decode yB 27 = .ok (.getstatic 38, 3) := by decide +kernel
theorem d30 : decode yB 30 = .ok (.ifCond (.eq) 28, 3) := by decide +kernel
theorem d33 : decode yB 33 = .ok (.aload_n 1, 1) := by decide +kernel
theorem d34 : decode yB 34 = .ok (.iload_n 2, 1) := by decide +kernel
theorem d35 : decode yB 35 = .ok (.iload_n 3, 1) := by decide +kernel
theorem d36 : decode yB 36 = .ok (.invokestatic 177, 3) := by decide +kernel
theorem d39 : decode yB 39 = .ok (.astore 5, 2) := by decide +kernel
theorem d41 : decode yB 41 = .ok (.aload_n 0, 1) := by decide +kernel
theorem d42 : decode yB 42 = .ok (.aload 5, 2) := by decide +kernel
theorem d44 : decode yB 44 = .ok (.iload_n 3, 1) := by decide +kernel
theorem d45 : decode yB 45 = .ok (.invokestatic 47, 3) := by decide +kernel
theorem d48 : decode yB 48 = .ok (.putfield 15, 3) := by decide +kernel
theorem d51 : decode yB 51 = .ok (.aload_n 0, 1) := by decide +kernel
theorem d52 : decode yB 52 = .ok (.aload 5, 2) := by decide +kernel
theorem d54 : decode yB 54 = .ok (.putfield 9, 3) := by decide +kernel
theorem d57 : decode yB 57 = .ok (.return_, 1) := by decide +kernel
def site : List Cond := [.fieldLink "java/lang/String" 38 "java/lang/String" "COMPACT_STRINGS" "Z", Cmp3.tab, CodL.tab, .laysFinal "java/lang/String" "java/lang/String" "value" "[B", .fieldLink "java/lang/String" 9 "java/lang/String" "value" "[B", .laysFinal "java/lang/String" "java/lang/String" "coder" "B", .fieldLink "java/lang/String" 15 "java/lang/String" "coder" "B"] ++ objW "java/lang/String" 1 ++ staticW "java/lang/String" 177 Cmp3.yN ++ staticW "java/lang/String" 47 CodL.yN
def tab : Cond := tabOf yN yB 6 none site
def P (a : Addr) (D : Cell) (fV fC : Field) (b : Addr) (A : Cell) (z : Int32) (o len : Nat) (args : Array Value) (s : State) : Prop := args = #[.ref a, .ref b, .int (Int32.ofNat o), .int (Int32.ofNat len), .null] ∧ Blank "java/lang/String" a D s ∧ Found "java/lang/String" "value" "[B" fV s ∧ Found "java/lang/String" "coder" "B" fC s ∧ Ch b A s ∧ StaticIs s "java/lang/String" "COMPACT_STRINGS" "Z" (.int z) ∧ ¬ z = 0 ∧ 0 < len ∧ o + len ≤ A.slots.size ∧ len ≤ 536870912 ∧ ∀ i, i < len → ¬ 255 < cv A (o + i)
def E (a : Addr) (D : Cell) (fV fC : Field) (A : Cell) (o len : Nat) (r : Option Value) (s u : State) : Prop := Got a D fV fC A o len r s u
/-- len > 0, no char of the range above 255: a Latin-1 String of their low bytes -/
theorem law (l : Launch) (a : Addr) (D : Cell) (fV fC : Field) (b : Addr) (A : Cell) (z : Int32) (o len : Nat) : Law l yN 5 4 2 35 yB 6 none site (P a D fV fC b A z o len) (E a D fV fC A o len) [⟨a, fC.slot⟩, ⟨a, fV.slot⟩] 1 len := by
  refine Law.of_walk (plainFor_of_name (by decide +kernel)) (by decide +kernel) (by decide +kernel) (by decide) (fun _ _ h => by rw [h.1]; rfl) (fun _ U U' hal hh h => ⟨h.1, h.2.1.mv hal hh, h.2.2.1.al hal, h.2.2.2.1.al hal, h.2.2.2.2.1.mv hal hh, h.2.2.2.2.2.1.there hal hh, h.2.2.2.2.2.2⟩) (fun r U U' V V' h1 hal h2 h => Got.mv r U U' V V' h1 hal h2 h) ?_
  intro p e s m args below meth c s₁ X0 hexec hbytes hml hret hlk hnm hown hh0 W hP
  obtain ⟨rfl, hB, f1, f2, hA, s1, hz, l0, l1, l2, hp⟩ := hP
  have a31 := hA.1.2.2.2
  have c1 : Steps p.tables e below (s₁.setTop (entryFrame m #[.ref a, .ref b, .int (Int32.ofNat o), .int (Int32.ofNat len), .null] 6)) (s₁.setTop (mkF m 0 #[.val (.ref a), .val (.ref b), .val (.int (Int32.ofNat o)), .val (.int (Int32.ofNat len)), .val .null, .unset] [])) := entry rfl
  have c2 : Steps p.tables e below (s₁.setTop (entryFrame m #[.ref a, .ref b, .int (Int32.ofNat o), .int (Int32.ofNat len), .null] 6)) (s₁.setTop (mkF m 1 #[.val (.ref a), .val (.ref b), .val (.int (Int32.ofNat o)), .val (.int (Int32.ofNat len)), .val .null, .unset] [.ref a])) := c1.trans (by
    refine XS.aloadN X0.here hexec rfl (hb hbytes d0) rfl rfl ?_
    exact Steps.refl _)
  obtain ⟨T3, X3, q3, st3⟩ := X0.oinit hexec hown (wks W (objW "java/lang/String" 1)) (g := (mkF m 1 #[.val (.ref a), .val (.ref b), .val (.int (Int32.ofNat o)), .val (.int (Int32.ofNat len)), .val .null, .unset] [.ref a])) rfl (by rw [hml]; rfl) (rest := []) rfl (hb hbytes d1) (W := 0) (by show 2 * 0 + 0 ≤ _; decide) (Nat.le_of_ble_eq_true rfl) (Nat.le_of_ble_eq_true rfl)
  have hh3 := q3.trans hh0
  have c4 : Steps p.tables e below (s₁.setTop (entryFrame m #[.ref a, .ref b, .int (Int32.ofNat o), .int (Int32.ofNat len), .null] 6)) (T3.setTop (mkF m 27 #[.val (.ref a), .val (.ref b), .val (.int (Int32.ofNat o)), .val (.int (Int32.ofNat len)), .val .null, .unset] [])) := (c2.trans (st3 _ (Steps.refl _))).trans (by
    refine XS.iloadN X3.here hexec rfl (hb hbytes d4) rfl ?_
    refine XS.ifYes X3.here hexec rfl (pc0 := 5) rfl (hb hbytes d5) rfl (i0_ne_t (nz32 (by omega) l0)) (by decide) rfl ?_
    exact Steps.refl _)
  obtain ⟨T5, X5, q5, st5⟩ := X3.sget hexec hown (wk W (.fieldLink "java/lang/String" 38 "java/lang/String" "COMPACT_STRINGS" "Z")) s1 (fun _ _ h => by rw [hh3]; exact h) (g := (mkF m 27 #[.val (.ref a), .val (.ref b), .val (.int (Int32.ofNat o)), .val (.int (Int32.ofNat len)), .val .null, .unset] [])) rfl (hb hbytes d27)
  have hh5 := q5.trans hh3
  have c6 : Steps p.tables e below (s₁.setTop (entryFrame m #[.ref a, .ref b, .int (Int32.ofNat o), .int (Int32.ofNat len), .null] 6)) (T5.setTop (mkF m 30 #[.val (.ref a), .val (.ref b), .val (.int (Int32.ofNat o)), .val (.int (Int32.ofNat len)), .val .null, .unset] [.int z])) := c4.trans (st5 _ (Steps.refl _))
  have c7 : Steps p.tables e below (s₁.setTop (entryFrame m #[.ref a, .ref b, .int (Int32.ofNat o), .int (Int32.ofNat len), .null] 6)) (T5.setTop (mkF m 36 #[.val (.ref a), .val (.ref b), .val (.int (Int32.ofNat o)), .val (.int (Int32.ofNat len)), .val .null, .unset] [.int (Int32.ofNat len), .int (Int32.ofNat o), .ref b])) := c6.trans (by
    refine XS.ifNo X5.here hexec rfl (hb hbytes d30) rfl (i0_eq_f hz) ?_
    refine XS.aloadN X5.here hexec rfl (hb hbytes d33) rfl rfl ?_
    refine XS.iloadN X5.here hexec rfl (hb hbytes d34) rfl ?_
    refine XS.iloadN X5.here hexec rfl (hb hbytes d35) rfl ?_
    exact Steps.refl _)
  obtain ⟨v8, T8, X8, E8, g8⟩ := X5.callS hexec (Cmp3.law l b A o len) hown (wks W (staticW "java/lang/String" 177 Cmp3.yN)) (wk W Cmp3.tab) (W := 0) (Nat.le_of_ble_eq_true rfl) (Nat.le_of_ble_eq_true rfl) (Nat.le_refl _) (by show 0 + len ≤ len; omega) (g := (mkF m 36 #[.val (.ref a), .val (.ref b), .val (.int (Int32.ofNat o)), .val (.int (Int32.ofNat len)), .val .null, .unset] [.int (Int32.ofNat len), .int (Int32.ofNat o), .ref b])) rfl (by rw [hml]; rfl) c7 (argsL := [.ref b, .int (Int32.ofNat o), .int (Int32.ofNat len)]) (rest := []) rfl rfl (by show 2 * 0 + 0 ≤ _; decide) (hb hbytes d36) (⟨rfl, hA.mv X5.warmed.alike hh5, l1, l2, hp⟩)
  obtain ⟨e8, z8⟩ := E8
  obtain ⟨rfl, N, n1, n2, n3, n4, n5, n6⟩ := NewArr.mv _ T5 s _ _ hh5.symm (Vm.Alike.refl _) rfl e8
  rw [hh5] at z8
  have hB1 := hB.keep X8.warmed.alike (n6 _ _ hB.1)
  have hne : s.heap.size ≠ a := (Nat.ne_of_lt (Array.getElem?_eq_some_iff.mp hB.1).1).symm
  have c9 : Steps p.tables e below (s₁.setTop (entryFrame m #[.ref a, .ref b, .int (Int32.ofNat o), .int (Int32.ofNat len), .null] 6)) (T8.setTop (mkF m 39 #[.val (.ref a), .val (.ref b), .val (.int (Int32.ofNat o)), .val (.int (Int32.ofNat len)), .val .null, .unset] [.ref s.heap.size])) := g8
  have c10 : Steps p.tables e below (s₁.setTop (entryFrame m #[.ref a, .ref b, .int (Int32.ofNat o), .int (Int32.ofNat len), .null] 6)) (T8.setTop (mkF m 45 #[.val (.ref a), .val (.ref b), .val (.int (Int32.ofNat o)), .val (.int (Int32.ofNat len)), .val .null, .val (.ref s.heap.size)] [.int (Int32.ofNat N.slots.size), .ref s.heap.size, .ref a])) := by
    have hc : Steps p.tables e below (s₁.setTop (entryFrame m #[.ref a, .ref b, .int (Int32.ofNat o), .int (Int32.ofNat len), .null] 6)) (T8.setTop (mkF m 45 #[.val (.ref a), .val (.ref b), .val (.int (Int32.ofNat o)), .val (.int (Int32.ofNat len)), .val .null, .val (.ref s.heap.size)] [.int (Int32.ofNat len), .ref s.heap.size, .ref a])) := c9.trans (by
      refine XS.astore X8.here hexec rfl (hb hbytes d39) rfl rfl rfl ?_
      refine XS.aloadN X8.here hexec rfl (hb hbytes d41) rfl rfl ?_
      refine XS.aload X8.here hexec rfl (hb hbytes d42) rfl rfl ?_
      refine XS.iloadN X8.here hexec rfl (hb hbytes d44) rfl ?_
      exact Steps.refl _)
    rw [n4]; exact hc
  obtain ⟨v11, T11, X11, E11, g11⟩ := X8.callS hexec (CodL.law l s.heap.size N) hown (wks W (staticW "java/lang/String" 47 CodL.yN)) (wk W CodL.tab) (W := 1) (Nat.le_of_ble_eq_true rfl) (Nat.le_of_ble_eq_true rfl) (Nat.le_refl _) (by show 0 + len + 0 ≤ len; omega) (g := (mkF m 45 #[.val (.ref a), .val (.ref b), .val (.int (Int32.ofNat o)), .val (.int (Int32.ofNat len)), .val .null, .val (.ref s.heap.size)] [.int (Int32.ofNat N.slots.size), .ref s.heap.size, .ref a])) rfl (by rw [hml]; rfl) c10 (argsL := [.ref s.heap.size, .int (Int32.ofNat N.slots.size)]) (rest := [.ref a]) rfl rfl (by show 2 * 0 + (1 + 0) ≤ _; decide) (hb hbytes d45) (⟨rfl, n1⟩)
  obtain ⟨rfl, q11⟩ := E11
  have hB11 := hB1.mv (X8.warmed.alike.symm.trans X11.warmed.alike) q11
  have c12 : Steps p.tables e below (s₁.setTop (entryFrame m #[.ref a, .ref b, .int (Int32.ofNat o), .int (Int32.ofNat len), .null] 6)) (T11.setTop (mkF m 48 #[.val (.ref a), .val (.ref b), .val (.int (Int32.ofNat o)), .val (.int (Int32.ofNat len)), .val .null, .val (.ref s.heap.size)] [.int 0, .ref a])) := g11
  obtain ⟨T13, X13, p13, bl13, sl13, st13⟩ := X11.finit hexec hown (wk W (.fieldLink "java/lang/String" 15 "java/lang/String" "coder" "B")) (Or.inr ⟨_, (wk W (.laysFinal "java/lang/String" "java/lang/String" "coder" "B"))⟩) (Or.inl ⟨rfl, hnm⟩) f2 (Or.inl rfl) hB11 (t := .byte) (by decide +kernel) rfl (g := (mkF m 48 #[.val (.ref a), .val (.ref b), .val (.int (Int32.ofNat o)), .val (.int (Int32.ofNat len)), .val .null, .val (.ref s.heap.size)] [.int 0, .ref a])) rfl (rest := []) rfl (hb hbytes d48)
  have c14 : Steps p.tables e below (s₁.setTop (entryFrame m #[.ref a, .ref b, .int (Int32.ofNat o), .int (Int32.ofNat len), .null] 6)) (T13.setTop (mkF m 54 #[.val (.ref a), .val (.ref b), .val (.int (Int32.ofNat o)), .val (.int (Int32.ofNat len)), .val .null, .val (.ref s.heap.size)] [.ref s.heap.size, .ref a])) := (c12.trans (st13 _ (Steps.refl _))).trans (by
    refine XS.aloadN X13.here hexec rfl (hb hbytes d51) rfl rfl ?_
    refine XS.aload X13.here hexec rfl (hb hbytes d52) rfl rfl ?_
    exact Steps.refl _)
  obtain ⟨T15, X15, p15, bl15, sl15, st15⟩ := X13.finit hexec hown (wk W (.fieldLink "java/lang/String" 9 "java/lang/String" "value" "[B")) (Or.inr ⟨_, (wk W (.laysFinal "java/lang/String" "java/lang/String" "value" "[B"))⟩) (Or.inl ⟨rfl, hnm⟩) f1 (Or.inl rfl) bl13 (t := (.array .byte)) (by decide +kernel) rfl (g := (mkF m 54 #[.val (.ref a), .val (.ref b), .val (.int (Int32.ofNat o)), .val (.int (Int32.ofNat len)), .val .null, .val (.ref s.heap.size)] [.ref s.heap.size, .ref a])) rfl (rest := []) rfl (hb hbytes d54)
  have c16 : Steps p.tables e below (s₁.setTop (entryFrame m #[.ref a, .ref b, .int (Int32.ofNat o), .int (Int32.ofNat len), .null] 6)) (T15.setTop (mkF m 57 #[.val (.ref a), .val (.ref b), .val (.int (Int32.ofNat o)), .val (.int (Int32.ofNat len)), .val .null, .val (.ref s.heap.size)] [])) := c14.trans (st15 _ (Steps.refl _))
  have ap := apart (Or.inr ⟨_, (wk W (.laysFinal "java/lang/String" "java/lang/String" "value" "[B"))⟩) (Or.inr ⟨_, (wk W (.laysFinal "java/lang/String" "java/lang/String" "coder" "B"))⟩) f1 f2 (t₁ := .array .byte) (t₂ := .byte) (by decide +kernel) (by decide +kernel) (by decide)
  have al := X8.warmed.alike.symm.trans X15.warmed.alike
  have n7 : T11.heap[s.heap.size]? = some N := by rw [q11]; exact n1.1
  exact ⟨T15, none, _, _, _, X15, by simp, rfl, by omega, (fun _ => rfl), ⟨rfl, _, N, bl15, ((Same.refl D _).set _ (by simp)).set _ (by simp), sl15, (Cell.slots_setSlot_ne _ ap).trans sl13, n1.keep al (p15.other hne (p13.other hne n7)), n2, by rw [al.findClass]; exact n3, n4, n5, fun y c h1 h2 => p15.other h1 (p13.other h1 (by rw [q11]; exact n6 y c h2)), by rw [p15.2.2, p13.2.2, q11]; exact z8⟩, fun fs hl => c16.trans (X15.returnOut hexec hret (hb hbytes d57) hl)⟩
end New4
namespace New1
def yN : MethodName := ⟨"java/lang/String", "<init>", "([C)V"⟩
abbrev yB : ByteArray := jdk_42_method_3_code
theorem d0 : decode yB 0 = .ok (.aload_n 0, 1) := by decide +kernel
theorem d1 : decode yB 1 = .ok (.aload_n 1, 1) := by decide +kernel
theorem d2 : decode yB 2 = .ok (.iconst 0, 1) := by decide +kernel
theorem d3 : decode yB 3 = .ok (.aload_n 1, 1) := by decide +kernel
theorem d4 : decode yB 4 = .ok (.arraylength, 1) := by decide +kernel
theorem d5 : decode yB 5 = .ok (.aconst_null, 1) := by decide +kernel
theorem d6 : decode yB 6 = .ok (.invokespecial 27, 3) := by decide +kernel
theorem d9 : decode yB 9 = .ok (.return_, 1) := by decide +kernel
def site : List Cond := [New4.tab] ++ initW "java/lang/String" 27 New4.yN
def tab : Cond := tabOf yN yB 2 none site
def P (a : Addr) (D : Cell) (fV fC : Field) (b : Addr) (A : Cell) (z : Int32) (args : Array Value) (s : State) : Prop := args = #[.ref a, .ref b] ∧ Blank "java/lang/String" a D s ∧ Found "java/lang/String" "value" "[B" fV s ∧ Found "java/lang/String" "coder" "B" fC s ∧ Ch b A s ∧ StaticIs s "java/lang/String" "COMPACT_STRINGS" "Z" (.int z) ∧ ¬ z = 0 ∧ 0 < A.slots.size ∧ A.slots.size ≤ 536870912 ∧ ∀ i, i < A.slots.size → ¬ 255 < cv A i
def E (a : Addr) (D : Cell) (fV fC : Field) (A : Cell) (r : Option Value) (s u : State) : Prop := Got a D fV fC A 0 A.slots.size r s u
/-- new String(chars), not empty, no char above 255: a Latin-1 String of their low bytes -/
theorem law (l : Launch) (a : Addr) (D : Cell) (fV fC : Field) (b : Addr) (A : Cell) (z : Int32) : Law l yN 2 1 3 52 yB 2 none site (P a D fV fC b A z) (E a D fV fC A) [⟨a, fC.slot⟩, ⟨a, fV.slot⟩] 1 A.slots.size := by
  refine Law.of_walk (plainFor_of_name (by decide +kernel)) (by decide +kernel) (by decide +kernel) (by decide) (fun _ _ h => by rw [h.1]; rfl) (fun _ U U' hal hh h => ⟨h.1, h.2.1.mv hal hh, h.2.2.1.al hal, h.2.2.2.1.al hal, h.2.2.2.2.1.mv hal hh, h.2.2.2.2.2.1.there hal hh, h.2.2.2.2.2.2⟩) (fun r U U' V V' h1 hal h2 h => Got.mv r U U' V V' h1 hal h2 h) ?_
  intro p e s m args below meth c s₁ X0 hexec hbytes hml hret hlk hnm hown hh0 W hP
  obtain ⟨rfl, hB, f1, f2, hA, s1, hz, l0, l2, hp⟩ := hP
  have c1 : Steps p.tables e below (s₁.setTop (entryFrame m #[.ref a, .ref b] 2)) (s₁.setTop (mkF m 0 #[.val (.ref a), .val (.ref b)] [])) := entry rfl
  have c2 : Steps p.tables e below (s₁.setTop (entryFrame m #[.ref a, .ref b] 2)) (s₁.setTop (mkF m 6 #[.val (.ref a), .val (.ref b)] [.null, .int (Int32.ofNat A.slots.size), .int 0, .ref b, .ref a])) := c1.trans (by
    refine XS.aloadN X0.here hexec rfl (hb hbytes d0) rfl rfl ?_
    refine XS.aloadN X0.here hexec rfl (hb hbytes d1) rfl rfl ?_
    refine iconstV X0.here hexec rfl 0 (hb hbytes d2) (by decide) ?_
    refine XS.aloadN X0.here hexec rfl (hb hbytes d3) rfl rfl ?_
    refine X0.alen hexec (hA.1.mv X0.warmed.alike hh0) rfl rfl (hb hbytes d4) ?_
    refine XS.aconstNull X0.here hexec rfl (hb hbytes d5) ?_
    exact Steps.refl _)
  obtain ⟨v3, T3, X3, E3, g3⟩ := X0.callN hexec (New4.law l a D fV fC b A z 0 A.slots.size) rfl hown (wks W (initW "java/lang/String" 27 New4.yN)) (W New4.tab (by simp only [site, List.mem_cons, List.mem_append, true_or, or_true])) (W := 0) (Nat.le_of_ble_eq_true rfl) (Nat.le_of_ble_eq_true rfl) (Nat.le_refl _) (by show 0 + A.slots.size ≤ A.slots.size; omega) (g := (mkF m 6 #[.val (.ref a), .val (.ref b)] [.null, .int (Int32.ofNat A.slots.size), .int (Int32.ofNat 0), .ref b, .ref a])) rfl (by rw [hml]; rfl) c2 (argsL := [.ref b, .int (Int32.ofNat 0), .int (Int32.ofNat A.slots.size), .null]) (rest := []) rfl rfl (by show 2 * 0 + 0 ≤ _; decide) (hb hbytes d6) (⟨rfl, hB.mv X0.warmed.alike hh0, f1.al X0.warmed.alike, f2.al X0.warmed.alike, hA.mv X0.warmed.alike hh0, s1.there X0.warmed.alike hh0, hz, l0, by omega, l2, fun i hi => by rw [Nat.zero_add]; exact hp i hi⟩)
  have e0 := Got.mv _ s₁ s _ _ hh0.symm (Vm.Alike.refl _) rfl E3
  obtain rfl := e0.1
  have c4 : Steps p.tables e below (s₁.setTop (entryFrame m #[.ref a, .ref b] 2)) (T3.setTop (mkF m 9 #[.val (.ref a), .val (.ref b)] [])) := g3
  exact ⟨T3, none, _, _, _, X3, by simp, rfl, by omega, (fun _ => rfl), e0, fun fs hl => c4.trans (X3.returnOut hexec hret (hb hbytes d9) hl)⟩
theorem pays {l : Launch} {R : Room} {p : Program} {e : Env} {below : List Frame} {s : State} {sargs : Array Value} {len W : Nat} (a : Addr) (D : Cell) (fV fC : Field) (b : Addr) (A : Cell) (z : Int32) (htab : tab.before sargs s = true) (hfr : 4 ≤ R.frames) (hlo : W + 65 ≤ R.locals) :
    Back l R p e below s sargs yN len W (fun A₁ a₁ => A₁.cells + 1 ≤ R.cells ∧ A₁.slots + A.slots.size ≤ R.slots ∧ P a D fV fC b A z a₁ A₁.U) (fun A₁ _ v₁ B₁ => E a D fV fC A v₁ A₁.U B₁.U ∧ B₁.locs = A₁.locs ++ [⟨a, fC.slot⟩, ⟨a, fV.slot⟩] ∧ B₁.cells = A₁.cells + 1 ∧ B₁.slots = A₁.slots + A.slots.size) :=
  (law l a D fV fC b A z).pays htab hfr (by omega)
end New1
end StrChars
namespace StrChars.Road
open Jvm Sem ClassFile Op Lib Jvm.Stand Jvm.Free Jvm.Free.XT
open Jvm.Lib.Cold (StaticIs)
abbrev ST : String := "java/lang/String"
/-- every table word that New1's law asks, flat -/
abbrev words : List Jvm.Cond := [.code New1.yN New1.yB 2 none, .initialized ST, .methodLink ST 27 New4.yN, .instanceMethod New4.yN,
  .code New4.yN New4.yB 6 none, .fieldLink ST 38 ST "COMPACT_STRINGS" "Z", .laysFinal ST ST "value" "[B", .fieldLink ST 9 ST "value" "[B", .laysFinal ST ST "coder" "B", .fieldLink ST 15 ST "coder" "B",
  .methodLink ST 1 Lib.objectInit, .instanceMethod Lib.objectInit, .code Lib.objectInit ⟨#[0xb1]⟩ 1 none, .methodLink ST 177 Cmp3.yN, .static Cmp3.yN, .methodLink ST 47 CodL.yN, .static CodL.yN,
  .code Cmp3.yN Cmp3.yB 6 (some (.array .byte)), .initialized U16, .arrayClass .byte, .methodLink U16 115 Cmp5.yN, .static Cmp5.yN, .code Cmp5.yN Cmp5.yB 7 (some .int), .code CodL.yN CodL.yB 2 (some .byte)]
theorem tab_of {a : Array Value} {s : State} (h : ∀ w ∈ words, w.before a s = true) : New1.tab.before a s = true := by
  have h5 : Cmp5.tab.before a s = true := unparts (wk h (.code Cmp5.yN Cmp5.yB 7 (some .int))) (wks h (.initialized Cmp5.yN.cls :: Cmp5.site))
  have hc : CodL.tab.before a s = true := unparts (wk h (.code CodL.yN CodL.yB 2 (some .byte))) (wks h (.initialized CodL.yN.cls :: CodL.site))
  have q5 : ∀ w ∈ Cmp5.tab :: words, w.before a s = true := fun w hw => (List.mem_cons.mp hw).elim (fun e => e ▸ h5) (h w)
  have h3 : Cmp3.tab.before a s = true := unparts (wk q5 (.code Cmp3.yN Cmp3.yB 6 (some (.array .byte)))) (wks q5 (.initialized Cmp3.yN.cls :: Cmp3.site))
  have q3 : ∀ w ∈ Cmp3.tab :: CodL.tab :: words, w.before a s = true := fun w hw => (List.mem_cons.mp hw).elim (fun e => e ▸ h3) fun hw => (List.mem_cons.mp hw).elim (fun e => e ▸ hc) (h w)
  have h4 : New4.tab.before a s = true := unparts (wk q3 (.code New4.yN New4.yB 6 none)) (wks q3 (.initialized New4.yN.cls :: New4.site))
  have q4 : ∀ w ∈ New4.tab :: words, w.before a s = true := fun w hw => (List.mem_cons.mp hw).elim (fun e => e ▸ h4) (h w)
  exact unparts (wk q4 (.code New1.yN New1.yB 2 none)) (wks q4 (.initialized New1.yN.cls :: New1.site))
/-- the words ride from the start Z to the walk's own state -/
theorem moved {Z s : State} {a0 args : Array Value} (hZ : Z.Warmed39 s.vm) (hw : ∀ d ∈ words, d.before a0 Z = true) : ∀ d ∈ words, d.before args s = true := fun d hd => by
  have q := hw d hd
  have t : ∀ d ∈ words, d = .arrayClass .byte ∨ (d.onTables && d.keepsFace) = true := by decide +kernel
  rcases t d hd with rfl | t
  · exact RoadKit.mvA hZ q
  · exact RoadKit.mv hZ q t
/-- WHAT COMES BACK, over the tables of the start Z: h the heap at the call, h' behind it -/
def Q (Z : State) (x : Addr) (A : Cell) (h : Heap) (v : Option Value) (h' : Heap) (L : List Loc) : Prop := v = none ∧ (∀ y ∈ L, y.base = x) ∧ RoadKit.Keep h h' [x] ∧ h'.size = h.size + 1 ∧ RoadKit.Exa Z h' x ST ∧ RoadKit.Fld Z h' x ST "value" "[B" (.ref h.size) ∧ RoadKit.Fld Z h' x ST "coder" "B" (.int 0) ∧
  (∃ V : Cell, RoadKit.Arr Z h' h.size V .byte ∧ V.vm = .none ∧ Z.vm.findClass "[B" = some V.cls ∧ V.slots.size = A.slots.size ∧ ∀ j, j < A.slots.size → V.slots[j]? = some (.int (lo8 (cv A j)))) ∧
  ∀ (O n d : String) (w : Value), RoadKit.Fld Z h x O n d w → RoadKit.slotOf Z O n d ≠ RoadKit.slotOf Z ST "value" "[B" → RoadKit.slotOf Z O n d ≠ RoadKit.slotOf Z ST "coder" "B" → RoadKit.Fld Z h' x O n d w
/-- **new String(chars) AT A CALL, IN THE ROAD'S FORM**: for specialBack behind newO: x the fresh String, b the char[] with the cell A -/
theorem back {p : Program} {l : Launch} {e : Env} {R : Room} {s : State} {args : Array Value} {below : List Frame} {len W : Nat} {Z : State} {a0 : Array Value} {h : Heap} (hZ : Z.Warmed39 s.vm) (hw : ∀ d ∈ words, d.before a0 Z = true) {kI : Nat} (wi : (Jvm.Cond.instantiable ST kI).before a0 Z = true)
    {x b : Addr} {A : Cell} {z : Int32} {v0 c0 : Value} (E : RoadKit.Exa Z h x ST) (V : RoadKit.Fld Z h x ST "value" "[B" v0) (C : RoadKit.Fld Z h x ST "coder" "B" c0) (K : RoadKit.Arr Z h b A .char) (hty : Typed .char A) (S : RoadKit.Sta Z h ST "COMPACT_STRINGS" "Z" (.int z)) (hz : ¬ z = 0)
    (l0 : 0 < A.slots.size) (l2 : A.slots.size ≤ 536870912) (hp : ∀ i, i < A.slots.size → ¬ 255 < cv A i) (hfr : 4 ≤ R.frames) (hlo : W + 65 ≤ R.locals) :
    Back l R p e below s args New1.yN len W (fun P a => a = #[.ref x, .ref b] ∧ P.U.heap = h ∧ P.cells + 1 ≤ R.cells ∧ P.slots + A.slots.size ≤ R.slots)
      (fun P _ v B => ∃ L, Q Z x A h v B.U.heap L ∧ B.locs = P.locs ++ L ∧ B.cells = P.cells + 1 ∧ B.slots = P.slots + A.slots.size) := by
  intro m meth c P g ig mk a X hg hsize hdg hW hn hp'
  obtain ⟨rfl, rfl, r1, r2⟩ := hp'
  have al : Z.vm.Alike P.U.vm := hZ.alike.trans X.warmed.alike
  obtain ⟨D, cfV, kV, iV, fV, hD, gV, stV, knV, obV, asV, slV⟩ := id V
  obtain ⟨D', cfC, kC, iC, fC, hD', gC, stC, -, -, asC, slC⟩ := id C
  cases hD.symm.trans hD'
  obtain ⟨D2, kD, e1, e2, e3, e4, e5⟩ := id E
  cases hD.symm.trans e1
  obtain ⟨c2, k2, i1, i2, i3, -⟩ := Cond.instantiable_spec wi
  cases e2.symm.trans i1
  cases e3.symm.trans i2
  obtain ⟨kU, u1, u2⟩ := al.2.2 _ _ e3
  have hB : Blank ST x D P.U := ⟨hD, ⟨knV, fun q hq => by rw [hq] at obV; cases obV⟩, by rw [al.findClass]; exact e2, kU, u1, by rw [u2]; exact i3, by rw [u2]; exact e5 i3⟩
  have F1 : Found ST "value" "[B" fV P.U := ⟨SBG.found_only al ⟨cfV, kV, iV, gV⟩, stV⟩
  have F2 : Found ST "coder" "B" fC P.U := ⟨SBG.found_only al ⟨cfC, kC, iC, gC⟩, stC⟩
  have hA : Ch b A P.U := ⟨⟨K.1, State.isArrayOf_alike al K.2.1, K.2.2, by omega⟩, hty⟩
  have hS : StaticIs P.U ST "COMPACT_STRINGS" "Z" (.int z) := by
    obtain ⟨cfS, iS, kS, fS, st, cS, t1, t2, t3, t4, t5, t6, t7⟩ := S
    exact StaticIs.there (s := { Z with heap := P.U.heap }) ⟨cfS, iS, kS, fS, st, cS, t1, t2, t3, t4, t5, (fun q => by rw [q] at t6; cases t6), t7⟩ al rfl
  obtain ⟨v, B, X', ⟨⟨hv, E', V', q1, q2, q3, q4, q5, q6, q7, q8, q9, q10, q11⟩, hl, hc, hs⟩, st⟩ := New1.pays x D fV fC b A z (tab_of (moved hZ hw)) hfr hlo m meth c P g ig mk _ X hg hsize hdg hW hn ⟨r1, r2, rfl, hB, F1, F2, hA, hS, hz, l0, l2, hp⟩
  have al' : Z.vm.Alike B.U.vm := hZ.alike.trans X'.warmed.alike
  have hsz : E'.slots.size = D.slots.size := by
    obtain ⟨-, -, -, kB, w1, w2, w3⟩ := q1
    obtain ⟨kB', y1, y2⟩ := al'.2.2 _ _ e3
    rw [q2.2.1] at w1
    cases w1.symm.trans y1
    rw [w3, e5 i3, y2]
  refine ⟨v, B, X', ⟨_, ⟨hv, ?_, ⟨by omega, fun y cy hy hn' => q10 y cy (by simpa using hn') hy, fun y cy hy => ?_⟩, q11, ⟨E', _, q1.1, by rw [q2.2.1]; exact e2, by rw [q2.2.1]; exact e3, by rw [q2.1]; exact obV, fun _ => by rw [hsz]; exact e5 i3⟩,
    ⟨E', cfV, kV, iV, fV, q1.1, gV, stV, by rw [q2.1]; exact knV, by rw [q2.1]; exact obV, by rw [q2.2.1]; exact asV, q3⟩, ⟨E', cfC, kC, iC, fC, q1.1, gC, stC, by rw [q2.1]; exact knV, by rw [q2.1]; exact obV, by rw [q2.2.1]; exact asC, q4⟩,
    ⟨V', ⟨q5.1, State.isArrayOf_alike al'.symm q5.2.1, q5.2.2.1⟩, q6, by rw [← al'.findClass]; exact q7, q8, fun j hj => by have := q9 j hj; rwa [Nat.zero_add] at this⟩, fun O n d w F n1 n2 => ?_⟩, hl, hc, hs⟩, st⟩
  · intro y hy
    simp only [List.mem_cons, List.not_mem_nil, or_false] at hy
    rcases hy with rfl | rfl <;> rfl
  · by_cases q : y = x
    · subst q
      cases hD.symm.trans hy
      exact ⟨E', q1.1, q2.2.1, q2.1, hsz⟩
    · exact ⟨cy, q10 y cy q hy, rfl, rfl, rfl⟩
  · obtain ⟨D3, cf, k, i, f, g1, g2, g3, g4, g5, g6, g7⟩ := F
    cases hD.symm.trans g1
    simp only [RoadKit.slotOf, g2, gV, gC, Option.map_some, Option.getD_some] at n1 n2
    exact ⟨E', cf, k, i, f, q1.1, g2, g3, by rw [q2.1]; exact g4, by rw [q2.1]; exact g5, by rw [q2.2.1]; exact g6, by rw [q2.2.2 f.slot (by simp [n1, n2])]; exact g7⟩
end StrChars.Road
namespace StrChars.Road
open Jvm Sem ClassFile Op Lib Jvm.Stand Jvm.Free Jvm.Free.XT
/-- WHAT COMES BACK, the byte[] as a list of values -/
def QA (Z : State) (x : Addr) (zn : Int32) (cs : List Int32) (h : Heap) (v : Option Value) (h' : Heap) (L : List Loc) : Prop := v = none ∧ (∀ y ∈ L, y.base = x) ∧ RoadKit.Keep h h' [x] ∧ h'.size = h.size + 1 ∧ RoadKit.Exa Z h' x ST ∧ RoadKit.Fld Z h' x ST "value" "[B" (.ref h.size) ∧ RoadKit.Fld Z h' x ST "coder" "B" (.int 0) ∧
  (∃ kb, Z.vm.findClass "[B" = some kb ∧ RoadKit.Arv Z h' h.size kb .byte zn (cs.map fun c => .int (lo8 c)) (.int 0)) ∧
  ∀ (O n d : String) (w : Value), RoadKit.Fld Z h x O n d w → RoadKit.slotOf Z O n d ≠ RoadKit.slotOf Z ST "value" "[B" → RoadKit.slotOf Z O n d ≠ RoadKit.slotOf Z ST "coder" "B" → RoadKit.Fld Z h' x O n d w
/-- **new String(chars) AT A CALL, THE ARRAYS AS LISTS**: the char[] at b holds cs, not empty, no char above 255 -/
theorem backArv {p : Program} {l : Launch} {e : Env} {R : Room} {s : State} {args : Array Value} {below : List Frame} {len W : Nat} {Z : State} {a0 : Array Value} {h : Heap} (hZ : Z.Warmed39 s.vm) (hw : ∀ d ∈ words, d.before a0 Z = true) {kI : Nat} (wi : (Jvm.Cond.instantiable ST kI).before a0 Z = true)
    {x b : Addr} {k : ClassId} {zn z : Int32} {cs : List Int32} {dv v0 c0 : Value} (E : RoadKit.Exa Z h x ST) (V : RoadKit.Fld Z h x ST "value" "[B" v0) (C : RoadKit.Fld Z h x ST "coder" "B" c0) (K : RoadKit.Arv Z h b k .char zn (cs.map Value.int) dv) (S : RoadKit.Sta Z h ST "COMPACT_STRINGS" "Z" (.int z)) (hz : ¬ z = 0)
    (hlen : zn.toNatClampNeg = cs.length) (h0 : 0 < cs.length) (hbig : cs.length ≤ 536870912) (hall : ∀ c ∈ cs, ¬ 255 < c) (hfr : 4 ≤ R.frames) (hlo : W + 65 ≤ R.locals) :
    Back l R p e below s args New1.yN len W (fun P a => a = #[.ref x, .ref b] ∧ P.U.heap = h ∧ P.cells + 1 ≤ R.cells ∧ P.slots + cs.length ≤ R.slots)
      (fun P _ v B => ∃ L, QA Z x zn cs h v B.U.heap L ∧ B.locs = P.locs ++ L ∧ B.cells = P.cells + 1 ∧ B.slots = P.slots + cs.length) := by
  obtain ⟨A, K1, K2, K3, K4, K5, K6⟩ := K
  have e : A.slots.size = cs.length := K3.trans hlen
  have hat : ∀ (i : Nat) (hi : i < cs.length), A.slots[i]? = some (.int cs[i]) := fun i hi => by rw [K5 i (by omega)]; simp [List.getD_eq_getElem?_getD, hi]
  have hcv : ∀ (i : Nat) (hi : i < cs.length), cv A i = cs[i] := fun i hi => by unfold cv; rw [hat i hi]
  have hty : Typed .char A := fun i v hv => by
    have hi : i < A.slots.size := (Array.getElem?_eq_some_iff.mp hv).1
    have q := K5 i hi
    rw [hv] at q
    rw [Option.some.inj q]
    exact K6 i hi
  refine Back.mono (back hZ hw wi E V C K1 hty S hz (by omega) (by omega) (fun i hi => by rw [hcv i (by omega)]; exact hall _ (List.getElem_mem _)) hfr hlo) (fun P a hp => ⟨hp.1, hp.2.1, hp.2.2.1, by rw [e]; exact hp.2.2.2⟩) (fun P a v B hp hq => ?_)
  obtain ⟨L, ⟨q1, q2, q3, q4, q5, q6, q7, ⟨V', v1, v2, v3, v4, v5⟩, q9⟩, hl, hc, hs⟩ := hq
  refine ⟨L, ⟨q1, q2, q3, q4, q5, q6, q7, ⟨V'.cls, v3, V', v1, rfl, by rw [v4, e, hlen], K4, fun i hi => ?_, fun i hi => ?_⟩, q9⟩, hl, hc, by rw [hs, e]⟩
  · have hi' : i < cs.length := by omega
    rw [v5 i (by omega), hcv i hi']; simp [List.getD_eq_getElem?_getD, hi']
  · have hi' : i < cs.length := by omega
    simp only [List.getD_eq_getElem?_getD, List.getElem?_map, List.getElem?_eq_getElem hi', Option.map_some, Option.getD_some]
    exact fits_lo8 _
end StrChars.Road
namespace StrChars.Road
open Jvm Sem ClassFile Op Lib Jvm.Stand Jvm.Free Jvm.Free.XT
/-- WHAT COMES BACK, in the writer's own shape -/
def QV (Z : State) (x : Addr) (N : Int32) (bs : List Int32) (h : Heap) (n0 : Nat) (v : Option Value) (h' : Heap) (L : List Loc) : Prop := v = none ∧ RoadKit.Fr n0 L ∧ RoadKit.Keep h h' [x] ∧ RoadKit.Exa Z h' x ST ∧ RoadKit.Fld Z h' x ST "coder" "B" (.int 0) ∧
  ∃ (t : Addr) (kb : ClassId), n0 ≤ t ∧ h.size ≤ t ∧ ¬ t = x ∧ RoadKit.Fld Z h' x ST "value" "[B" (.ref t) ∧ RoadKit.Arv Z h' t kb .byte N (bs.map Value.int) (.int 0)
/-- **new String(chars) AT A CALL, FOR THE WRITER**: a char[] of n known ints, each 0 to 255 -/
theorem backV {p : Program} {l : Launch} {e : Env} {R : Room} {s : State} {args : Array Value} {below : List Frame} {len W : Nat} {Z : State} {a0 : Array Value} {h : Heap} (hZ : Z.Warmed39 s.vm) (hw : ∀ d ∈ words, d.before a0 Z = true) {kI : Nat} (wi : (Jvm.Cond.instantiable ST kI).before a0 Z = true)
    {x b : Addr} {kC : ClassId} {cs bs : List Int32} {d v0 c0 : Value} {z N : Int32} {n n0 : Nat} (hx0 : n0 ≤ x) (hh0 : n0 ≤ h.size) (E : RoadKit.Exa Z h x ST) (V : RoadKit.Fld Z h x ST "value" "[B" v0) (C : RoadKit.Fld Z h x ST "coder" "B" c0) (K : RoadKit.Arv Z h b kC .char N (cs.map Value.int) d) (S : RoadKit.Sta Z h ST "COMPACT_STRINGS" "Z" (.int z)) (hz : ¬ z = 0)
    (hn : cs.length = n) (hN : N = Int32.ofNat n) (l0 : 0 < n) (l2 : n ≤ 4000) (hp : ∀ c ∈ cs, ¬ c < 0 ∧ ¬ (255 : Int32) < c) (hb : bs = cs.map (fun c => c.toInt8.toInt32)) (hfr : 4 ≤ R.frames) (hlo : W + 65 ≤ R.locals) :
    Back l R p e below s args (⟨"java/lang/String", "<init>", "([C)V"⟩ : MethodName) len W (fun P a => a = #[.ref x, .ref b] ∧ P.U.heap = h ∧ P.cells + 1 ≤ R.cells ∧ P.slots + n ≤ R.slots)
      (fun P _ v B => ∃ L, QV Z x N bs h n0 v B.U.heap L ∧ B.locs = P.locs ++ L ∧ B.cells = P.cells + 1 ∧ B.slots = P.slots + n) := by
  subst hn hN hb
  refine Back.mono (backArv hZ hw wi E V C K S hz (n32 (by omega)) l0 (by omega) (fun c hc => (hp c hc).2) hfr hlo) (fun P a hp => hp) (fun P a v B hp hq => ?_)
  obtain ⟨L, ⟨q1, q2, q3, q4, q5, q6, q7, ⟨kb, v1, v2⟩, q9⟩, hl, hc, hs⟩ := hq
  exact ⟨L, ⟨q1, fun y hy => by rw [q2 y hy]; exact hx0, q3, q5, q7, h.size, kb, hh0, Nat.le_refl _, Nat.ne_of_gt E.lt, q6, by rw [List.map_map]; exact v2⟩, hl, hc, hs⟩
end StrChars.Road
end Jvm.Pilot.@@N@@

namespace Jvm.Pilot.@@N@@
open Jvm Jvm.ClassFile Sem Op Lib Jvm.Free Jvm.Stand Jvm.LawKit Jvm.RoadKit Bundle Jvm.Pilot.@@N@@.Jvm.D
theorem pd_0 : parseMethodDescriptor "([C)V" = some ⟨[(.array .char)], none⟩ := by decide +kernel
theorem pd_1 : parseMethodDescriptor "(I)Ljava/lang/String;" = some ⟨[.int], some (.object "java/lang/String")⟩ := by decide +kernel
theorem pd_2 : parseMethodDescriptor "(Ljava/lang/String;[Ljava/lang/String;[II)V" = some ⟨[(.object "java/lang/String"), (.array (.object "java/lang/String")), (.array .int), .int], none⟩ := by decide +kernel
theorem pd_3 : parseMethodDescriptor "([Ljava/lang/String;)Ljava/lang/String;" = some ⟨[(.array (.object "java/lang/String"))], some (.object "java/lang/String")⟩ := by decide +kernel

theorem own_lat (x : Int32) : ∀ c ∈ [nar .char ((x &&& 255).toUInt32.toUInt16.toUInt32.toInt32)], ¬ c < 0 ∧ ¬ (255 : Int32) < c := by
  have k : ∀ z : Int32, ¬ nar .char ((z &&& 255).toUInt32.toUInt16.toUInt32.toInt32) < 0 ∧ ¬ (255 : Int32) < nar .char ((z &&& 255).toUInt32.toUInt16.toUInt32.toInt32) := fun z => by
    have a := c_mask z 255 8 (by decide) (by decide)
    rw [i2c_mask]
    show ¬ (z &&& 255).toUInt32.toUInt16.toUInt32.toInt32 < 0 ∧ ¬ (255 : Int32) < (z &&& 255).toUInt32.toUInt16.toUInt32.toInt32
    rw [i2c_mask]
    have e1 : (0 : Int32).toInt = 0 := by decide
    have e2 : (255 : Int32).toInt = 255 := by decide
    rw [Int32.lt_iff_toInt_lt, Int32.lt_iff_toInt_lt, e1, e2]
    omega
  intro c hc
  simp only [List.mem_cons, List.not_mem_nil, or_false] at hc
  rcases hc with rfl
  exact k x
theorem own_three (x : Int32) : (x &&& 2147483647) % 3 = 0 ∨ (x &&& 2147483647) % 3 = 1 ∨ (x &&& 2147483647) % 3 = 2 := by
  have a := c_mask x 2147483647 31 (by decide) (by decide)
  have b := c_irem (x &&& 2147483647) 3 3 (by decide)
  simp only [← Int32.toInt_inj, show (0 : Int32).toInt = 0 from by decide, show (1 : Int32).toInt = 1 from by decide, show (2 : Int32).toInt = 2 from by decide]
  omega
theorem own_four (x : Int32) : x &&& 3 = 0 ∨ x &&& 3 = 1 ∨ x &&& 3 = 2 ∨ x &&& 3 = 3 := by
  have a := c_mask x 3 2 (by decide) (by decide)
  simp only [← Int32.toInt_inj, show (0 : Int32).toInt = 0 from by decide, show (1 : Int32).toInt = 1 from by decide, show (2 : Int32).toInt = 2 from by decide, show (3 : Int32).toInt = 3 from by decide]
  omega

theorem d1_0 : decode method_2_code 0 = .ok (.new 7, 3) := by decide +kernel
theorem d1_3 : decode method_2_code 3 = .ok (.dup, 1) := by decide +kernel
theorem d1_4 : decode method_2_code 4 = .ok (.iconst 1, 1) := by decide +kernel
theorem d1_5 : decode method_2_code 5 = .ok (.newarray .char, 2) := by decide +kernel
theorem d1_7 : decode method_2_code 7 = .ok (.dup, 1) := by decide +kernel
theorem d1_8 : decode method_2_code 8 = .ok (.iconst 0, 1) := by decide +kernel
theorem d1_9 : decode method_2_code 9 = .ok (.iload_n 0, 1) := by decide +kernel
theorem d1_10 : decode method_2_code 10 = .ok (.sipush 255, 3) := by decide +kernel
theorem d1_13 : decode method_2_code 13 = .ok (.iand, 1) := by decide +kernel
theorem d1_14 : decode method_2_code 14 = .ok (.i2c, 1) := by decide +kernel
theorem d1_15 : decode method_2_code 15 = .ok (.castore, 1) := by decide +kernel
theorem d1_16 : decode method_2_code 16 = .ok (.invokespecial 9, 3) := by decide +kernel
theorem d1_19 : decode method_2_code 19 = .ok (.areturn, 1) := by decide +kernel
set_option maxRecDepth 65536 in
set_option maxHeartbeats 40000000 in
theorem m1 (l : Launch) (Z : State) (a0 : Array Value) (w : ∀ (i : Nat) {d : Jvm.Cond}, tables_1[i]? = some d → d.before a0 Z = true) (x0 : Int32) (z : Int32) (h0 : Heap) (n0 : Nat) (Z0 : n0 ≤ h0.size) (X00 : Old Z n0 h0) (SC : Sta Z Z.heap "java/lang/String" "COMPACT_STRINGS" "Z" (.int z)) (hz : ¬ z = 0) :
    Own.Met l Z (⟨"com/example/skuld/skuld/htn/PatternFirstArgumentPinLaw", "one", "(I)Ljava/lang/String;"⟩ : MethodName) method_2_code 1 (some (.object "java/lang/String")) [] ({ frames := 4, cells := 3, slots := 6, locals := 66 } : Room) #[(.int x0)] h0 (fun v h L => ∃ r : Addr, v = some (.ref r) ∧ Fr n0 L ∧ Keep h0 h [] ∧ h0.size ≤ r ∧ n0 ≤ r ∧ Exa Z h r "java/lang/String") := by
  refine Own.Met.of (plainFor_of_name (by first | (simp [plainName, overriddenIn]; done) | decide +kernel)) ?_
  intro p e s m below meth c T0 hx hby hml hown hnm hret hlk hZ X0 e0
  have hown : s.vm.findClass "com/example/skuld/skuld/htn/PatternFirstArgumentPinLaw" = some m.cls := hown
  have hml : c.maxLocals = 1 := hml
  have hnm : meth.name = "one" := hnm
  have ef : entryFrame m #[(.int x0)] 1 = mkF m 0 #[.val (.int x0)] [] := by first | (simp [entryFrame, mkF, argsToLocals, Value.category]; done) | rfl
  rw [ef]
  have N0 := Fr.nil n0
  have hws : ∀ d ∈ StrChars.Road.words, d.before a0 Z = true := fun d hd => by
    obtain ⟨i, hi⟩ := List.getElem?_of_mem ((by decide +kernel : ∀ d ∈ StrChars.Road.words, d ∈ tables_1) d hd)
    exact w i hi
  refine Own.newObj 3 X0 hx hZ hown (w 5 rfl) (w 6 rfl) (w 7 rfl) e0 (hb hby d1_0) rfl (by decide) (by decide) ?_
  intro T1 h1 st z1 X1 e1 E1 A1 D1
  have g_st : n0 ≤ st := Nat.le_trans Z0 (Nat.le_of_eq z1.symm)
  have sz_st : h0.size ≤ st := Nat.le_trans (Keep.refl h0 []).1 (Nat.le_of_eq z1.symm)
  have K1 := (Keep.refl h0 []).ext E1
  have O1 := X00.ext E1
  have zl1 := Nat.le_trans Z0 E1.1
  have F1_coder : Fld Z h1 st "java/lang/String" "coder" "B" (.int (0 : Int32)) := D1 (Or.inr (w 32 rfl)) (ty := .byte) (by decide)
  have F1_value : Fld Z h1 st "java/lang/String" "value" "[B" .null := D1 (Or.inr (w 34 rfl)) (ty := (.array .byte)) (by decide)
  refine Own.dup 4 X1 hx (hb hby d1_3) rfl rfl ?_
  refine Own.iconst 5 X1 hx ((1 : Int32)) (hb hby d1_4) rfl rfl ?_
  refine Own.newArr 7 1 X1 hx hZ (w 8 rfl) e1 (by decide) (by decide) (by decide) (hb hby d1_5) rfl (by decide) (by decide) ?_
  intro T3 h3 cs k3 z3 X3 e3 E3 A3
  have ne_st_cs : st ≠ cs := Nat.ne_of_lt (Nat.lt_of_lt_of_le A1.lt (Nat.le_of_eq z3.symm))
  have g_cs : n0 ≤ cs := Nat.le_trans zl1 (Nat.le_of_eq z3.symm)
  have sz_cs : h0.size ≤ cs := Nat.le_trans K1.1 (Nat.le_of_eq z3.symm)
  have K3 := K1.ext E3
  have Ef_5 := A1.ext E3
  have Ff_6 := F1_coder.ext E3
  have Ff_7 := F1_value.ext E3
  have O3 := O1.ext E3
  have zl3 := Nat.le_trans zl1 E3.1
  have V3 : Arv Z h3 cs k3 .char (1 : Int32) [(.int (0 : Int32))] (.int (0 : Int32)) := A3
  refine Own.dup 8 X3 hx (hb hby d1_7) rfl rfl ?_
  refine Own.iconst 9 X3 hx ((0 : Int32)) (hb hby d1_8) rfl rfl ?_
  refine Own.iloadN 10 X3 hx (hb hby d1_9) rfl rfl ?_
  refine Own.sipush 13 X3 hx ((255 : Int32)) (hb hby d1_10) rfl rfl ?_
  refine Own.iand 14 X3 hx (hb hby d1_13) rfl rfl ?_
  refine Own.i2c 15 X3 hx (hb hby d1_14) rfl rfl ?_
  refine Own.castore 16 X3 hx hZ e3 V3 (by decide) (Nat.le_of_ble_eq_true rfl) (hb hby d1_15) rfl ?_
  intro T8 h8 X8 e8 W8 A8
  have N8 := Fr.snoc X8 N0 g_cs
  have Ef_10 := Ef_5.wr W8
  have Ff_11 := Ff_6.other W8 (Or.inl ne_st_cs)
  have Ff_12 := Ff_7.other W8 (Or.inl ne_st_cs)
  have O8 := O3.wr W8 g_cs
  have zl8 := Nat.le_trans zl3 (Nat.le_of_eq W8.size.symm)
  have K8 := K3.wr W8 (Or.inr sz_cs)
  have V8 : Arv Z h8 cs k3 .char (1 : Int32) [(.int (nar .char ((x0 &&& (255 : Int32)).toUInt32.toUInt16.toUInt32.toInt32)))] (.int (0 : Int32)) := A8
  refine Own.callInitB 19 1 1 1 st [(.ref cs)] [(.ref st)] X8 hx hZ hown (StrChars.Road.backV (W := 1) hZ hws (kI := 4) (w 6 rfl) (cs := [nar .char ((x0 &&& 255).toUInt32.toUInt16.toUInt32.toInt32)]) (bs := [(nar .char ((x0 &&& 255).toUInt32.toUInt16.toUInt32.toInt32)).toInt8.toInt32]) (n := 1) g_st zl8 Ef_10 Ff_12 Ff_11 V8 (SC.ext O8.2) hz rfl rfl (by decide) (by decide) (own_lat x0) rfl (by decide) (by decide)) rfl (w 9 rfl) (w 10 rfl) (w 11 rfl) (by decide) e8 (by decide) (by decide) (by rw [hml]; rfl) (lenOf pd_0 rfl) rfl (Nat.le_of_eq rfl) (hb hby d1_16) rfl ?_
  rintro vv T14 L14 X14 ⟨rfl, N14q, K14, -⟩
  have N14 := Fr.app N8 N14q
  have O14 := O8.keep K14 (allS g_st all0)
  have Ef_16 := Ef_10.keep K14
  have zl14 := Nat.le_trans zl8 K14.1
  have KK14 := K8.trans K14 (allS (Or.inr sz_st) all0)
  refine Own.retRef X14 hx hlk rfl hret rfl (hb hby d1_19) (by decide) (by decide) ?_
  exact ⟨st, rfl, N14, KK14, sz_st, g_st, Ef_16⟩
theorem d8_0 : decode prog_53_method_1_code 0 = .ok (.aload_n 0, 1) := by decide +kernel
theorem d8_1 : decode prog_53_method_1_code 1 = .ok (.invokespecial 1, 3) := by decide +kernel
theorem d8_4 : decode prog_53_method_1_code 4 = .ok (.aload_n 0, 1) := by decide +kernel
theorem d8_5 : decode prog_53_method_1_code 5 = .ok (.aload_n 1, 1) := by decide +kernel
theorem d8_6 : decode prog_53_method_1_code 6 = .ok (.putfield 7, 3) := by decide +kernel
theorem d8_9 : decode prog_53_method_1_code 9 = .ok (.aload_n 0, 1) := by decide +kernel
theorem d8_10 : decode prog_53_method_1_code 10 = .ok (.aload_n 2, 1) := by decide +kernel
theorem d8_11 : decode prog_53_method_1_code 11 = .ok (.putfield 13, 3) := by decide +kernel
theorem d8_14 : decode prog_53_method_1_code 14 = .ok (.aload_n 0, 1) := by decide +kernel
theorem d8_15 : decode prog_53_method_1_code 15 = .ok (.aload_n 3, 1) := by decide +kernel
theorem d8_16 : decode prog_53_method_1_code 16 = .ok (.putfield 17, 3) := by decide +kernel
theorem d8_19 : decode prog_53_method_1_code 19 = .ok (.aload_n 0, 1) := by decide +kernel
theorem d8_20 : decode prog_53_method_1_code 20 = .ok (.iload 4, 2) := by decide +kernel
theorem d8_22 : decode prog_53_method_1_code 22 = .ok (.putfield 21, 3) := by decide +kernel
theorem d8_25 : decode prog_53_method_1_code 25 = .ok (.return_, 1) := by decide +kernel
set_option maxRecDepth 65536 in
set_option maxHeartbeats 40000000 in
theorem m8 (l : Launch) (Z : State) (a0 : Array Value) (w : ∀ (i : Nat) {d : Jvm.Cond}, tables_1[i]? = some d → d.before a0 Z = true) (a : Addr) (st : Addr) (cn : Addr) (sl : Addr) (x4 : Int32) (u1 u2 u3 u4 : Value) (n0 : Nat) (h0 : Heap) (Z0 : n0 ≤ h0.size) (E_a : Exa Z h0 a "com/example/skuld/skuld/htn/Pattern") (F1 : Fld Z h0 a "com/example/skuld/skuld/htn/Pattern" "name" "Ljava/lang/String;" u1) (F2 : Fld Z h0 a "com/example/skuld/skuld/htn/Pattern" "constants" "[Ljava/lang/String;" u2) (F3 : Fld Z h0 a "com/example/skuld/skuld/htn/Pattern" "slots" "[I" u3) (F4 : Fld Z h0 a "com/example/skuld/skuld/htn/Pattern" "line" "I" u4) (g_a : n0 ≤ a) :
    Own.Met l Z (⟨"com/example/skuld/skuld/htn/Pattern", "<init>", "(Ljava/lang/String;[Ljava/lang/String;[II)V"⟩ : MethodName) prog_53_method_1_code 5 none [] ({ frames := 1, cells := 0, slots := 0, locals := 12 } : Room) #[(.ref a), (.ref st), (.ref cn), (.ref sl), (.int x4)] h0 (fun v h L => v = none ∧ Fr n0 L ∧ Keep h0 h [a] ∧ Fld Z h a "com/example/skuld/skuld/htn/Pattern" "slots" "[I" (.ref sl) ∧ Fld Z h a "com/example/skuld/skuld/htn/Pattern" "constants" "[Ljava/lang/String;" (.ref cn)) := by
  refine Own.Met.of (plainFor_of_name (by first | (simp [plainName, overriddenIn]; done) | decide +kernel)) ?_
  intro p e s m below meth c T0 hx hby hml hown hnm hret hlk hZ X0 e0
  have hown : s.vm.findClass "com/example/skuld/skuld/htn/Pattern" = some m.cls := hown
  have hml : c.maxLocals = 5 := hml
  have hnm : meth.name = "<init>" := hnm
  have ef : entryFrame m #[(.ref a), (.ref st), (.ref cn), (.ref sl), (.int x4)] 5 = mkF m 0 #[.val (.ref a), .val (.ref st), .val (.ref cn), .val (.ref sl), .val (.int x4)] [] := by first | (simp [entryFrame, mkF, argsToLocals, Value.category]; done) | rfl
  rw [ef]
  have N0 := Fr.nil n0
  refine Own.aloadN 1 X0 hx (hb hby d8_0) rfl rfl rfl ?_
  refine Own.initObj 4 0 X0 hx hZ hown (w 46 rfl) (w 17 rfl) (w 18 rfl) e0 (by rw [hml]; rfl) (hb hby d8_1) rfl (by decide) (Nat.le_of_eq rfl) (by decide) ?_
  intro T1 X1 e1
  refine Own.aloadN 5 X1 hx (hb hby d8_4) rfl rfl rfl ?_
  refine Own.aloadN 6 X1 hx (hb hby d8_5) rfl rfl rfl ?_
  refine Own.putFld 9 X1 hx hZ hown (host := "") (Or.inl (w 47 rfl)) Via.refl e1 F1 E_a (Or.inr ⟨(w 48 rfl), rfl, hnm⟩) (w 38 rfl) (ty := (.object "java/lang/String")) (by decide) rfl rfl (hb hby d8_6) rfl ?_
  intro T2 h2 X2 e2 W2
  have N2 := Fr.snoc X2 N0 g_a
  have Ef_4 := E_a.wr W2
  have Ff_5 := F1.same W2
  have Ff_6 := F2.other W2 (Or.inr (slot_ne (Or.inr (w 50 rfl)) (Or.inr (w 48 rfl)) (by decide) (t := (.array (.object "java/lang/String"))) (t' := (.object "java/lang/String")) (by decide) (by decide)))
  have Ff_7 := F3.other W2 (Or.inr (slot_ne (Or.inr (w 52 rfl)) (Or.inr (w 48 rfl)) (by decide) (t := (.array .int)) (t' := (.object "java/lang/String")) (by decide) (by decide)))
  have Ff_8 := F4.other W2 (Or.inr (slot_ne (Or.inr (w 54 rfl)) (Or.inr (w 48 rfl)) (by decide) (t := .int) (t' := (.object "java/lang/String")) (by decide) (by decide)))
  have zl2 := Nat.le_trans Z0 (Nat.le_of_eq W2.size.symm)
  have K2 := (Keep.refl h0 [a]).wr W2 (Or.inl (List.mem_of_getElem? (i := 0) rfl))
  refine Own.aloadN 10 X2 hx (hb hby d8_9) rfl rfl rfl ?_
  refine Own.aloadN 11 X2 hx (hb hby d8_10) rfl rfl rfl ?_
  refine Own.putFld 14 X2 hx hZ hown (host := "") (Or.inl (w 49 rfl)) Via.refl e2 Ff_6 Ef_4 (Or.inr ⟨(w 50 rfl), rfl, hnm⟩) (w 38 rfl) (ty := (.array (.object "java/lang/String"))) (by decide) rfl rfl (hb hby d8_11) rfl ?_
  intro T9 h9 X9 e9 W9
  have N9 := Fr.snoc X9 N2 g_a
  have Ef_11 := Ef_4.wr W9
  have Ff_12 := Ff_5.other W9 (Or.inr (slot_ne (Or.inr (w 48 rfl)) (Or.inr (w 50 rfl)) (by decide) (t := (.object "java/lang/String")) (t' := (.array (.object "java/lang/String"))) (by decide) (by decide)))
  have Ff_13 := Ff_6.same W9
  have Ff_14 := Ff_7.other W9 (Or.inr (slot_ne (Or.inr (w 52 rfl)) (Or.inr (w 50 rfl)) (by decide) (t := (.array .int)) (t' := (.array (.object "java/lang/String"))) (by decide) (by decide)))
  have Ff_15 := Ff_8.other W9 (Or.inr (slot_ne (Or.inr (w 54 rfl)) (Or.inr (w 50 rfl)) (by decide) (t := .int) (t' := (.array (.object "java/lang/String"))) (by decide) (by decide)))
  have zl9 := Nat.le_trans zl2 (Nat.le_of_eq W9.size.symm)
  have K9 := K2.wr W9 (Or.inl (List.mem_of_getElem? (i := 0) rfl))
  refine Own.aloadN 15 X9 hx (hb hby d8_14) rfl rfl rfl ?_
  refine Own.aloadN 16 X9 hx (hb hby d8_15) rfl rfl rfl ?_
  refine Own.putFld 19 X9 hx hZ hown (host := "") (Or.inl (w 51 rfl)) Via.refl e9 Ff_14 Ef_11 (Or.inr ⟨(w 52 rfl), rfl, hnm⟩) (w 38 rfl) (ty := (.array .int)) (by decide) rfl rfl (hb hby d8_16) rfl ?_
  intro T16 h16 X16 e16 W16
  have N16 := Fr.snoc X16 N9 g_a
  have Ef_18 := Ef_11.wr W16
  have Ff_19 := Ff_12.other W16 (Or.inr (slot_ne (Or.inr (w 48 rfl)) (Or.inr (w 52 rfl)) (by decide) (t := (.object "java/lang/String")) (t' := (.array .int)) (by decide) (by decide)))
  have Ff_20 := Ff_13.other W16 (Or.inr (slot_ne (Or.inr (w 50 rfl)) (Or.inr (w 52 rfl)) (by decide) (t := (.array (.object "java/lang/String"))) (t' := (.array .int)) (by decide) (by decide)))
  have Ff_21 := Ff_14.same W16
  have Ff_22 := Ff_15.other W16 (Or.inr (slot_ne (Or.inr (w 54 rfl)) (Or.inr (w 52 rfl)) (by decide) (t := .int) (t' := (.array .int)) (by decide) (by decide)))
  have zl16 := Nat.le_trans zl9 (Nat.le_of_eq W16.size.symm)
  have K16 := K9.wr W16 (Or.inl (List.mem_of_getElem? (i := 0) rfl))
  refine Own.aloadN 20 X16 hx (hb hby d8_19) rfl rfl rfl ?_
  refine Own.iload 22 X16 hx (hb hby d8_20) rfl rfl ?_
  refine Own.putFld 25 X16 hx hZ hown (host := "") (Or.inl (w 53 rfl)) Via.refl e16 Ff_22 Ef_18 (Or.inr ⟨(w 54 rfl), rfl, hnm⟩) (w 38 rfl) (ty := .int) (by decide) rfl rfl (hb hby d8_22) rfl ?_
  intro T23 h23 X23 e23 W23
  have N23 := Fr.snoc X23 N16 g_a
  have Ef_25 := Ef_18.wr W23
  have Ff_26 := Ff_19.other W23 (Or.inr (slot_ne (Or.inr (w 48 rfl)) (Or.inr (w 54 rfl)) (by decide) (t := (.object "java/lang/String")) (t' := .int) (by decide) (by decide)))
  have Ff_27 := Ff_20.other W23 (Or.inr (slot_ne (Or.inr (w 50 rfl)) (Or.inr (w 54 rfl)) (by decide) (t := (.array (.object "java/lang/String"))) (t' := .int) (by decide) (by decide)))
  have Ff_28 := Ff_21.other W23 (Or.inr (slot_ne (Or.inr (w 52 rfl)) (Or.inr (w 54 rfl)) (by decide) (t := (.array .int)) (t' := .int) (by decide) (by decide)))
  have Ff_29 := Ff_22.same W23
  have zl23 := Nat.le_trans zl16 (Nat.le_of_eq W23.size.symm)
  have K23 := K16.wr W23 (Or.inl (List.mem_of_getElem? (i := 0) rfl))
  refine Own.retVoid X23 hx hlk hret (hb hby d8_25) (by decide) (by decide) ?_
  rw [e23]
  exact ⟨rfl, N23, K23, Ff_28, Ff_27⟩
theorem d9_0 : decode prog_53_method_9_code 0 = .ok (.aload_n 0, 1) := by decide +kernel
theorem d9_1 : decode prog_53_method_9_code 1 = .ok (.getfield 17, 3) := by decide +kernel
theorem d9_4 : decode prog_53_method_9_code 4 = .ok (.arraylength, 1) := by decide +kernel
theorem d9_5 : decode prog_53_method_9_code 5 = .ok (.ifCond .ne 5, 3) := by decide +kernel
theorem d9_8 : decode prog_53_method_9_code 8 = .ok (.aconst_null, 1) := by decide +kernel
theorem d9_9 : decode prog_53_method_9_code 9 = .ok (.areturn, 1) := by decide +kernel
set_option maxRecDepth 65536 in
set_option maxHeartbeats 40000000 in
theorem m9_0_x (l : Launch) (Z : State) (a0 : Array Value) (w : ∀ (i : Nat) {d : Jvm.Cond}, tables_1[i]? = some d → d.before a0 Z = true) (a : Addr) (bs : Addr) (sl cn : Addr) (ksl kcn kbs : ClassId)  (b0 b1 b2 : Value) (h0 : Heap) (F3 : Fld Z h0 a "com/example/skuld/skuld/htn/Pattern" "slots" "[I" (.ref sl)) (F2 : Fld Z h0 a "com/example/skuld/skuld/htn/Pattern" "constants" "[Ljava/lang/String;" (.ref cn)) (V1 : Arv Z h0 sl ksl .int (0 : Int32) [] (.int (0 : Int32))) (V2 : Arv Z h0 cn kcn (.object "java/lang/String") (0 : Int32) [] .null) (V3 : Arv Z h0 bs kbs (.object "java/lang/String") (3 : Int32) [b0, b1, b2] .null)  (P0 : Own.Opt Z h0 b0 "java/lang/String") (P1 : Own.Opt Z h0 b1 "java/lang/String") (P2 : Own.Opt Z h0 b2 "java/lang/String") :
    Own.Met l Z (⟨"com/example/skuld/skuld/htn/Pattern", "firstArgument", "([Ljava/lang/String;)Ljava/lang/String;"⟩ : MethodName) prog_53_method_9_code 2 (some (.object "java/lang/String")) [] ({ frames := 0, cells := 0, slots := 0, locals := 0 } : Room) #[(.ref a), (.ref bs)] h0 (fun v h L => v = some (.null) ∧ h = h0 ∧ L = []) := by
  refine Own.Met.of (plainFor_of_name (by first | (simp [plainName, overriddenIn]; done) | decide +kernel)) ?_
  intro p e s m below meth c T0 hx hby hml hown hnm hret hlk hZ X0 e0
  have hown : s.vm.findClass "com/example/skuld/skuld/htn/Pattern" = some m.cls := hown
  have hml : c.maxLocals = 2 := hml
  have hnm : meth.name = "firstArgument" := hnm
  have ef : entryFrame m #[(.ref a), (.ref bs)] 2 = mkF m 0 #[.val (.ref a), .val (.ref bs)] [] := by first | (simp [entryFrame, mkF, argsToLocals, Value.category]; done) | rfl
  rw [ef]
  refine Own.aloadN 1 X0 hx (hb hby d9_0) rfl rfl rfl ?_
  refine Own.getFld 4 X0 hx hZ hown (host := "") (Or.inl (w 51 rfl)) Via.refl e0 F3 (hb hby d9_1) rfl ?_
  intro T1 X1 e1
  refine Own.arrLen 5 X1 hx hZ e1 V1 (hb hby d9_4) rfl ?_
  refine Own.if_ne 10 8 X1 hx (hb hby d9_5) (by decide) rfl (fun tk => absurd tk (by decide)) (fun tk => ?_)
  refine Own.aconstNull 9 X1 hx (hb hby d9_8) rfl ?_
  refine Own.retRef X1 hx hlk rfl hret rfl (hb hby d9_9) (by decide) (by decide) ?_
  exact ⟨rfl, e1, rfl⟩
theorem d9_10 : decode prog_53_method_9_code 10 = .ok (.aload_n 0, 1) := by decide +kernel
theorem d9_11 : decode prog_53_method_9_code 11 = .ok (.getfield 17, 3) := by decide +kernel
theorem d9_14 : decode prog_53_method_9_code 14 = .ok (.iconst 0, 1) := by decide +kernel
theorem d9_15 : decode prog_53_method_9_code 15 = .ok (.iaload, 1) := by decide +kernel
theorem d9_16 : decode prog_53_method_9_code 16 = .ok (.ifCond .ge 12, 3) := by decide +kernel
theorem d9_19 : decode prog_53_method_9_code 19 = .ok (.aload_n 0, 1) := by decide +kernel
theorem d9_20 : decode prog_53_method_9_code 20 = .ok (.getfield 13, 3) := by decide +kernel
theorem d9_23 : decode prog_53_method_9_code 23 = .ok (.iconst 0, 1) := by decide +kernel
theorem d9_24 : decode prog_53_method_9_code 24 = .ok (.aaload, 1) := by decide +kernel
theorem d9_25 : decode prog_53_method_9_code 25 = .ok (.goto 11, 3) := by decide +kernel
theorem d9_36 : decode prog_53_method_9_code 36 = .ok (.areturn, 1) := by decide +kernel
set_option maxRecDepth 65536 in
set_option maxHeartbeats 40000000 in
theorem m9_1_m (l : Launch) (Z : State) (a0 : Array Value) (w : ∀ (i : Nat) {d : Jvm.Cond}, tables_1[i]? = some d → d.before a0 Z = true) (a : Addr) (bs : Addr) (sl cn : Addr) (ksl kcn kbs : ClassId)  (c0 b0 b1 b2 : Value) (h0 : Heap) (F3 : Fld Z h0 a "com/example/skuld/skuld/htn/Pattern" "slots" "[I" (.ref sl)) (F2 : Fld Z h0 a "com/example/skuld/skuld/htn/Pattern" "constants" "[Ljava/lang/String;" (.ref cn)) (V1 : Arv Z h0 sl ksl .int (1 : Int32) [(.int (-1 : Int32))] (.int (0 : Int32))) (V2 : Arv Z h0 cn kcn (.object "java/lang/String") (1 : Int32) [c0] .null) (V3 : Arv Z h0 bs kbs (.object "java/lang/String") (3 : Int32) [b0, b1, b2] .null) (O0 : Own.Opt Z h0 c0 "java/lang/String") (P0 : Own.Opt Z h0 b0 "java/lang/String") (P1 : Own.Opt Z h0 b1 "java/lang/String") (P2 : Own.Opt Z h0 b2 "java/lang/String") :
    Own.Met l Z (⟨"com/example/skuld/skuld/htn/Pattern", "firstArgument", "([Ljava/lang/String;)Ljava/lang/String;"⟩ : MethodName) prog_53_method_9_code 2 (some (.object "java/lang/String")) [] ({ frames := 0, cells := 0, slots := 0, locals := 0 } : Room) #[(.ref a), (.ref bs)] h0 (fun v h L => v = some (c0) ∧ h = h0 ∧ L = []) := by
  refine Own.Met.of (plainFor_of_name (by first | (simp [plainName, overriddenIn]; done) | decide +kernel)) ?_
  intro p e s m below meth c T0 hx hby hml hown hnm hret hlk hZ X0 e0
  have hown : s.vm.findClass "com/example/skuld/skuld/htn/Pattern" = some m.cls := hown
  have hml : c.maxLocals = 2 := hml
  have hnm : meth.name = "firstArgument" := hnm
  have ef : entryFrame m #[(.ref a), (.ref bs)] 2 = mkF m 0 #[.val (.ref a), .val (.ref bs)] [] := by first | (simp [entryFrame, mkF, argsToLocals, Value.category]; done) | rfl
  rw [ef]
  refine Own.aloadN 1 X0 hx (hb hby d9_0) rfl rfl rfl ?_
  refine Own.getFld 4 X0 hx hZ hown (host := "") (Or.inl (w 51 rfl)) Via.refl e0 F3 (hb hby d9_1) rfl ?_
  intro T1 X1 e1
  refine Own.arrLen 5 X1 hx hZ e1 V1 (hb hby d9_4) rfl ?_
  refine Own.if_ne 10 8 X1 hx (hb hby d9_5) (by decide) rfl (fun tk => ?_) (fun tk => absurd tk (by decide))
  refine Own.aloadN 11 X1 hx (hb hby d9_10) rfl rfl rfl ?_
  refine Own.getFld 14 X1 hx hZ hown (host := "") (Or.inl (w 51 rfl)) Via.refl e1 F3 (hb hby d9_11) rfl ?_
  intro T2 X2 e2
  refine Own.iconst 15 X2 hx ((0 : Int32)) (hb hby d9_14) rfl rfl ?_
  refine Own.iaload 16 X2 hx hZ e2 ((-1 : Int32)) V1 (by decide) rfl (hb hby d9_15) rfl ?_
  refine Own.if_ge 28 19 X2 hx (hb hby d9_16) (by decide) rfl (fun tk => absurd tk (by decide)) (fun tk => ?_)
  refine Own.aloadN 20 X2 hx (hb hby d9_19) rfl rfl rfl ?_
  refine Own.getFld 23 X2 hx hZ hown (host := "") (Or.inl (w 49 rfl)) Via.refl e2 F2 (hb hby d9_20) rfl ?_
  intro T3 X3 e3
  refine Own.iconst 24 X3 hx ((0 : Int32)) (hb hby d9_23) rfl rfl ?_
  refine Own.aaload 25 X3 hx hZ e3 (c0) V2 rfl (by decide) rfl (hb hby d9_24) rfl ?_
  refine Own.goto 36 X3 hx (hb hby d9_25) (by decide) ?_
  refine Own.retRef X3 hx hlk O0.isRef hret rfl (hb hby d9_36) (by decide) (by decide) ?_
  exact ⟨rfl, e3, rfl⟩
theorem d9_28 : decode prog_53_method_9_code 28 = .ok (.aload_n 1, 1) := by decide +kernel
theorem d9_29 : decode prog_53_method_9_code 29 = .ok (.aload_n 0, 1) := by decide +kernel
theorem d9_30 : decode prog_53_method_9_code 30 = .ok (.getfield 17, 3) := by decide +kernel
theorem d9_33 : decode prog_53_method_9_code 33 = .ok (.iconst 0, 1) := by decide +kernel
theorem d9_34 : decode prog_53_method_9_code 34 = .ok (.iaload, 1) := by decide +kernel
theorem d9_35 : decode prog_53_method_9_code 35 = .ok (.aaload, 1) := by decide +kernel
set_option maxRecDepth 65536 in
set_option maxHeartbeats 40000000 in
theorem m9_1_0 (l : Launch) (Z : State) (a0 : Array Value) (w : ∀ (i : Nat) {d : Jvm.Cond}, tables_1[i]? = some d → d.before a0 Z = true) (a : Addr) (bs : Addr) (sl cn : Addr) (ksl kcn kbs : ClassId)  (c0 b0 b1 b2 : Value) (h0 : Heap) (F3 : Fld Z h0 a "com/example/skuld/skuld/htn/Pattern" "slots" "[I" (.ref sl)) (F2 : Fld Z h0 a "com/example/skuld/skuld/htn/Pattern" "constants" "[Ljava/lang/String;" (.ref cn)) (V1 : Arv Z h0 sl ksl .int (1 : Int32) [(.int (0 : Int32))] (.int (0 : Int32))) (V2 : Arv Z h0 cn kcn (.object "java/lang/String") (1 : Int32) [c0] .null) (V3 : Arv Z h0 bs kbs (.object "java/lang/String") (3 : Int32) [b0, b1, b2] .null) (O0 : Own.Opt Z h0 c0 "java/lang/String") (P0 : Own.Opt Z h0 b0 "java/lang/String") (P1 : Own.Opt Z h0 b1 "java/lang/String") (P2 : Own.Opt Z h0 b2 "java/lang/String") :
    Own.Met l Z (⟨"com/example/skuld/skuld/htn/Pattern", "firstArgument", "([Ljava/lang/String;)Ljava/lang/String;"⟩ : MethodName) prog_53_method_9_code 2 (some (.object "java/lang/String")) [] ({ frames := 0, cells := 0, slots := 0, locals := 0 } : Room) #[(.ref a), (.ref bs)] h0 (fun v h L => v = some (b0) ∧ h = h0 ∧ L = []) := by
  refine Own.Met.of (plainFor_of_name (by first | (simp [plainName, overriddenIn]; done) | decide +kernel)) ?_
  intro p e s m below meth c T0 hx hby hml hown hnm hret hlk hZ X0 e0
  have hown : s.vm.findClass "com/example/skuld/skuld/htn/Pattern" = some m.cls := hown
  have hml : c.maxLocals = 2 := hml
  have hnm : meth.name = "firstArgument" := hnm
  have ef : entryFrame m #[(.ref a), (.ref bs)] 2 = mkF m 0 #[.val (.ref a), .val (.ref bs)] [] := by first | (simp [entryFrame, mkF, argsToLocals, Value.category]; done) | rfl
  rw [ef]
  refine Own.aloadN 1 X0 hx (hb hby d9_0) rfl rfl rfl ?_
  refine Own.getFld 4 X0 hx hZ hown (host := "") (Or.inl (w 51 rfl)) Via.refl e0 F3 (hb hby d9_1) rfl ?_
  intro T1 X1 e1
  refine Own.arrLen 5 X1 hx hZ e1 V1 (hb hby d9_4) rfl ?_
  refine Own.if_ne 10 8 X1 hx (hb hby d9_5) (by decide) rfl (fun tk => ?_) (fun tk => absurd tk (by decide))
  refine Own.aloadN 11 X1 hx (hb hby d9_10) rfl rfl rfl ?_
  refine Own.getFld 14 X1 hx hZ hown (host := "") (Or.inl (w 51 rfl)) Via.refl e1 F3 (hb hby d9_11) rfl ?_
  intro T2 X2 e2
  refine Own.iconst 15 X2 hx ((0 : Int32)) (hb hby d9_14) rfl rfl ?_
  refine Own.iaload 16 X2 hx hZ e2 ((0 : Int32)) V1 (by decide) rfl (hb hby d9_15) rfl ?_
  refine Own.if_ge 28 19 X2 hx (hb hby d9_16) (by decide) rfl (fun tk => ?_) (fun tk => absurd tk (by decide))
  refine Own.aloadN 29 X2 hx (hb hby d9_28) rfl rfl rfl ?_
  refine Own.aloadN 30 X2 hx (hb hby d9_29) rfl rfl rfl ?_
  refine Own.getFld 33 X2 hx hZ hown (host := "") (Or.inl (w 51 rfl)) Via.refl e2 F3 (hb hby d9_30) rfl ?_
  intro T3 X3 e3
  refine Own.iconst 34 X3 hx ((0 : Int32)) (hb hby d9_33) rfl rfl ?_
  refine Own.iaload 35 X3 hx hZ e3 ((0 : Int32)) V1 (by decide) rfl (hb hby d9_34) rfl ?_
  refine Own.aaload 36 X3 hx hZ e3 (b0) V3 rfl (by decide) rfl (hb hby d9_35) rfl ?_
  refine Own.retRef X3 hx hlk P0.isRef hret rfl (hb hby d9_36) (by decide) (by decide) ?_
  exact ⟨rfl, e3, rfl⟩
set_option maxRecDepth 65536 in
set_option maxHeartbeats 40000000 in
theorem m9_1_1 (l : Launch) (Z : State) (a0 : Array Value) (w : ∀ (i : Nat) {d : Jvm.Cond}, tables_1[i]? = some d → d.before a0 Z = true) (a : Addr) (bs : Addr) (sl cn : Addr) (ksl kcn kbs : ClassId)  (c0 b0 b1 b2 : Value) (h0 : Heap) (F3 : Fld Z h0 a "com/example/skuld/skuld/htn/Pattern" "slots" "[I" (.ref sl)) (F2 : Fld Z h0 a "com/example/skuld/skuld/htn/Pattern" "constants" "[Ljava/lang/String;" (.ref cn)) (V1 : Arv Z h0 sl ksl .int (1 : Int32) [(.int (1 : Int32))] (.int (0 : Int32))) (V2 : Arv Z h0 cn kcn (.object "java/lang/String") (1 : Int32) [c0] .null) (V3 : Arv Z h0 bs kbs (.object "java/lang/String") (3 : Int32) [b0, b1, b2] .null) (O0 : Own.Opt Z h0 c0 "java/lang/String") (P0 : Own.Opt Z h0 b0 "java/lang/String") (P1 : Own.Opt Z h0 b1 "java/lang/String") (P2 : Own.Opt Z h0 b2 "java/lang/String") :
    Own.Met l Z (⟨"com/example/skuld/skuld/htn/Pattern", "firstArgument", "([Ljava/lang/String;)Ljava/lang/String;"⟩ : MethodName) prog_53_method_9_code 2 (some (.object "java/lang/String")) [] ({ frames := 0, cells := 0, slots := 0, locals := 0 } : Room) #[(.ref a), (.ref bs)] h0 (fun v h L => v = some (b1) ∧ h = h0 ∧ L = []) := by
  refine Own.Met.of (plainFor_of_name (by first | (simp [plainName, overriddenIn]; done) | decide +kernel)) ?_
  intro p e s m below meth c T0 hx hby hml hown hnm hret hlk hZ X0 e0
  have hown : s.vm.findClass "com/example/skuld/skuld/htn/Pattern" = some m.cls := hown
  have hml : c.maxLocals = 2 := hml
  have hnm : meth.name = "firstArgument" := hnm
  have ef : entryFrame m #[(.ref a), (.ref bs)] 2 = mkF m 0 #[.val (.ref a), .val (.ref bs)] [] := by first | (simp [entryFrame, mkF, argsToLocals, Value.category]; done) | rfl
  rw [ef]
  refine Own.aloadN 1 X0 hx (hb hby d9_0) rfl rfl rfl ?_
  refine Own.getFld 4 X0 hx hZ hown (host := "") (Or.inl (w 51 rfl)) Via.refl e0 F3 (hb hby d9_1) rfl ?_
  intro T1 X1 e1
  refine Own.arrLen 5 X1 hx hZ e1 V1 (hb hby d9_4) rfl ?_
  refine Own.if_ne 10 8 X1 hx (hb hby d9_5) (by decide) rfl (fun tk => ?_) (fun tk => absurd tk (by decide))
  refine Own.aloadN 11 X1 hx (hb hby d9_10) rfl rfl rfl ?_
  refine Own.getFld 14 X1 hx hZ hown (host := "") (Or.inl (w 51 rfl)) Via.refl e1 F3 (hb hby d9_11) rfl ?_
  intro T2 X2 e2
  refine Own.iconst 15 X2 hx ((0 : Int32)) (hb hby d9_14) rfl rfl ?_
  refine Own.iaload 16 X2 hx hZ e2 ((1 : Int32)) V1 (by decide) rfl (hb hby d9_15) rfl ?_
  refine Own.if_ge 28 19 X2 hx (hb hby d9_16) (by decide) rfl (fun tk => ?_) (fun tk => absurd tk (by decide))
  refine Own.aloadN 29 X2 hx (hb hby d9_28) rfl rfl rfl ?_
  refine Own.aloadN 30 X2 hx (hb hby d9_29) rfl rfl rfl ?_
  refine Own.getFld 33 X2 hx hZ hown (host := "") (Or.inl (w 51 rfl)) Via.refl e2 F3 (hb hby d9_30) rfl ?_
  intro T3 X3 e3
  refine Own.iconst 34 X3 hx ((0 : Int32)) (hb hby d9_33) rfl rfl ?_
  refine Own.iaload 35 X3 hx hZ e3 ((1 : Int32)) V1 (by decide) rfl (hb hby d9_34) rfl ?_
  refine Own.aaload 36 X3 hx hZ e3 (b1) V3 rfl (by decide) rfl (hb hby d9_35) rfl ?_
  refine Own.retRef X3 hx hlk P1.isRef hret rfl (hb hby d9_36) (by decide) (by decide) ?_
  exact ⟨rfl, e3, rfl⟩
set_option maxRecDepth 65536 in
set_option maxHeartbeats 40000000 in
theorem m9_1_2 (l : Launch) (Z : State) (a0 : Array Value) (w : ∀ (i : Nat) {d : Jvm.Cond}, tables_1[i]? = some d → d.before a0 Z = true) (a : Addr) (bs : Addr) (sl cn : Addr) (ksl kcn kbs : ClassId)  (c0 b0 b1 b2 : Value) (h0 : Heap) (F3 : Fld Z h0 a "com/example/skuld/skuld/htn/Pattern" "slots" "[I" (.ref sl)) (F2 : Fld Z h0 a "com/example/skuld/skuld/htn/Pattern" "constants" "[Ljava/lang/String;" (.ref cn)) (V1 : Arv Z h0 sl ksl .int (1 : Int32) [(.int (2 : Int32))] (.int (0 : Int32))) (V2 : Arv Z h0 cn kcn (.object "java/lang/String") (1 : Int32) [c0] .null) (V3 : Arv Z h0 bs kbs (.object "java/lang/String") (3 : Int32) [b0, b1, b2] .null) (O0 : Own.Opt Z h0 c0 "java/lang/String") (P0 : Own.Opt Z h0 b0 "java/lang/String") (P1 : Own.Opt Z h0 b1 "java/lang/String") (P2 : Own.Opt Z h0 b2 "java/lang/String") :
    Own.Met l Z (⟨"com/example/skuld/skuld/htn/Pattern", "firstArgument", "([Ljava/lang/String;)Ljava/lang/String;"⟩ : MethodName) prog_53_method_9_code 2 (some (.object "java/lang/String")) [] ({ frames := 0, cells := 0, slots := 0, locals := 0 } : Room) #[(.ref a), (.ref bs)] h0 (fun v h L => v = some (b2) ∧ h = h0 ∧ L = []) := by
  refine Own.Met.of (plainFor_of_name (by first | (simp [plainName, overriddenIn]; done) | decide +kernel)) ?_
  intro p e s m below meth c T0 hx hby hml hown hnm hret hlk hZ X0 e0
  have hown : s.vm.findClass "com/example/skuld/skuld/htn/Pattern" = some m.cls := hown
  have hml : c.maxLocals = 2 := hml
  have hnm : meth.name = "firstArgument" := hnm
  have ef : entryFrame m #[(.ref a), (.ref bs)] 2 = mkF m 0 #[.val (.ref a), .val (.ref bs)] [] := by first | (simp [entryFrame, mkF, argsToLocals, Value.category]; done) | rfl
  rw [ef]
  refine Own.aloadN 1 X0 hx (hb hby d9_0) rfl rfl rfl ?_
  refine Own.getFld 4 X0 hx hZ hown (host := "") (Or.inl (w 51 rfl)) Via.refl e0 F3 (hb hby d9_1) rfl ?_
  intro T1 X1 e1
  refine Own.arrLen 5 X1 hx hZ e1 V1 (hb hby d9_4) rfl ?_
  refine Own.if_ne 10 8 X1 hx (hb hby d9_5) (by decide) rfl (fun tk => ?_) (fun tk => absurd tk (by decide))
  refine Own.aloadN 11 X1 hx (hb hby d9_10) rfl rfl rfl ?_
  refine Own.getFld 14 X1 hx hZ hown (host := "") (Or.inl (w 51 rfl)) Via.refl e1 F3 (hb hby d9_11) rfl ?_
  intro T2 X2 e2
  refine Own.iconst 15 X2 hx ((0 : Int32)) (hb hby d9_14) rfl rfl ?_
  refine Own.iaload 16 X2 hx hZ e2 ((2 : Int32)) V1 (by decide) rfl (hb hby d9_15) rfl ?_
  refine Own.if_ge 28 19 X2 hx (hb hby d9_16) (by decide) rfl (fun tk => ?_) (fun tk => absurd tk (by decide))
  refine Own.aloadN 29 X2 hx (hb hby d9_28) rfl rfl rfl ?_
  refine Own.aloadN 30 X2 hx (hb hby d9_29) rfl rfl rfl ?_
  refine Own.getFld 33 X2 hx hZ hown (host := "") (Or.inl (w 51 rfl)) Via.refl e2 F3 (hb hby d9_30) rfl ?_
  intro T3 X3 e3
  refine Own.iconst 34 X3 hx ((0 : Int32)) (hb hby d9_33) rfl rfl ?_
  refine Own.iaload 35 X3 hx hZ e3 ((2 : Int32)) V1 (by decide) rfl (hb hby d9_34) rfl ?_
  refine Own.aaload 36 X3 hx hZ e3 (b2) V3 rfl (by decide) rfl (hb hby d9_35) rfl ?_
  refine Own.retRef X3 hx hlk P2.isRef hret rfl (hb hby d9_36) (by decide) (by decide) ?_
  exact ⟨rfl, e3, rfl⟩
set_option maxRecDepth 65536 in
set_option maxHeartbeats 40000000 in
theorem m9_2_m (l : Launch) (Z : State) (a0 : Array Value) (w : ∀ (i : Nat) {d : Jvm.Cond}, tables_1[i]? = some d → d.before a0 Z = true) (a : Addr) (bs : Addr) (sl cn : Addr) (ksl kcn kbs : ClassId) (s1 : Int32) (c0 c1 b0 b1 b2 : Value) (h0 : Heap) (F3 : Fld Z h0 a "com/example/skuld/skuld/htn/Pattern" "slots" "[I" (.ref sl)) (F2 : Fld Z h0 a "com/example/skuld/skuld/htn/Pattern" "constants" "[Ljava/lang/String;" (.ref cn)) (V1 : Arv Z h0 sl ksl .int (2 : Int32) [(.int (-1 : Int32)), (.int s1)] (.int (0 : Int32))) (V2 : Arv Z h0 cn kcn (.object "java/lang/String") (2 : Int32) [c0, c1] .null) (V3 : Arv Z h0 bs kbs (.object "java/lang/String") (3 : Int32) [b0, b1, b2] .null) (O0 : Own.Opt Z h0 c0 "java/lang/String") (P0 : Own.Opt Z h0 b0 "java/lang/String") (P1 : Own.Opt Z h0 b1 "java/lang/String") (P2 : Own.Opt Z h0 b2 "java/lang/String") :
    Own.Met l Z (⟨"com/example/skuld/skuld/htn/Pattern", "firstArgument", "([Ljava/lang/String;)Ljava/lang/String;"⟩ : MethodName) prog_53_method_9_code 2 (some (.object "java/lang/String")) [] ({ frames := 0, cells := 0, slots := 0, locals := 0 } : Room) #[(.ref a), (.ref bs)] h0 (fun v h L => v = some (c0) ∧ h = h0 ∧ L = []) := by
  refine Own.Met.of (plainFor_of_name (by first | (simp [plainName, overriddenIn]; done) | decide +kernel)) ?_
  intro p e s m below meth c T0 hx hby hml hown hnm hret hlk hZ X0 e0
  have hown : s.vm.findClass "com/example/skuld/skuld/htn/Pattern" = some m.cls := hown
  have hml : c.maxLocals = 2 := hml
  have hnm : meth.name = "firstArgument" := hnm
  have ef : entryFrame m #[(.ref a), (.ref bs)] 2 = mkF m 0 #[.val (.ref a), .val (.ref bs)] [] := by first | (simp [entryFrame, mkF, argsToLocals, Value.category]; done) | rfl
  rw [ef]
  refine Own.aloadN 1 X0 hx (hb hby d9_0) rfl rfl rfl ?_
  refine Own.getFld 4 X0 hx hZ hown (host := "") (Or.inl (w 51 rfl)) Via.refl e0 F3 (hb hby d9_1) rfl ?_
  intro T1 X1 e1
  refine Own.arrLen 5 X1 hx hZ e1 V1 (hb hby d9_4) rfl ?_
  refine Own.if_ne 10 8 X1 hx (hb hby d9_5) (by decide) rfl (fun tk => ?_) (fun tk => absurd tk (by decide))
  refine Own.aloadN 11 X1 hx (hb hby d9_10) rfl rfl rfl ?_
  refine Own.getFld 14 X1 hx hZ hown (host := "") (Or.inl (w 51 rfl)) Via.refl e1 F3 (hb hby d9_11) rfl ?_
  intro T2 X2 e2
  refine Own.iconst 15 X2 hx ((0 : Int32)) (hb hby d9_14) rfl rfl ?_
  refine Own.iaload 16 X2 hx hZ e2 ((-1 : Int32)) V1 (by decide) rfl (hb hby d9_15) rfl ?_
  refine Own.if_ge 28 19 X2 hx (hb hby d9_16) (by decide) rfl (fun tk => absurd tk (by decide)) (fun tk => ?_)
  refine Own.aloadN 20 X2 hx (hb hby d9_19) rfl rfl rfl ?_
  refine Own.getFld 23 X2 hx hZ hown (host := "") (Or.inl (w 49 rfl)) Via.refl e2 F2 (hb hby d9_20) rfl ?_
  intro T3 X3 e3
  refine Own.iconst 24 X3 hx ((0 : Int32)) (hb hby d9_23) rfl rfl ?_
  refine Own.aaload 25 X3 hx hZ e3 (c0) V2 rfl (by decide) rfl (hb hby d9_24) rfl ?_
  refine Own.goto 36 X3 hx (hb hby d9_25) (by decide) ?_
  refine Own.retRef X3 hx hlk O0.isRef hret rfl (hb hby d9_36) (by decide) (by decide) ?_
  exact ⟨rfl, e3, rfl⟩
set_option maxRecDepth 65536 in
set_option maxHeartbeats 40000000 in
theorem m9_2_0 (l : Launch) (Z : State) (a0 : Array Value) (w : ∀ (i : Nat) {d : Jvm.Cond}, tables_1[i]? = some d → d.before a0 Z = true) (a : Addr) (bs : Addr) (sl cn : Addr) (ksl kcn kbs : ClassId) (s1 : Int32) (c0 c1 b0 b1 b2 : Value) (h0 : Heap) (F3 : Fld Z h0 a "com/example/skuld/skuld/htn/Pattern" "slots" "[I" (.ref sl)) (F2 : Fld Z h0 a "com/example/skuld/skuld/htn/Pattern" "constants" "[Ljava/lang/String;" (.ref cn)) (V1 : Arv Z h0 sl ksl .int (2 : Int32) [(.int (0 : Int32)), (.int s1)] (.int (0 : Int32))) (V2 : Arv Z h0 cn kcn (.object "java/lang/String") (2 : Int32) [c0, c1] .null) (V3 : Arv Z h0 bs kbs (.object "java/lang/String") (3 : Int32) [b0, b1, b2] .null) (O0 : Own.Opt Z h0 c0 "java/lang/String") (P0 : Own.Opt Z h0 b0 "java/lang/String") (P1 : Own.Opt Z h0 b1 "java/lang/String") (P2 : Own.Opt Z h0 b2 "java/lang/String") :
    Own.Met l Z (⟨"com/example/skuld/skuld/htn/Pattern", "firstArgument", "([Ljava/lang/String;)Ljava/lang/String;"⟩ : MethodName) prog_53_method_9_code 2 (some (.object "java/lang/String")) [] ({ frames := 0, cells := 0, slots := 0, locals := 0 } : Room) #[(.ref a), (.ref bs)] h0 (fun v h L => v = some (b0) ∧ h = h0 ∧ L = []) := by
  refine Own.Met.of (plainFor_of_name (by first | (simp [plainName, overriddenIn]; done) | decide +kernel)) ?_
  intro p e s m below meth c T0 hx hby hml hown hnm hret hlk hZ X0 e0
  have hown : s.vm.findClass "com/example/skuld/skuld/htn/Pattern" = some m.cls := hown
  have hml : c.maxLocals = 2 := hml
  have hnm : meth.name = "firstArgument" := hnm
  have ef : entryFrame m #[(.ref a), (.ref bs)] 2 = mkF m 0 #[.val (.ref a), .val (.ref bs)] [] := by first | (simp [entryFrame, mkF, argsToLocals, Value.category]; done) | rfl
  rw [ef]
  refine Own.aloadN 1 X0 hx (hb hby d9_0) rfl rfl rfl ?_
  refine Own.getFld 4 X0 hx hZ hown (host := "") (Or.inl (w 51 rfl)) Via.refl e0 F3 (hb hby d9_1) rfl ?_
  intro T1 X1 e1
  refine Own.arrLen 5 X1 hx hZ e1 V1 (hb hby d9_4) rfl ?_
  refine Own.if_ne 10 8 X1 hx (hb hby d9_5) (by decide) rfl (fun tk => ?_) (fun tk => absurd tk (by decide))
  refine Own.aloadN 11 X1 hx (hb hby d9_10) rfl rfl rfl ?_
  refine Own.getFld 14 X1 hx hZ hown (host := "") (Or.inl (w 51 rfl)) Via.refl e1 F3 (hb hby d9_11) rfl ?_
  intro T2 X2 e2
  refine Own.iconst 15 X2 hx ((0 : Int32)) (hb hby d9_14) rfl rfl ?_
  refine Own.iaload 16 X2 hx hZ e2 ((0 : Int32)) V1 (by decide) rfl (hb hby d9_15) rfl ?_
  refine Own.if_ge 28 19 X2 hx (hb hby d9_16) (by decide) rfl (fun tk => ?_) (fun tk => absurd tk (by decide))
  refine Own.aloadN 29 X2 hx (hb hby d9_28) rfl rfl rfl ?_
  refine Own.aloadN 30 X2 hx (hb hby d9_29) rfl rfl rfl ?_
  refine Own.getFld 33 X2 hx hZ hown (host := "") (Or.inl (w 51 rfl)) Via.refl e2 F3 (hb hby d9_30) rfl ?_
  intro T3 X3 e3
  refine Own.iconst 34 X3 hx ((0 : Int32)) (hb hby d9_33) rfl rfl ?_
  refine Own.iaload 35 X3 hx hZ e3 ((0 : Int32)) V1 (by decide) rfl (hb hby d9_34) rfl ?_
  refine Own.aaload 36 X3 hx hZ e3 (b0) V3 rfl (by decide) rfl (hb hby d9_35) rfl ?_
  refine Own.retRef X3 hx hlk P0.isRef hret rfl (hb hby d9_36) (by decide) (by decide) ?_
  exact ⟨rfl, e3, rfl⟩
set_option maxRecDepth 65536 in
set_option maxHeartbeats 40000000 in
theorem m9_2_1 (l : Launch) (Z : State) (a0 : Array Value) (w : ∀ (i : Nat) {d : Jvm.Cond}, tables_1[i]? = some d → d.before a0 Z = true) (a : Addr) (bs : Addr) (sl cn : Addr) (ksl kcn kbs : ClassId) (s1 : Int32) (c0 c1 b0 b1 b2 : Value) (h0 : Heap) (F3 : Fld Z h0 a "com/example/skuld/skuld/htn/Pattern" "slots" "[I" (.ref sl)) (F2 : Fld Z h0 a "com/example/skuld/skuld/htn/Pattern" "constants" "[Ljava/lang/String;" (.ref cn)) (V1 : Arv Z h0 sl ksl .int (2 : Int32) [(.int (1 : Int32)), (.int s1)] (.int (0 : Int32))) (V2 : Arv Z h0 cn kcn (.object "java/lang/String") (2 : Int32) [c0, c1] .null) (V3 : Arv Z h0 bs kbs (.object "java/lang/String") (3 : Int32) [b0, b1, b2] .null) (O0 : Own.Opt Z h0 c0 "java/lang/String") (P0 : Own.Opt Z h0 b0 "java/lang/String") (P1 : Own.Opt Z h0 b1 "java/lang/String") (P2 : Own.Opt Z h0 b2 "java/lang/String") :
    Own.Met l Z (⟨"com/example/skuld/skuld/htn/Pattern", "firstArgument", "([Ljava/lang/String;)Ljava/lang/String;"⟩ : MethodName) prog_53_method_9_code 2 (some (.object "java/lang/String")) [] ({ frames := 0, cells := 0, slots := 0, locals := 0 } : Room) #[(.ref a), (.ref bs)] h0 (fun v h L => v = some (b1) ∧ h = h0 ∧ L = []) := by
  refine Own.Met.of (plainFor_of_name (by first | (simp [plainName, overriddenIn]; done) | decide +kernel)) ?_
  intro p e s m below meth c T0 hx hby hml hown hnm hret hlk hZ X0 e0
  have hown : s.vm.findClass "com/example/skuld/skuld/htn/Pattern" = some m.cls := hown
  have hml : c.maxLocals = 2 := hml
  have hnm : meth.name = "firstArgument" := hnm
  have ef : entryFrame m #[(.ref a), (.ref bs)] 2 = mkF m 0 #[.val (.ref a), .val (.ref bs)] [] := by first | (simp [entryFrame, mkF, argsToLocals, Value.category]; done) | rfl
  rw [ef]
  refine Own.aloadN 1 X0 hx (hb hby d9_0) rfl rfl rfl ?_
  refine Own.getFld 4 X0 hx hZ hown (host := "") (Or.inl (w 51 rfl)) Via.refl e0 F3 (hb hby d9_1) rfl ?_
  intro T1 X1 e1
  refine Own.arrLen 5 X1 hx hZ e1 V1 (hb hby d9_4) rfl ?_
  refine Own.if_ne 10 8 X1 hx (hb hby d9_5) (by decide) rfl (fun tk => ?_) (fun tk => absurd tk (by decide))
  refine Own.aloadN 11 X1 hx (hb hby d9_10) rfl rfl rfl ?_
  refine Own.getFld 14 X1 hx hZ hown (host := "") (Or.inl (w 51 rfl)) Via.refl e1 F3 (hb hby d9_11) rfl ?_
  intro T2 X2 e2
  refine Own.iconst 15 X2 hx ((0 : Int32)) (hb hby d9_14) rfl rfl ?_
  refine Own.iaload 16 X2 hx hZ e2 ((1 : Int32)) V1 (by decide) rfl (hb hby d9_15) rfl ?_
  refine Own.if_ge 28 19 X2 hx (hb hby d9_16) (by decide) rfl (fun tk => ?_) (fun tk => absurd tk (by decide))
  refine Own.aloadN 29 X2 hx (hb hby d9_28) rfl rfl rfl ?_
  refine Own.aloadN 30 X2 hx (hb hby d9_29) rfl rfl rfl ?_
  refine Own.getFld 33 X2 hx hZ hown (host := "") (Or.inl (w 51 rfl)) Via.refl e2 F3 (hb hby d9_30) rfl ?_
  intro T3 X3 e3
  refine Own.iconst 34 X3 hx ((0 : Int32)) (hb hby d9_33) rfl rfl ?_
  refine Own.iaload 35 X3 hx hZ e3 ((1 : Int32)) V1 (by decide) rfl (hb hby d9_34) rfl ?_
  refine Own.aaload 36 X3 hx hZ e3 (b1) V3 rfl (by decide) rfl (hb hby d9_35) rfl ?_
  refine Own.retRef X3 hx hlk P1.isRef hret rfl (hb hby d9_36) (by decide) (by decide) ?_
  exact ⟨rfl, e3, rfl⟩
set_option maxRecDepth 65536 in
set_option maxHeartbeats 40000000 in
theorem m9_2_2 (l : Launch) (Z : State) (a0 : Array Value) (w : ∀ (i : Nat) {d : Jvm.Cond}, tables_1[i]? = some d → d.before a0 Z = true) (a : Addr) (bs : Addr) (sl cn : Addr) (ksl kcn kbs : ClassId) (s1 : Int32) (c0 c1 b0 b1 b2 : Value) (h0 : Heap) (F3 : Fld Z h0 a "com/example/skuld/skuld/htn/Pattern" "slots" "[I" (.ref sl)) (F2 : Fld Z h0 a "com/example/skuld/skuld/htn/Pattern" "constants" "[Ljava/lang/String;" (.ref cn)) (V1 : Arv Z h0 sl ksl .int (2 : Int32) [(.int (2 : Int32)), (.int s1)] (.int (0 : Int32))) (V2 : Arv Z h0 cn kcn (.object "java/lang/String") (2 : Int32) [c0, c1] .null) (V3 : Arv Z h0 bs kbs (.object "java/lang/String") (3 : Int32) [b0, b1, b2] .null) (O0 : Own.Opt Z h0 c0 "java/lang/String") (P0 : Own.Opt Z h0 b0 "java/lang/String") (P1 : Own.Opt Z h0 b1 "java/lang/String") (P2 : Own.Opt Z h0 b2 "java/lang/String") :
    Own.Met l Z (⟨"com/example/skuld/skuld/htn/Pattern", "firstArgument", "([Ljava/lang/String;)Ljava/lang/String;"⟩ : MethodName) prog_53_method_9_code 2 (some (.object "java/lang/String")) [] ({ frames := 0, cells := 0, slots := 0, locals := 0 } : Room) #[(.ref a), (.ref bs)] h0 (fun v h L => v = some (b2) ∧ h = h0 ∧ L = []) := by
  refine Own.Met.of (plainFor_of_name (by first | (simp [plainName, overriddenIn]; done) | decide +kernel)) ?_
  intro p e s m below meth c T0 hx hby hml hown hnm hret hlk hZ X0 e0
  have hown : s.vm.findClass "com/example/skuld/skuld/htn/Pattern" = some m.cls := hown
  have hml : c.maxLocals = 2 := hml
  have hnm : meth.name = "firstArgument" := hnm
  have ef : entryFrame m #[(.ref a), (.ref bs)] 2 = mkF m 0 #[.val (.ref a), .val (.ref bs)] [] := by first | (simp [entryFrame, mkF, argsToLocals, Value.category]; done) | rfl
  rw [ef]
  refine Own.aloadN 1 X0 hx (hb hby d9_0) rfl rfl rfl ?_
  refine Own.getFld 4 X0 hx hZ hown (host := "") (Or.inl (w 51 rfl)) Via.refl e0 F3 (hb hby d9_1) rfl ?_
  intro T1 X1 e1
  refine Own.arrLen 5 X1 hx hZ e1 V1 (hb hby d9_4) rfl ?_
  refine Own.if_ne 10 8 X1 hx (hb hby d9_5) (by decide) rfl (fun tk => ?_) (fun tk => absurd tk (by decide))
  refine Own.aloadN 11 X1 hx (hb hby d9_10) rfl rfl rfl ?_
  refine Own.getFld 14 X1 hx hZ hown (host := "") (Or.inl (w 51 rfl)) Via.refl e1 F3 (hb hby d9_11) rfl ?_
  intro T2 X2 e2
  refine Own.iconst 15 X2 hx ((0 : Int32)) (hb hby d9_14) rfl rfl ?_
  refine Own.iaload 16 X2 hx hZ e2 ((2 : Int32)) V1 (by decide) rfl (hb hby d9_15) rfl ?_
  refine Own.if_ge 28 19 X2 hx (hb hby d9_16) (by decide) rfl (fun tk => ?_) (fun tk => absurd tk (by decide))
  refine Own.aloadN 29 X2 hx (hb hby d9_28) rfl rfl rfl ?_
  refine Own.aloadN 30 X2 hx (hb hby d9_29) rfl rfl rfl ?_
  refine Own.getFld 33 X2 hx hZ hown (host := "") (Or.inl (w 51 rfl)) Via.refl e2 F3 (hb hby d9_30) rfl ?_
  intro T3 X3 e3
  refine Own.iconst 34 X3 hx ((0 : Int32)) (hb hby d9_33) rfl rfl ?_
  refine Own.iaload 35 X3 hx hZ e3 ((2 : Int32)) V1 (by decide) rfl (hb hby d9_34) rfl ?_
  refine Own.aaload 36 X3 hx hZ e3 (b2) V3 rfl (by decide) rfl (hb hby d9_35) rfl ?_
  refine Own.retRef X3 hx hlk P2.isRef hret rfl (hb hby d9_36) (by decide) (by decide) ?_
  exact ⟨rfl, e3, rfl⟩
set_option maxRecDepth 65536 in
set_option maxHeartbeats 40000000 in
theorem m0 (l : Launch) (Z : State) (a0 : Array Value) (w : ∀ (i : Nat) {d : Jvm.Cond}, tables_1[i]? = some d → d.before a0 Z = true) (x0 : Int32) (x1 : Int32) (x2 : Int32) (x3 : Int32) (z : Int32) (h0 : Heap) (n0 : Nat) (Z0 : n0 ≤ h0.size) (X00 : Old Z n0 h0) (SC : Sta Z Z.heap "java/lang/String" "COMPACT_STRINGS" "Z" (.int z)) (hz : ¬ z = 0) :
    Own.MetW l Z x code maxLocals ret tables_1 room_1 #[(.int x0), (.int x1), (.int x2), (.int x3)] h0 (fun v h L => v = some (.int 1) ∧ Fr n0 L) := by
  refine Own.MetW.of (plainFor_of_name (by first | (simp [plainName, overriddenIn]; done) | decide +kernel)) ?_
  intro p e s m below meth c T0 hx hby hml hown hnm hret hlk hZ X0 e0
  have hown : s.vm.findClass "com/example/skuld/skuld/htn/PatternFirstArgumentPinLaw" = some m.cls := hown
  have hml : c.maxLocals = 18 := hml
  have hnm : meth.name = "law" := hnm
  have hret : meth.sig.returnType = some .boolean := hret
  have ef : entryFrame m #[(.int x0), (.int x1), (.int x2), (.int x3)] maxLocals = mkF m 0 #[.val (.int x0), .val (.int x1), .val (.int x2), .val (.int x3), .unset, .unset, .unset, .unset, .unset, .unset, .unset, .unset, .unset, .unset, .unset, .unset, .unset, .unset] [] := by first | (simp [entryFrame, mkF, argsToLocals, Value.category, maxLocals]; done) | rfl
  rw [ef]
  have N0 := Fr.nil n0
  have hSA : ∀ d ∈ Bundle.stringAtoms, d.before a0 Z = true := fun d hd => by
    obtain ⟨i, hi⟩ := List.getElem?_of_mem ((by decide +kernel : ∀ d ∈ Bundle.stringAtoms, d ∈ tables_1) d hd)
    exact w i hi
  refine Own.iloadN 1 X0 hx (hb hby at_0) rfl rfl ?_
  refine Own.ldcInt 3 X0 hx hZ ((2147483647 : Int32)) hown (w 0 rfl) (hb hby at_1) rfl ?_
  refine Own.iand 4 X0 hx (hb hby at_3) rfl rfl ?_
  refine Own.iconst 5 X0 hx ((3 : Int32)) (hb hby at_4) rfl rfl ?_
  refine Own.irem 6 X0 hx (hb hby at_5) rfl (by decide) rfl ?_
  refine Own.istore 8 (fun v4_6 => #[.val (.int x0), .val (.int x1), .val (.int x2), .val (.int x3), .val (.int v4_6), .unset, .unset, .unset, .unset, .unset, .unset, .unset, .unset, .unset, .unset, .unset, .unset, .unset]) X0 hx (hb hby at_6) rfl (fun _ => rfl) fun v4_6 hv4_6 => ?_
  refine Own.iloadN 9 X0 hx (hb hby at_8) rfl rfl ?_
  refine Own.iconst 10 X0 hx ((3 : Int32)) (hb hby at_9) rfl rfl ?_
  refine Own.iand 11 X0 hx (hb hby at_10) rfl rfl ?_
  refine Own.istore 13 (fun v5_11 => #[.val (.int x0), .val (.int x1), .val (.int x2), .val (.int x3), .val (.int v4_6), .val (.int v5_11), .unset, .unset, .unset, .unset, .unset, .unset, .unset, .unset, .unset, .unset, .unset, .unset]) X0 hx (hb hby at_11) rfl (fun _ => rfl) fun v5_11 hv5_11 => ?_
  refine Own.iloadN 14 X0 hx (hb hby at_13) rfl rfl ?_
  refine Own.iconst 15 X0 hx ((2 : Int32)) (hb hby at_14) rfl rfl ?_
  refine Own.iushr 16 X0 hx (hb hby at_15) rfl rfl ?_
  refine Own.iconst 17 X0 hx ((3 : Int32)) (hb hby at_16) rfl rfl ?_
  refine Own.iand 18 X0 hx (hb hby at_17) rfl rfl ?_
  refine Own.istore 20 (fun v6_18 => #[.val (.int x0), .val (.int x1), .val (.int x2), .val (.int x3), .val (.int v4_6), .val (.int v5_11), .val (.int v6_18), .unset, .unset, .unset, .unset, .unset, .unset, .unset, .unset, .unset, .unset, .unset]) X0 hx (hb hby at_18) rfl (fun _ => rfl) fun v6_18 hv6_18 => ?_
  refine Own.iloadN 21 X0 hx (hb hby at_20) rfl rfl ?_
  refine Own.callSt 24 0 [(.int x2)] [] X0 hx hZ hown (m1 l Z a0 w x2 z _ n0 Z0 X00 SC hz) (w 1 rfl) (w 2 rfl) (w 3 rfl) (w 4 rfl) (by decide) e0 (by decide) (by decide) (by decide) (by decide) (by rw [hml]; rfl) (lenOf pd_1 rfl) rfl (Nat.le_of_eq rfl) (hb hby at_21) rfl ?_
  rintro vv T1 L1 X1 ⟨k0, rfl, N1q, K1, sz_k0, g_k0, E_k0⟩
  have N1 := Fr.app N0 N1q
  have O1 := X00.keep K1 all0
  have zl1 := Nat.le_trans Z0 K1.1
  refine Own.astore 26 #[.val (.int x0), .val (.int x1), .val (.int x2), .val (.int x3), .val (.int v4_6), .val (.int v5_11), .val (.int v6_18), .val (.ref k0), .unset, .unset, .unset, .unset, .unset, .unset, .unset, .unset, .unset, .unset] X1 hx (hb hby at_24) rfl rfl rfl ?_
  refine Own.iloadN 27 X1 hx (hb hby at_26) rfl rfl ?_
  refine Own.bipush 29 X1 hx ((8 : Int32)) (hb hby at_27) rfl rfl ?_
  refine Own.iushr 30 X1 hx (hb hby at_29) rfl rfl ?_
  refine Own.callSt 33 0 [(.int ((x2.toUInt32 >>> ((8 : Int32) &&& 31).toUInt32).toInt32))] [] X1 hx hZ hown (m1 l Z a0 w ((x2.toUInt32 >>> ((8 : Int32) &&& 31).toUInt32).toInt32) z _ n0 zl1 O1 SC hz) (w 1 rfl) (w 2 rfl) (w 3 rfl) (w 4 rfl) (by decide) rfl (by decide) (by decide) (by decide) (by decide) (by rw [hml]; rfl) (lenOf pd_1 rfl) rfl (Nat.le_of_eq rfl) (hb hby at_30) rfl ?_
  rintro vv T3 L3 X3 ⟨k1, rfl, N3q, K3, sz_k1, g_k1, E_k1⟩
  have N3 := Fr.app N1 N3q
  have O3 := O1.keep K3 all0
  have Ef_5 := E_k0.keep K3
  have zl3 := Nat.le_trans zl1 K3.1
  refine Own.astore 35 #[.val (.int x0), .val (.int x1), .val (.int x2), .val (.int x3), .val (.int v4_6), .val (.int v5_11), .val (.int v6_18), .val (.ref k0), .val (.ref k1), .unset, .unset, .unset, .unset, .unset, .unset, .unset, .unset, .unset] X3 hx (hb hby at_33) rfl rfl rfl ?_
  refine Own.iloadN 36 X3 hx (hb hby at_35) rfl rfl ?_
  refine Own.iconst 37 X3 hx ((4 : Int32)) (hb hby at_36) rfl rfl ?_
  refine Own.iushr 38 X3 hx (hb hby at_37) rfl rfl ?_
  refine Own.iconst 39 X3 hx ((1 : Int32)) (hb hby at_38) rfl rfl ?_
  refine Own.iand 40 X3 hx (hb hby at_39) rfl rfl ?_
  have J51 : ∀ (b0 : Value) (T1 : State) (Lc : List Loc) (X1 : Stand p l e room_1 s m #[(.int x0), (.int x1), (.int x2), (.int x3)] below meth c T1 Lc 9 18) (N1 : Fr n0 Lc) (O1 : Old Z n0 T1.heap) (z1 : n0 ≤ T1.heap.size) (JJ51_0 : Exa Z T1.heap k0 "java/lang/String") (JJ51_1 : Exa Z T1.heap k1 "java/lang/String") (P_b0 : Own.Opt Z T1.heap b0 "java/lang/String"), Own.Ends p.tables e below (fun v h L => v = some (.int 1) ∧ Fr n0 L) (Own.FW s room_1.cells room_1.slots) (T1.setTop (mkF m 51 #[.val (.int x0), .val (.int x1), .val (.int x2), .val (.int x3), .val (.int v4_6), .val (.int v5_11), .val (.int v6_18), .val (.ref k0), .val (.ref k1), .unset, .unset, .unset, .unset, .unset, .unset, .unset, .unset, .unset] [b0])) := by
    intro b0 T1 Lc X1 N1 O1 z1 JJ51_0 JJ51_1 P_b0
    refine Own.astoreV 53 #[.val (.int x0), .val (.int x1), .val (.int x2), .val (.int x3), .val (.int v4_6), .val (.int v5_11), .val (.int v6_18), .val (.ref k0), .val (.ref k1), .val b0, .unset, .unset, .unset, .unset, .unset, .unset, .unset, .unset] X1 hx (hb hby at_51) rfl P_b0.isRef rfl One.u rfl ?_
    refine Own.iloadN 54 X1 hx (hb hby at_53) rfl rfl ?_
    refine Own.iconst 55 X1 hx ((5 : Int32)) (hb hby at_54) rfl rfl ?_
    refine Own.iushr 56 X1 hx (hb hby at_55) rfl rfl ?_
    refine Own.iconst 57 X1 hx ((1 : Int32)) (hb hby at_56) rfl rfl ?_
    refine Own.iand 58 X1 hx (hb hby at_57) rfl rfl ?_
    have J72 : ∀ (b1 : Value) (T1 : State) (Lc : List Loc) (X1 : Stand p l e room_1 s m #[(.int x0), (.int x1), (.int x2), (.int x3)] below meth c T1 Lc 12 24) (N1 : Fr n0 Lc) (O1 : Old Z n0 T1.heap) (z1 : n0 ≤ T1.heap.size) (JJ72_0 : Exa Z T1.heap k0 "java/lang/String") (JJ72_1 : Exa Z T1.heap k1 "java/lang/String") (JJ72_2 : Own.Opt Z T1.heap b0 "java/lang/String") (P_b1 : Own.Opt Z T1.heap b1 "java/lang/String"), Own.Ends p.tables e below (fun v h L => v = some (.int 1) ∧ Fr n0 L) (Own.FW s room_1.cells room_1.slots) (T1.setTop (mkF m 72 #[.val (.int x0), .val (.int x1), .val (.int x2), .val (.int x3), .val (.int v4_6), .val (.int v5_11), .val (.int v6_18), .val (.ref k0), .val (.ref k1), .val b0, .unset, .unset, .unset, .unset, .unset, .unset, .unset, .unset] [b1])) := by
      intro b1 T1 Lc X1 N1 O1 z1 JJ72_0 JJ72_1 JJ72_2 P_b1
      refine Own.astoreV 74 #[.val (.int x0), .val (.int x1), .val (.int x2), .val (.int x3), .val (.int v4_6), .val (.int v5_11), .val (.int v6_18), .val (.ref k0), .val (.ref k1), .val b0, .val b1, .unset, .unset, .unset, .unset, .unset, .unset, .unset] X1 hx (hb hby at_72) rfl P_b1.isRef rfl One.u rfl ?_
      refine Own.iloadN 75 X1 hx (hb hby at_74) rfl rfl ?_
      refine Own.bipush 77 X1 hx ((6 : Int32)) (hb hby at_75) rfl rfl ?_
      refine Own.iushr 78 X1 hx (hb hby at_77) rfl rfl ?_
      refine Own.iconst 79 X1 hx ((1 : Int32)) (hb hby at_78) rfl rfl ?_
      refine Own.iand 80 X1 hx (hb hby at_79) rfl rfl ?_
      have J94 : ∀ (b2 : Value) (T1 : State) (Lc : List Loc) (X1 : Stand p l e room_1 s m #[(.int x0), (.int x1), (.int x2), (.int x3)] below meth c T1 Lc 15 30) (N1 : Fr n0 Lc) (O1 : Old Z n0 T1.heap) (z1 : n0 ≤ T1.heap.size) (JJ94_0 : Exa Z T1.heap k0 "java/lang/String") (JJ94_1 : Exa Z T1.heap k1 "java/lang/String") (JJ94_2 : Own.Opt Z T1.heap b0 "java/lang/String") (JJ94_3 : Own.Opt Z T1.heap b1 "java/lang/String") (P_b2 : Own.Opt Z T1.heap b2 "java/lang/String"), Own.Ends p.tables e below (fun v h L => v = some (.int 1) ∧ Fr n0 L) (Own.FW s room_1.cells room_1.slots) (T1.setTop (mkF m 94 #[.val (.int x0), .val (.int x1), .val (.int x2), .val (.int x3), .val (.int v4_6), .val (.int v5_11), .val (.int v6_18), .val (.ref k0), .val (.ref k1), .val b0, .val b1, .unset, .unset, .unset, .unset, .unset, .unset, .unset] [b2])) := by
        intro b2 T1 Lc X1 N1 O1 z1 JJ94_0 JJ94_1 JJ94_2 JJ94_3 P_b2
        refine Own.astoreV 96 #[.val (.int x0), .val (.int x1), .val (.int x2), .val (.int x3), .val (.int v4_6), .val (.int v5_11), .val (.int v6_18), .val (.ref k0), .val (.ref k1), .val b0, .val b1, .val b2, .unset, .unset, .unset, .unset, .unset, .unset] X1 hx (hb hby at_94) rfl P_b2.isRef rfl One.u rfl ?_
        refine Own.iconst 97 X1 hx ((3 : Int32)) (hb hby at_96) rfl rfl ?_
        have B4 := own_three x0
        rw [← hv4_6] at B4
        have B5 := own_four x1
        rw [← hv5_11] at B5
        refine Own.newRefArr 100 3 X1 hx hZ hown (w 5 rfl) (w 35 rfl) rfl (by decide) (by decide) (by decide) (hb hby at_97) rfl (by decide) (by decide) ?_
        intro T6 h6 bs k6 z6 X6 e6 E6 A6 Ov6
        have ne_k0_bs : k0 ≠ bs := Nat.ne_of_lt (Nat.lt_of_lt_of_le JJ94_0.lt (Nat.le_of_eq z6.symm))
        have ne_k1_bs : k1 ≠ bs := Nat.ne_of_lt (Nat.lt_of_lt_of_le JJ94_1.lt (Nat.le_of_eq z6.symm))
        have g_bs : n0 ≤ bs := Nat.le_trans z1 (Nat.le_of_eq z6.symm)
        have Ef_8 := JJ94_0.ext E6
        have Ef_9 := JJ94_1.ext E6
        have Of_10 := JJ94_2.ext E6
        have Of_11 := JJ94_3.ext E6
        have Of_12 := P_b2.ext E6
        have O6 := O1.ext E6
        have zl6 := Nat.le_trans z1 E6.1
        have V6 : Arv Z h6 bs k6 (.object "java/lang/String") (3 : Int32) [.null, .null, .null] .null := A6
        refine Own.dup 101 X6 hx (hb hby at_100) rfl rfl ?_
        refine Own.iconst 102 X6 hx ((0 : Int32)) (hb hby at_101) rfl rfl ?_
        refine Own.aload 104 X6 hx (hb hby at_102) rfl rfl Of_10.isRef ?_
        refine Own.aastore 105 X6 hx hZ e6 V6 rfl (Own.fits_obj Of_10.isRef) (Own.Opt.sto Of_10 V6 Ov6) (by decide) (Nat.le_of_ble_eq_true rfl) (hb hby at_104) rfl ?_
        intro T13 h13 X13 e13 W13 A13
        have N13 := Fr.snoc X13 N1 g_bs
        have Ef_15 := Ef_8.wr W13
        have Ef_16 := Ef_9.wr W13
        have Of_17 := Of_10.wr W13
        have Of_18 := Of_11.wr W13
        have Of_19 := Of_12.wr W13
        have O13 := O6.wr W13 g_bs
        have zl13 := Nat.le_trans zl6 (Nat.le_of_eq W13.size.symm)
        have V13 : Arv Z h13 bs k6 (.object "java/lang/String") (3 : Int32) [b0, .null, .null] .null := A13
        refine Own.dup 106 X13 hx (hb hby at_105) rfl rfl ?_
        refine Own.iconst 107 X13 hx ((1 : Int32)) (hb hby at_106) rfl rfl ?_
        refine Own.aload 109 X13 hx (hb hby at_107) rfl rfl Of_18.isRef ?_
        refine Own.aastore 110 X13 hx hZ e13 V13 rfl (Own.fits_obj Of_18.isRef) (Own.Opt.sto Of_18 V13 Ov6) (by decide) (Nat.le_of_ble_eq_true rfl) (hb hby at_109) rfl ?_
        intro T21 h21 X21 e21 W21 A21
        have N21 := Fr.snoc X21 N13 g_bs
        have Ef_23 := Ef_15.wr W21
        have Ef_24 := Ef_16.wr W21
        have Of_25 := Of_17.wr W21
        have Of_26 := Of_18.wr W21
        have Of_27 := Of_19.wr W21
        have O21 := O13.wr W21 g_bs
        have zl21 := Nat.le_trans zl13 (Nat.le_of_eq W21.size.symm)
        have V21 : Arv Z h21 bs k6 (.object "java/lang/String") (3 : Int32) [b0, b1, .null] .null := A21
        refine Own.dup 111 X21 hx (hb hby at_110) rfl rfl ?_
        refine Own.iconst 112 X21 hx ((2 : Int32)) (hb hby at_111) rfl rfl ?_
        refine Own.aload 114 X21 hx (hb hby at_112) rfl rfl Of_27.isRef ?_
        refine Own.aastore 115 X21 hx hZ e21 V21 rfl (Own.fits_obj Of_27.isRef) (Own.Opt.sto Of_27 V21 Ov6) (by decide) (Nat.le_of_ble_eq_true rfl) (hb hby at_114) rfl ?_
        intro T29 h29 X29 e29 W29 A29
        have N29 := Fr.snoc X29 N21 g_bs
        have Ef_31 := Ef_23.wr W29
        have Ef_32 := Ef_24.wr W29
        have Of_33 := Of_25.wr W29
        have Of_34 := Of_26.wr W29
        have Of_35 := Of_27.wr W29
        have O29 := O21.wr W29 g_bs
        have zl29 := Nat.le_trans zl21 (Nat.le_of_eq W29.size.symm)
        have V29 : Arv Z h29 bs k6 (.object "java/lang/String") (3 : Int32) [b0, b1, b2] .null := A29
        refine Own.astore 117 #[.val (.int x0), .val (.int x1), .val (.int x2), .val (.int x3), .val (.int v4_6), .val (.int v5_11), .val (.int v6_18), .val (.ref k0), .val (.ref k1), .val b0, .val b1, .val b2, .val (.ref bs), .unset, .unset, .unset, .unset, .unset] X29 hx (hb hby at_115) rfl rfl rfl ?_
        refine Own.iload 119 X29 hx (hb hby at_117) rfl rfl ?_
        rcases B4 with q | q | q <;> subst q
        ·
          refine Own.newRefArr 122 0 X29 hx hZ hown (w 5 rfl) (w 35 rfl) e29 (by decide) (by decide) (by decide) (hb hby at_119) rfl (by decide) (by decide) ?_
          intro T37 h37 cn k37 z37 X37 e37 E37 A37 Ov37
          have ne_bs_cn : bs ≠ cn := Nat.ne_of_lt (Nat.lt_of_lt_of_le V29.lt (Nat.le_of_eq z37.symm))
          have ne_k0_cn : k0 ≠ cn := Nat.ne_of_lt (Nat.lt_of_lt_of_le Ef_31.lt (Nat.le_of_eq z37.symm))
          have ne_k1_cn : k1 ≠ cn := Nat.ne_of_lt (Nat.lt_of_lt_of_le Ef_32.lt (Nat.le_of_eq z37.symm))
          have g_cn : n0 ≤ cn := Nat.le_trans zl29 (Nat.le_of_eq z37.symm)
          have Ef_39 := Ef_31.ext E37
          have Ef_40 := Ef_32.ext E37
          have Of_41 := Of_33.ext E37
          have Of_42 := Of_34.ext E37
          have Of_43 := Of_35.ext E37
          have Vf_44 := V29.ext E37
          have O37 := O29.ext E37
          have zl37 := Nat.le_trans zl29 E37.1
          have V37 : Arv Z h37 cn k37 (.object "java/lang/String") (0 : Int32) [] .null := A37
          refine Own.astore 124 #[.val (.int x0), .val (.int x1), .val (.int x2), .val (.int x3), .val (.int (0 : Int32)), .val (.int v5_11), .val (.int v6_18), .val (.ref k0), .val (.ref k1), .val b0, .val b1, .val b2, .val (.ref bs), .val (.ref cn), .unset, .unset, .unset, .unset] X37 hx (hb hby at_122) rfl rfl rfl ?_
          refine Own.iload 126 X37 hx (hb hby at_124) rfl rfl ?_
          refine Own.newArr 128 0 X37 hx hZ (w 36 rfl) e37 (by decide) (by decide) (by decide) (hb hby at_126) rfl (by decide) (by decide) ?_
          intro T45 h45 sl k45 z45 X45 e45 E45 A45
          have ne_bs_sl : bs ≠ sl := Nat.ne_of_lt (Nat.lt_of_lt_of_le Vf_44.lt (Nat.le_of_eq z45.symm))
          have ne_cn_sl : cn ≠ sl := Nat.ne_of_lt (Nat.lt_of_lt_of_le V37.lt (Nat.le_of_eq z45.symm))
          have ne_k0_sl : k0 ≠ sl := Nat.ne_of_lt (Nat.lt_of_lt_of_le Ef_39.lt (Nat.le_of_eq z45.symm))
          have ne_k1_sl : k1 ≠ sl := Nat.ne_of_lt (Nat.lt_of_lt_of_le Ef_40.lt (Nat.le_of_eq z45.symm))
          have g_sl : n0 ≤ sl := Nat.le_trans zl37 (Nat.le_of_eq z45.symm)
          have Ef_47 := Ef_39.ext E45
          have Ef_48 := Ef_40.ext E45
          have Of_49 := Of_41.ext E45
          have Of_50 := Of_42.ext E45
          have Of_51 := Of_43.ext E45
          have Vf_52 := Vf_44.ext E45
          have Vf_53 := V37.ext E45
          have O45 := O37.ext E45
          have zl45 := Nat.le_trans zl37 E45.1
          have V45 : Arv Z h45 sl k45 .int (0 : Int32) [] (.int (0 : Int32)) := A45
          refine Own.astore 130 #[.val (.int x0), .val (.int x1), .val (.int x2), .val (.int x3), .val (.int (0 : Int32)), .val (.int v5_11), .val (.int v6_18), .val (.ref k0), .val (.ref k1), .val b0, .val b1, .val b2, .val (.ref bs), .val (.ref cn), .val (.ref sl), .unset, .unset, .unset] X45 hx (hb hby at_128) rfl rfl rfl ?_
          refine Own.iload 132 X45 hx (hb hby at_130) rfl rfl ?_
          refine Own.iconst 133 X45 hx ((1 : Int32)) (hb hby at_132) rfl rfl ?_
          refine Own.icmp_lt 163 136 X45 hx (hb hby at_133) (by decide) rfl (fun tk => ?_) (fun tk => absurd tk (by decide))
          refine Own.iload 165 X45 hx (hb hby at_163) rfl rfl ?_
          refine Own.iconst 166 X45 hx ((2 : Int32)) (hb hby at_165) rfl rfl ?_
          refine Own.icmp_lt 196 169 X45 hx (hb hby at_166) (by decide) rfl (fun tk => ?_) (fun tk => absurd tk (by decide))
          refine Own.newObj 199 X45 hx hZ hown (w 37 rfl) (w 38 rfl) (w 39 rfl) e45 (hb hby at_196) rfl (by decide) (by decide) ?_
          intro T54 h54 p' z54 X54 e54 E54 A54 D54
          have ne_bs_p' : bs ≠ p' := Nat.ne_of_lt (Nat.lt_of_lt_of_le Vf_52.lt (Nat.le_of_eq z54.symm))
          have ne_cn_p' : cn ≠ p' := Nat.ne_of_lt (Nat.lt_of_lt_of_le Vf_53.lt (Nat.le_of_eq z54.symm))
          have ne_k0_p' : k0 ≠ p' := Nat.ne_of_lt (Nat.lt_of_lt_of_le Ef_47.lt (Nat.le_of_eq z54.symm))
          have ne_k1_p' : k1 ≠ p' := Nat.ne_of_lt (Nat.lt_of_lt_of_le Ef_48.lt (Nat.le_of_eq z54.symm))
          have ne_sl_p' : sl ≠ p' := Nat.ne_of_lt (Nat.lt_of_lt_of_le V45.lt (Nat.le_of_eq z54.symm))
          have g_p' : n0 ≤ p' := Nat.le_trans zl45 (Nat.le_of_eq z54.symm)
          have Ef_56 := Ef_47.ext E54
          have Ef_57 := Ef_48.ext E54
          have Of_58 := Of_49.ext E54
          have Of_59 := Of_50.ext E54
          have Of_60 := Of_51.ext E54
          have Vf_61 := Vf_52.ext E54
          have Vf_62 := Vf_53.ext E54
          have Vf_63 := V45.ext E54
          have O54 := O45.ext E54
          have zl54 := Nat.le_trans zl45 E54.1
          have F54_name : Fld Z h54 p' "com/example/skuld/skuld/htn/Pattern" "name" "Ljava/lang/String;" .null := D54 (Or.inr (w 48 rfl)) (ty := (.object "java/lang/String")) (by decide)
          have F54_constants : Fld Z h54 p' "com/example/skuld/skuld/htn/Pattern" "constants" "[Ljava/lang/String;" .null := D54 (Or.inr (w 50 rfl)) (ty := (.array (.object "java/lang/String"))) (by decide)
          have F54_slots : Fld Z h54 p' "com/example/skuld/skuld/htn/Pattern" "slots" "[I" .null := D54 (Or.inr (w 52 rfl)) (ty := (.array .int)) (by decide)
          have F54_line : Fld Z h54 p' "com/example/skuld/skuld/htn/Pattern" "line" "I" (.int (0 : Int32)) := D54 (Or.inr (w 54 rfl)) (ty := .int) (by decide)
          refine Own.dup 200 X54 hx (hb hby at_199) rfl rfl ?_
          refine Own.ldcStr 202 4 X54 hx hZ hown (w 40 rfl) hSA e54 (hb hby at_200) rfl (by decide) (by decide) (by decide) (by decide) ?_
          intro lt T64 h64 X64 e64 E64 hZ hown
          have Ef_66 := Ef_56.ext E64
          have Ef_67 := Ef_57.ext E64
          have Of_68 := Of_58.ext E64
          have Of_69 := Of_59.ext E64
          have Of_70 := Of_60.ext E64
          have Vf_71 := Vf_61.ext E64
          have Vf_72 := Vf_62.ext E64
          have Vf_73 := Vf_63.ext E64
          have Ef_74 := A54.ext E64
          have Ff_75 := F54_name.ext E64
          have Ff_76 := F54_constants.ext E64
          have Ff_77 := F54_slots.ext E64
          have Ff_78 := F54_line.ext E64
          have O64 := O54.ext E64
          have zl64 := Nat.le_trans zl54 E64.1
          have zk64 := Nat.le_refl h64.size
          refine Own.aload 204 X64 hx (hb hby at_202) rfl rfl rfl ?_
          refine Own.aload 206 X64 hx (hb hby at_204) rfl rfl rfl ?_
          refine Own.iloadN 207 X64 hx (hb hby at_206) rfl rfl ?_
          refine Own.callInit 210 1 p' [(.ref lt), (.ref cn), (.ref sl), (.int x2)] [(.ref p')] X64 hx hZ hown (m8 l Z a0 w p' lt cn sl x2 _ _ _ _ n0 h64 zl64 Ef_74 Ff_75 Ff_76 Ff_77 Ff_78 g_p') rfl (w 43 rfl) (w 44 rfl) (w 39 rfl) (w 45 rfl) (by decide) e64 (by decide) (by decide) (by decide) (by decide) (by rw [hml]; rfl) (lenOf pd_2 rfl) rfl (Nat.le_of_eq rfl) (hb hby at_207) rfl ?_
          rintro vv T79 L79 X79 ⟨rfl, N79q, K79, Fs79, Fc79⟩
          have N79 := Fr.app N29 N79q
          have O79 := O64.keep K79 (allS g_p' all0)
          have Ef_81 := Ef_66.keep K79
          have Ef_82 := Ef_67.keep K79
          have Of_83 := Of_68.keep K79
          have Of_84 := Of_69.keep K79
          have Of_85 := Of_70.keep K79
          have Vf_86 := Vf_71.keep K79 (ninS ne_bs_p' nin0)
          have Vf_87 := Vf_72.keep K79 (ninS ne_cn_p' nin0)
          have Vf_88 := Vf_73.keep K79 (ninS ne_sl_p' nin0)
          have Ef_89 := Ef_74.keep K79
          have zl79 := Nat.le_trans zl64 K79.1
          have zk79 := Nat.le_trans zk64 K79.1
          refine Own.astore 212 #[.val (.int x0), .val (.int x1), .val (.int x2), .val (.int x3), .val (.int (0 : Int32)), .val (.int v5_11), .val (.int v6_18), .val (.ref k0), .val (.ref k1), .val b0, .val b1, .val b2, .val (.ref bs), .val (.ref cn), .val (.ref sl), .val (.ref p'), .unset, .unset] X79 hx (hb hby at_210) rfl rfl rfl ?_
          refine Own.aload 214 X79 hx (hb hby at_212) rfl rfl rfl ?_
          refine Own.aload 216 X79 hx (hb hby at_214) rfl rfl rfl ?_
          refine Own.callVt 219 0 p' [(.ref bs)] [] X79 hx hZ hown (m9_0_x l Z a0 w p' bs sl cn k45 k37 k6  b0 b1 b2 _ Fs79 Fc79 Vf_88 Vf_87 Vf_86  Of_83 Of_84 Of_85) Ef_89 (notFace_of_selects (args := #[]) (mvT hZ (w 58 rfl))) (w 55 rfl) (w 56 rfl) (w 58 rfl) (w 57 rfl) (w 39 rfl) (w 59 rfl) (by decide) rfl (by decide) (by decide) (by decide) (by decide) (by rw [hml]; rfl) (lenOf pd_3 rfl) rfl (Nat.le_of_eq rfl) (hb hby at_216) rfl ?_
          rintro vv T94 L94 X94 ⟨rfl, hh94, rfl⟩
          have N94 := Fr.app N79 (Fr.nil _)
          refine Own.astore 221 #[.val (.int x0), .val (.int x1), .val (.int x2), .val (.int x3), .val (.int (0 : Int32)), .val (.int v5_11), .val (.int v6_18), .val (.ref k0), .val (.ref k1), .val b0, .val b1, .val b2, .val (.ref bs), .val (.ref cn), .val (.ref sl), .val (.ref p'), .val .null, .unset] X94 hx (hb hby at_219) rfl rfl rfl ?_
          refine Own.iload 223 X94 hx (hb hby at_221) rfl rfl ?_
          refine Own.if_ne 232 226 X94 hx (hb hby at_223) (by decide) rfl (fun tk => absurd tk (by decide)) (fun tk => ?_)
          refine Own.aconstNull 227 X94 hx (hb hby at_226) rfl ?_
          refine Own.astore 229 #[.val (.int x0), .val (.int x1), .val (.int x2), .val (.int x3), .val (.int (0 : Int32)), .val (.int v5_11), .val (.int v6_18), .val (.ref k0), .val (.ref k1), .val b0, .val b1, .val b2, .val (.ref bs), .val (.ref cn), .val (.ref sl), .val (.ref p'), .val .null, .val .null] X94 hx (hb hby at_227) rfl rfl rfl ?_
          refine Own.goto 274 X94 hx (hb hby at_229) (by decide) ?_
          refine Own.aload 276 X94 hx (hb hby at_274) rfl rfl rfl ?_
          refine Own.aload 278 X94 hx (hb hby at_276) rfl rfl rfl ?_
          refine Own.acmp_ne 285 281 X94 hx (hb hby at_278) rfl rfl (by decide) rfl (fun q => ?_) (fun q => ?_)
          ·
            exact absurd rfl q
          ·
            refine Own.iconst 282 X94 hx ((1 : Int32)) (hb hby at_281) rfl rfl ?_
            refine Own.goto 286 X94 hx (hb hby at_282) (by decide) ?_
            refine Own.retBool X94 hx hlk hret (hb hby at_286) (by decide) (by decide) ?_
            exact ⟨⟨rfl, N94⟩, by rw [hh94]; exact zk79⟩
        ·
          refine Own.newRefArr 122 1 X29 hx hZ hown (w 5 rfl) (w 35 rfl) e29 (by decide) (by decide) (by decide) (hb hby at_119) rfl (by decide) (by decide) ?_
          intro T95 h95 cn k95 z95 X95 e95 E95 A95 Ov95
          have ne_bs_cn : bs ≠ cn := Nat.ne_of_lt (Nat.lt_of_lt_of_le V29.lt (Nat.le_of_eq z95.symm))
          have ne_k0_cn : k0 ≠ cn := Nat.ne_of_lt (Nat.lt_of_lt_of_le Ef_31.lt (Nat.le_of_eq z95.symm))
          have ne_k1_cn : k1 ≠ cn := Nat.ne_of_lt (Nat.lt_of_lt_of_le Ef_32.lt (Nat.le_of_eq z95.symm))
          have g_cn : n0 ≤ cn := Nat.le_trans zl29 (Nat.le_of_eq z95.symm)
          have Ef_97 := Ef_31.ext E95
          have Ef_98 := Ef_32.ext E95
          have Of_99 := Of_33.ext E95
          have Of_100 := Of_34.ext E95
          have Of_101 := Of_35.ext E95
          have Vf_102 := V29.ext E95
          have O95 := O29.ext E95
          have zl95 := Nat.le_trans zl29 E95.1
          have V95 : Arv Z h95 cn k95 (.object "java/lang/String") (1 : Int32) [.null] .null := A95
          refine Own.astore 124 #[.val (.int x0), .val (.int x1), .val (.int x2), .val (.int x3), .val (.int (1 : Int32)), .val (.int v5_11), .val (.int v6_18), .val (.ref k0), .val (.ref k1), .val b0, .val b1, .val b2, .val (.ref bs), .val (.ref cn), .unset, .unset, .unset, .unset] X95 hx (hb hby at_122) rfl rfl rfl ?_
          refine Own.iload 126 X95 hx (hb hby at_124) rfl rfl ?_
          refine Own.newArr 128 1 X95 hx hZ (w 36 rfl) e95 (by decide) (by decide) (by decide) (hb hby at_126) rfl (by decide) (by decide) ?_
          intro T103 h103 sl k103 z103 X103 e103 E103 A103
          have ne_bs_sl : bs ≠ sl := Nat.ne_of_lt (Nat.lt_of_lt_of_le Vf_102.lt (Nat.le_of_eq z103.symm))
          have ne_cn_sl : cn ≠ sl := Nat.ne_of_lt (Nat.lt_of_lt_of_le V95.lt (Nat.le_of_eq z103.symm))
          have ne_k0_sl : k0 ≠ sl := Nat.ne_of_lt (Nat.lt_of_lt_of_le Ef_97.lt (Nat.le_of_eq z103.symm))
          have ne_k1_sl : k1 ≠ sl := Nat.ne_of_lt (Nat.lt_of_lt_of_le Ef_98.lt (Nat.le_of_eq z103.symm))
          have g_sl : n0 ≤ sl := Nat.le_trans zl95 (Nat.le_of_eq z103.symm)
          have Ef_105 := Ef_97.ext E103
          have Ef_106 := Ef_98.ext E103
          have Of_107 := Of_99.ext E103
          have Of_108 := Of_100.ext E103
          have Of_109 := Of_101.ext E103
          have Vf_110 := Vf_102.ext E103
          have Vf_111 := V95.ext E103
          have O103 := O95.ext E103
          have zl103 := Nat.le_trans zl95 E103.1
          have V103 : Arv Z h103 sl k103 .int (1 : Int32) [(.int (0 : Int32))] (.int (0 : Int32)) := A103
          refine Own.astore 130 #[.val (.int x0), .val (.int x1), .val (.int x2), .val (.int x3), .val (.int (1 : Int32)), .val (.int v5_11), .val (.int v6_18), .val (.ref k0), .val (.ref k1), .val b0, .val b1, .val b2, .val (.ref bs), .val (.ref cn), .val (.ref sl), .unset, .unset, .unset] X103 hx (hb hby at_128) rfl rfl rfl ?_
          refine Own.iload 132 X103 hx (hb hby at_130) rfl rfl ?_
          refine Own.iconst 133 X103 hx ((1 : Int32)) (hb hby at_132) rfl rfl ?_
          refine Own.icmp_lt 163 136 X103 hx (hb hby at_133) (by decide) rfl (fun tk => absurd tk (by decide)) (fun tk => ?_)
          refine Own.iload 138 X103 hx (hb hby at_136) rfl rfl ?_
          rcases B5 with q | q | q | q <;> subst q
          ·
            refine Own.if_ne 155 141 X103 hx (hb hby at_138) (by decide) rfl (fun tk => absurd tk (by decide)) (fun tk => ?_)
            refine Own.aload 143 X103 hx (hb hby at_141) rfl rfl rfl ?_
            refine Own.iconst 144 X103 hx ((0 : Int32)) (hb hby at_143) rfl rfl ?_
            refine Own.iconst 145 X103 hx ((-1 : Int32)) (hb hby at_144) rfl rfl ?_
            refine Own.iastore 146 X103 hx hZ e103 V103 (by decide) (Nat.le_of_ble_eq_true rfl) (hb hby at_145) rfl ?_
            intro T112 h112 X112 e112 W112 A112
            have N112 := Fr.snoc X112 N29 g_sl
            have Ef_114 := Ef_105.wr W112
            have Ef_115 := Ef_106.wr W112
            have Of_116 := Of_107.wr W112
            have Of_117 := Of_108.wr W112
            have Of_118 := Of_109.wr W112
            have Vf_119 := Vf_110.other W112 ne_bs_sl
            have Vf_120 := Vf_111.other W112 ne_cn_sl
            have O112 := O103.wr W112 g_sl
            have zl112 := Nat.le_trans zl103 (Nat.le_of_eq W112.size.symm)
            have V112 : Arv Z h112 sl k103 .int (1 : Int32) [(.int (-1 : Int32))] (.int (0 : Int32)) := A112
            refine Own.aload 148 X112 hx (hb hby at_146) rfl rfl rfl ?_
            refine Own.iconst 149 X112 hx ((0 : Int32)) (hb hby at_148) rfl rfl ?_
            refine Own.aload 151 X112 hx (hb hby at_149) rfl rfl rfl ?_
            refine Own.aastore 152 X112 hx hZ e112 Vf_120 rfl rfl (by obtain ⟨cq, Aq, qq, -⟩ := Vf_120; exact Sto.ofV Aq qq Ov95 (Ins.self Ef_114)) (by decide) (Nat.le_of_ble_eq_true rfl) (hb hby at_151) rfl ?_
            intro T122 h122 X122 e122 W122 A122
            have N122 := Fr.snoc X122 N112 g_cn
            have Ef_124 := Ef_114.wr W122
            have Ef_125 := Ef_115.wr W122
            have Of_126 := Of_116.wr W122
            have Of_127 := Of_117.wr W122
            have Of_128 := Of_118.wr W122
            have Vf_129 := Vf_119.other W122 ne_bs_cn
            have Vf_131 := V112.other W122 (Ne.symm ne_cn_sl)
            have O122 := O112.wr W122 g_cn
            have zl122 := Nat.le_trans zl112 (Nat.le_of_eq W122.size.symm)
            have V122 : Arv Z h122 cn k95 (.object "java/lang/String") (1 : Int32) [(.ref k0)] .null := A122
            refine Own.goto 163 X122 hx (hb hby at_152) (by decide) ?_
            refine Own.iload 165 X122 hx (hb hby at_163) rfl rfl ?_
            refine Own.iconst 166 X122 hx ((2 : Int32)) (hb hby at_165) rfl rfl ?_
            refine Own.icmp_lt 196 169 X122 hx (hb hby at_166) (by decide) rfl (fun tk => ?_) (fun tk => absurd tk (by decide))
            refine Own.newObj 199 X122 hx hZ hown (w 37 rfl) (w 38 rfl) (w 39 rfl) e122 (hb hby at_196) rfl (by decide) (by decide) ?_
            intro T132 h132 p' z132 X132 e132 E132 A132 D132
            have ne_bs_p' : bs ≠ p' := Nat.ne_of_lt (Nat.lt_of_lt_of_le Vf_129.lt (Nat.le_of_eq z132.symm))
            have ne_cn_p' : cn ≠ p' := Nat.ne_of_lt (Nat.lt_of_lt_of_le V122.lt (Nat.le_of_eq z132.symm))
            have ne_k0_p' : k0 ≠ p' := Nat.ne_of_lt (Nat.lt_of_lt_of_le Ef_124.lt (Nat.le_of_eq z132.symm))
            have ne_k1_p' : k1 ≠ p' := Nat.ne_of_lt (Nat.lt_of_lt_of_le Ef_125.lt (Nat.le_of_eq z132.symm))
            have ne_sl_p' : sl ≠ p' := Nat.ne_of_lt (Nat.lt_of_lt_of_le Vf_131.lt (Nat.le_of_eq z132.symm))
            have g_p' : n0 ≤ p' := Nat.le_trans zl122 (Nat.le_of_eq z132.symm)
            have Ef_134 := Ef_124.ext E132
            have Ef_135 := Ef_125.ext E132
            have Of_136 := Of_126.ext E132
            have Of_137 := Of_127.ext E132
            have Of_138 := Of_128.ext E132
            have Vf_139 := Vf_129.ext E132
            have Vf_140 := V122.ext E132
            have Vf_141 := Vf_131.ext E132
            have O132 := O122.ext E132
            have zl132 := Nat.le_trans zl122 E132.1
            have F132_name : Fld Z h132 p' "com/example/skuld/skuld/htn/Pattern" "name" "Ljava/lang/String;" .null := D132 (Or.inr (w 48 rfl)) (ty := (.object "java/lang/String")) (by decide)
            have F132_constants : Fld Z h132 p' "com/example/skuld/skuld/htn/Pattern" "constants" "[Ljava/lang/String;" .null := D132 (Or.inr (w 50 rfl)) (ty := (.array (.object "java/lang/String"))) (by decide)
            have F132_slots : Fld Z h132 p' "com/example/skuld/skuld/htn/Pattern" "slots" "[I" .null := D132 (Or.inr (w 52 rfl)) (ty := (.array .int)) (by decide)
            have F132_line : Fld Z h132 p' "com/example/skuld/skuld/htn/Pattern" "line" "I" (.int (0 : Int32)) := D132 (Or.inr (w 54 rfl)) (ty := .int) (by decide)
            refine Own.dup 200 X132 hx (hb hby at_199) rfl rfl ?_
            refine Own.ldcStr 202 4 X132 hx hZ hown (w 40 rfl) hSA e132 (hb hby at_200) rfl (by decide) (by decide) (by decide) (by decide) ?_
            intro lt T142 h142 X142 e142 E142 hZ hown
            have Ef_144 := Ef_134.ext E142
            have Ef_145 := Ef_135.ext E142
            have Of_146 := Of_136.ext E142
            have Of_147 := Of_137.ext E142
            have Of_148 := Of_138.ext E142
            have Vf_149 := Vf_139.ext E142
            have Vf_150 := Vf_140.ext E142
            have Vf_151 := Vf_141.ext E142
            have Ef_152 := A132.ext E142
            have Ff_153 := F132_name.ext E142
            have Ff_154 := F132_constants.ext E142
            have Ff_155 := F132_slots.ext E142
            have Ff_156 := F132_line.ext E142
            have O142 := O132.ext E142
            have zl142 := Nat.le_trans zl132 E142.1
            have zk142 := Nat.le_refl h142.size
            refine Own.aload 204 X142 hx (hb hby at_202) rfl rfl rfl ?_
            refine Own.aload 206 X142 hx (hb hby at_204) rfl rfl rfl ?_
            refine Own.iloadN 207 X142 hx (hb hby at_206) rfl rfl ?_
            refine Own.callInit 210 1 p' [(.ref lt), (.ref cn), (.ref sl), (.int x2)] [(.ref p')] X142 hx hZ hown (m8 l Z a0 w p' lt cn sl x2 _ _ _ _ n0 h142 zl142 Ef_152 Ff_153 Ff_154 Ff_155 Ff_156 g_p') rfl (w 43 rfl) (w 44 rfl) (w 39 rfl) (w 45 rfl) (by decide) e142 (by decide) (by decide) (by decide) (by decide) (by rw [hml]; rfl) (lenOf pd_2 rfl) rfl (Nat.le_of_eq rfl) (hb hby at_207) rfl ?_
            rintro vv T157 L157 X157 ⟨rfl, N157q, K157, Fs157, Fc157⟩
            have N157 := Fr.app N122 N157q
            have O157 := O142.keep K157 (allS g_p' all0)
            have Ef_159 := Ef_144.keep K157
            have Ef_160 := Ef_145.keep K157
            have Of_161 := Of_146.keep K157
            have Of_162 := Of_147.keep K157
            have Of_163 := Of_148.keep K157
            have Vf_164 := Vf_149.keep K157 (ninS ne_bs_p' nin0)
            have Vf_165 := Vf_150.keep K157 (ninS ne_cn_p' nin0)
            have Vf_166 := Vf_151.keep K157 (ninS ne_sl_p' nin0)
            have Ef_167 := Ef_152.keep K157
            have zl157 := Nat.le_trans zl142 K157.1
            have zk157 := Nat.le_trans zk142 K157.1
            refine Own.astore 212 #[.val (.int x0), .val (.int x1), .val (.int x2), .val (.int x3), .val (.int (1 : Int32)), .val (.int (0 : Int32)), .val (.int v6_18), .val (.ref k0), .val (.ref k1), .val b0, .val b1, .val b2, .val (.ref bs), .val (.ref cn), .val (.ref sl), .val (.ref p'), .unset, .unset] X157 hx (hb hby at_210) rfl rfl rfl ?_
            refine Own.aload 214 X157 hx (hb hby at_212) rfl rfl rfl ?_
            refine Own.aload 216 X157 hx (hb hby at_214) rfl rfl rfl ?_
            refine Own.callVt 219 0 p' [(.ref bs)] [] X157 hx hZ hown (m9_1_m l Z a0 w p' bs sl cn k103 k95 k6  (.ref k0) b0 b1 b2 _ Fs157 Fc157 Vf_166 Vf_165 Vf_164 (Or.inr ⟨_, rfl, Ef_159⟩) Of_161 Of_162 Of_163) Ef_167 (notFace_of_selects (args := #[]) (mvT hZ (w 58 rfl))) (w 55 rfl) (w 56 rfl) (w 58 rfl) (w 57 rfl) (w 39 rfl) (w 59 rfl) (by decide) rfl (by decide) (by decide) (by decide) (by decide) (by rw [hml]; rfl) (lenOf pd_3 rfl) rfl (Nat.le_of_eq rfl) (hb hby at_216) rfl ?_
            rintro vv T172 L172 X172 ⟨rfl, hh172, rfl⟩
            have N172 := Fr.app N157 (Fr.nil _)
            refine Own.astore 221 #[.val (.int x0), .val (.int x1), .val (.int x2), .val (.int x3), .val (.int (1 : Int32)), .val (.int (0 : Int32)), .val (.int v6_18), .val (.ref k0), .val (.ref k1), .val b0, .val b1, .val b2, .val (.ref bs), .val (.ref cn), .val (.ref sl), .val (.ref p'), .val (.ref k0), .unset] X172 hx (hb hby at_219) rfl rfl rfl ?_
            refine Own.iload 223 X172 hx (hb hby at_221) rfl rfl ?_
            refine Own.if_ne 232 226 X172 hx (hb hby at_223) (by decide) rfl (fun tk => ?_) (fun tk => absurd tk (by decide))
            refine Own.iload 234 X172 hx (hb hby at_232) rfl rfl ?_
            refine Own.if_ne 244 237 X172 hx (hb hby at_234) (by decide) rfl (fun tk => absurd tk (by decide)) (fun tk => ?_)
            refine Own.aload 239 X172 hx (hb hby at_237) rfl rfl rfl ?_
            refine Own.astore 241 #[.val (.int x0), .val (.int x1), .val (.int x2), .val (.int x3), .val (.int (1 : Int32)), .val (.int (0 : Int32)), .val (.int v6_18), .val (.ref k0), .val (.ref k1), .val b0, .val b1, .val b2, .val (.ref bs), .val (.ref cn), .val (.ref sl), .val (.ref p'), .val (.ref k0), .val (.ref k0)] X172 hx (hb hby at_239) rfl rfl rfl ?_
            refine Own.goto 274 X172 hx (hb hby at_241) (by decide) ?_
            refine Own.aload 276 X172 hx (hb hby at_274) rfl rfl rfl ?_
            refine Own.aload 278 X172 hx (hb hby at_276) rfl rfl rfl ?_
            refine Own.acmp_ne 285 281 X172 hx (hb hby at_278) rfl rfl (by decide) rfl (fun q => ?_) (fun q => ?_)
            ·
              exact absurd rfl q
            ·
              refine Own.iconst 282 X172 hx ((1 : Int32)) (hb hby at_281) rfl rfl ?_
              refine Own.goto 286 X172 hx (hb hby at_282) (by decide) ?_
              refine Own.retBool X172 hx hlk hret (hb hby at_286) (by decide) (by decide) ?_
              exact ⟨⟨rfl, N172⟩, by rw [hh172]; exact zk157⟩
          ·
            refine Own.if_ne 155 141 X103 hx (hb hby at_138) (by decide) rfl (fun tk => ?_) (fun tk => absurd tk (by decide))
            refine Own.aload 157 X103 hx (hb hby at_155) rfl rfl rfl ?_
            refine Own.iconst 158 X103 hx ((0 : Int32)) (hb hby at_157) rfl rfl ?_
            refine Own.iload 160 X103 hx (hb hby at_158) rfl rfl ?_
            refine Own.iconst 161 X103 hx ((1 : Int32)) (hb hby at_160) rfl rfl ?_
            refine Own.isub 162 X103 hx (hb hby at_161) rfl (show ((1 : Int32) - (1 : Int32)) = (0 : Int32) by decide) ?_
            refine Own.iastore 163 X103 hx hZ e103 V103 (by decide) (Nat.le_of_ble_eq_true rfl) (hb hby at_162) rfl ?_
            intro T173 h173 X173 e173 W173 A173
            have N173 := Fr.snoc X173 N29 g_sl
            have Ef_175 := Ef_105.wr W173
            have Ef_176 := Ef_106.wr W173
            have Of_177 := Of_107.wr W173
            have Of_178 := Of_108.wr W173
            have Of_179 := Of_109.wr W173
            have Vf_180 := Vf_110.other W173 ne_bs_sl
            have Vf_181 := Vf_111.other W173 ne_cn_sl
            have O173 := O103.wr W173 g_sl
            have zl173 := Nat.le_trans zl103 (Nat.le_of_eq W173.size.symm)
            have V173 : Arv Z h173 sl k103 .int (1 : Int32) [(.int (0 : Int32))] (.int (0 : Int32)) := A173
            refine Own.iload 165 X173 hx (hb hby at_163) rfl rfl ?_
            refine Own.iconst 166 X173 hx ((2 : Int32)) (hb hby at_165) rfl rfl ?_
            refine Own.icmp_lt 196 169 X173 hx (hb hby at_166) (by decide) rfl (fun tk => ?_) (fun tk => absurd tk (by decide))
            refine Own.newObj 199 X173 hx hZ hown (w 37 rfl) (w 38 rfl) (w 39 rfl) e173 (hb hby at_196) rfl (by decide) (by decide) ?_
            intro T183 h183 p' z183 X183 e183 E183 A183 D183
            have ne_bs_p' : bs ≠ p' := Nat.ne_of_lt (Nat.lt_of_lt_of_le Vf_180.lt (Nat.le_of_eq z183.symm))
            have ne_cn_p' : cn ≠ p' := Nat.ne_of_lt (Nat.lt_of_lt_of_le Vf_181.lt (Nat.le_of_eq z183.symm))
            have ne_k0_p' : k0 ≠ p' := Nat.ne_of_lt (Nat.lt_of_lt_of_le Ef_175.lt (Nat.le_of_eq z183.symm))
            have ne_k1_p' : k1 ≠ p' := Nat.ne_of_lt (Nat.lt_of_lt_of_le Ef_176.lt (Nat.le_of_eq z183.symm))
            have ne_sl_p' : sl ≠ p' := Nat.ne_of_lt (Nat.lt_of_lt_of_le V173.lt (Nat.le_of_eq z183.symm))
            have g_p' : n0 ≤ p' := Nat.le_trans zl173 (Nat.le_of_eq z183.symm)
            have Ef_185 := Ef_175.ext E183
            have Ef_186 := Ef_176.ext E183
            have Of_187 := Of_177.ext E183
            have Of_188 := Of_178.ext E183
            have Of_189 := Of_179.ext E183
            have Vf_190 := Vf_180.ext E183
            have Vf_191 := Vf_181.ext E183
            have Vf_192 := V173.ext E183
            have O183 := O173.ext E183
            have zl183 := Nat.le_trans zl173 E183.1
            have F183_name : Fld Z h183 p' "com/example/skuld/skuld/htn/Pattern" "name" "Ljava/lang/String;" .null := D183 (Or.inr (w 48 rfl)) (ty := (.object "java/lang/String")) (by decide)
            have F183_constants : Fld Z h183 p' "com/example/skuld/skuld/htn/Pattern" "constants" "[Ljava/lang/String;" .null := D183 (Or.inr (w 50 rfl)) (ty := (.array (.object "java/lang/String"))) (by decide)
            have F183_slots : Fld Z h183 p' "com/example/skuld/skuld/htn/Pattern" "slots" "[I" .null := D183 (Or.inr (w 52 rfl)) (ty := (.array .int)) (by decide)
            have F183_line : Fld Z h183 p' "com/example/skuld/skuld/htn/Pattern" "line" "I" (.int (0 : Int32)) := D183 (Or.inr (w 54 rfl)) (ty := .int) (by decide)
            refine Own.dup 200 X183 hx (hb hby at_199) rfl rfl ?_
            refine Own.ldcStr 202 4 X183 hx hZ hown (w 40 rfl) hSA e183 (hb hby at_200) rfl (by decide) (by decide) (by decide) (by decide) ?_
            intro lt T193 h193 X193 e193 E193 hZ hown
            have Ef_195 := Ef_185.ext E193
            have Ef_196 := Ef_186.ext E193
            have Of_197 := Of_187.ext E193
            have Of_198 := Of_188.ext E193
            have Of_199 := Of_189.ext E193
            have Vf_200 := Vf_190.ext E193
            have Vf_201 := Vf_191.ext E193
            have Vf_202 := Vf_192.ext E193
            have Ef_203 := A183.ext E193
            have Ff_204 := F183_name.ext E193
            have Ff_205 := F183_constants.ext E193
            have Ff_206 := F183_slots.ext E193
            have Ff_207 := F183_line.ext E193
            have O193 := O183.ext E193
            have zl193 := Nat.le_trans zl183 E193.1
            have zk193 := Nat.le_refl h193.size
            refine Own.aload 204 X193 hx (hb hby at_202) rfl rfl rfl ?_
            refine Own.aload 206 X193 hx (hb hby at_204) rfl rfl rfl ?_
            refine Own.iloadN 207 X193 hx (hb hby at_206) rfl rfl ?_
            refine Own.callInit 210 1 p' [(.ref lt), (.ref cn), (.ref sl), (.int x2)] [(.ref p')] X193 hx hZ hown (m8 l Z a0 w p' lt cn sl x2 _ _ _ _ n0 h193 zl193 Ef_203 Ff_204 Ff_205 Ff_206 Ff_207 g_p') rfl (w 43 rfl) (w 44 rfl) (w 39 rfl) (w 45 rfl) (by decide) e193 (by decide) (by decide) (by decide) (by decide) (by rw [hml]; rfl) (lenOf pd_2 rfl) rfl (Nat.le_of_eq rfl) (hb hby at_207) rfl ?_
            rintro vv T208 L208 X208 ⟨rfl, N208q, K208, Fs208, Fc208⟩
            have N208 := Fr.app N173 N208q
            have O208 := O193.keep K208 (allS g_p' all0)
            have Ef_210 := Ef_195.keep K208
            have Ef_211 := Ef_196.keep K208
            have Of_212 := Of_197.keep K208
            have Of_213 := Of_198.keep K208
            have Of_214 := Of_199.keep K208
            have Vf_215 := Vf_200.keep K208 (ninS ne_bs_p' nin0)
            have Vf_216 := Vf_201.keep K208 (ninS ne_cn_p' nin0)
            have Vf_217 := Vf_202.keep K208 (ninS ne_sl_p' nin0)
            have Ef_218 := Ef_203.keep K208
            have zl208 := Nat.le_trans zl193 K208.1
            have zk208 := Nat.le_trans zk193 K208.1
            refine Own.astore 212 #[.val (.int x0), .val (.int x1), .val (.int x2), .val (.int x3), .val (.int (1 : Int32)), .val (.int (1 : Int32)), .val (.int v6_18), .val (.ref k0), .val (.ref k1), .val b0, .val b1, .val b2, .val (.ref bs), .val (.ref cn), .val (.ref sl), .val (.ref p'), .unset, .unset] X208 hx (hb hby at_210) rfl rfl rfl ?_
            refine Own.aload 214 X208 hx (hb hby at_212) rfl rfl rfl ?_
            refine Own.aload 216 X208 hx (hb hby at_214) rfl rfl rfl ?_
            refine Own.callVt 219 0 p' [(.ref bs)] [] X208 hx hZ hown (m9_1_0 l Z a0 w p' bs sl cn k103 k95 k6  .null b0 b1 b2 _ Fs208 Fc208 Vf_217 Vf_216 Vf_215 (Or.inl rfl) Of_212 Of_213 Of_214) Ef_218 (notFace_of_selects (args := #[]) (mvT hZ (w 58 rfl))) (w 55 rfl) (w 56 rfl) (w 58 rfl) (w 57 rfl) (w 39 rfl) (w 59 rfl) (by decide) rfl (by decide) (by decide) (by decide) (by decide) (by rw [hml]; rfl) (lenOf pd_3 rfl) rfl (Nat.le_of_eq rfl) (hb hby at_216) rfl ?_
            rintro vv T223 L223 X223 ⟨rfl, hh223, rfl⟩
            have N223 := Fr.app N208 (Fr.nil _)
            refine Own.astoreV 221 #[.val (.int x0), .val (.int x1), .val (.int x2), .val (.int x3), .val (.int (1 : Int32)), .val (.int (1 : Int32)), .val (.int v6_18), .val (.ref k0), .val (.ref k1), .val b0, .val b1, .val b2, .val (.ref bs), .val (.ref cn), .val (.ref sl), .val (.ref p'), .val b0, .unset] X223 hx (hb hby at_219) rfl Of_212.isRef rfl One.u rfl ?_
            refine Own.iload 223 X223 hx (hb hby at_221) rfl rfl ?_
            refine Own.if_ne 232 226 X223 hx (hb hby at_223) (by decide) rfl (fun tk => ?_) (fun tk => absurd tk (by decide))
            refine Own.iload 234 X223 hx (hb hby at_232) rfl rfl ?_
            refine Own.if_ne 244 237 X223 hx (hb hby at_234) (by decide) rfl (fun tk => ?_) (fun tk => absurd tk (by decide))
            refine Own.iload 246 X223 hx (hb hby at_244) rfl rfl ?_
            refine Own.iconst 247 X223 hx ((1 : Int32)) (hb hby at_246) rfl rfl ?_
            refine Own.icmp_ne 257 250 X223 hx (hb hby at_247) (by decide) rfl (fun tk => absurd tk (by decide)) (fun tk => ?_)
            refine Own.aload 252 X223 hx (hb hby at_250) rfl rfl Of_212.isRef ?_
            refine Own.astoreV 254 #[.val (.int x0), .val (.int x1), .val (.int x2), .val (.int x3), .val (.int (1 : Int32)), .val (.int (1 : Int32)), .val (.int v6_18), .val (.ref k0), .val (.ref k1), .val b0, .val b1, .val b2, .val (.ref bs), .val (.ref cn), .val (.ref sl), .val (.ref p'), .val b0, .val b0] X223 hx (hb hby at_252) rfl Of_212.isRef rfl One.u rfl ?_
            refine Own.goto 274 X223 hx (hb hby at_254) (by decide) ?_
            refine Own.aload 276 X223 hx (hb hby at_274) rfl rfl Of_212.isRef ?_
            refine Own.aload 278 X223 hx (hb hby at_276) rfl rfl Of_212.isRef ?_
            refine Own.acmp_ne 285 281 X223 hx (hb hby at_278) Of_212.isRef Of_212.isRef (by decide) rfl (fun q => ?_) (fun q => ?_)
            ·
              exact absurd rfl q
            ·
              refine Own.iconst 282 X223 hx ((1 : Int32)) (hb hby at_281) rfl rfl ?_
              refine Own.goto 286 X223 hx (hb hby at_282) (by decide) ?_
              refine Own.retBool X223 hx hlk hret (hb hby at_286) (by decide) (by decide) ?_
              exact ⟨⟨rfl, N223⟩, by rw [hh223]; exact zk208⟩
          ·
            refine Own.if_ne 155 141 X103 hx (hb hby at_138) (by decide) rfl (fun tk => ?_) (fun tk => absurd tk (by decide))
            refine Own.aload 157 X103 hx (hb hby at_155) rfl rfl rfl ?_
            refine Own.iconst 158 X103 hx ((0 : Int32)) (hb hby at_157) rfl rfl ?_
            refine Own.iload 160 X103 hx (hb hby at_158) rfl rfl ?_
            refine Own.iconst 161 X103 hx ((1 : Int32)) (hb hby at_160) rfl rfl ?_
            refine Own.isub 162 X103 hx (hb hby at_161) rfl (show ((2 : Int32) - (1 : Int32)) = (1 : Int32) by decide) ?_
            refine Own.iastore 163 X103 hx hZ e103 V103 (by decide) (Nat.le_of_ble_eq_true rfl) (hb hby at_162) rfl ?_
            intro T224 h224 X224 e224 W224 A224
            have N224 := Fr.snoc X224 N29 g_sl
            have Ef_226 := Ef_105.wr W224
            have Ef_227 := Ef_106.wr W224
            have Of_228 := Of_107.wr W224
            have Of_229 := Of_108.wr W224
            have Of_230 := Of_109.wr W224
            have Vf_231 := Vf_110.other W224 ne_bs_sl
            have Vf_232 := Vf_111.other W224 ne_cn_sl
            have O224 := O103.wr W224 g_sl
            have zl224 := Nat.le_trans zl103 (Nat.le_of_eq W224.size.symm)
            have V224 : Arv Z h224 sl k103 .int (1 : Int32) [(.int (1 : Int32))] (.int (0 : Int32)) := A224
            refine Own.iload 165 X224 hx (hb hby at_163) rfl rfl ?_
            refine Own.iconst 166 X224 hx ((2 : Int32)) (hb hby at_165) rfl rfl ?_
            refine Own.icmp_lt 196 169 X224 hx (hb hby at_166) (by decide) rfl (fun tk => ?_) (fun tk => absurd tk (by decide))
            refine Own.newObj 199 X224 hx hZ hown (w 37 rfl) (w 38 rfl) (w 39 rfl) e224 (hb hby at_196) rfl (by decide) (by decide) ?_
            intro T234 h234 p' z234 X234 e234 E234 A234 D234
            have ne_bs_p' : bs ≠ p' := Nat.ne_of_lt (Nat.lt_of_lt_of_le Vf_231.lt (Nat.le_of_eq z234.symm))
            have ne_cn_p' : cn ≠ p' := Nat.ne_of_lt (Nat.lt_of_lt_of_le Vf_232.lt (Nat.le_of_eq z234.symm))
            have ne_k0_p' : k0 ≠ p' := Nat.ne_of_lt (Nat.lt_of_lt_of_le Ef_226.lt (Nat.le_of_eq z234.symm))
            have ne_k1_p' : k1 ≠ p' := Nat.ne_of_lt (Nat.lt_of_lt_of_le Ef_227.lt (Nat.le_of_eq z234.symm))
            have ne_sl_p' : sl ≠ p' := Nat.ne_of_lt (Nat.lt_of_lt_of_le V224.lt (Nat.le_of_eq z234.symm))
            have g_p' : n0 ≤ p' := Nat.le_trans zl224 (Nat.le_of_eq z234.symm)
            have Ef_236 := Ef_226.ext E234
            have Ef_237 := Ef_227.ext E234
            have Of_238 := Of_228.ext E234
            have Of_239 := Of_229.ext E234
            have Of_240 := Of_230.ext E234
            have Vf_241 := Vf_231.ext E234
            have Vf_242 := Vf_232.ext E234
            have Vf_243 := V224.ext E234
            have O234 := O224.ext E234
            have zl234 := Nat.le_trans zl224 E234.1
            have F234_name : Fld Z h234 p' "com/example/skuld/skuld/htn/Pattern" "name" "Ljava/lang/String;" .null := D234 (Or.inr (w 48 rfl)) (ty := (.object "java/lang/String")) (by decide)
            have F234_constants : Fld Z h234 p' "com/example/skuld/skuld/htn/Pattern" "constants" "[Ljava/lang/String;" .null := D234 (Or.inr (w 50 rfl)) (ty := (.array (.object "java/lang/String"))) (by decide)
            have F234_slots : Fld Z h234 p' "com/example/skuld/skuld/htn/Pattern" "slots" "[I" .null := D234 (Or.inr (w 52 rfl)) (ty := (.array .int)) (by decide)
            have F234_line : Fld Z h234 p' "com/example/skuld/skuld/htn/Pattern" "line" "I" (.int (0 : Int32)) := D234 (Or.inr (w 54 rfl)) (ty := .int) (by decide)
            refine Own.dup 200 X234 hx (hb hby at_199) rfl rfl ?_
            refine Own.ldcStr 202 4 X234 hx hZ hown (w 40 rfl) hSA e234 (hb hby at_200) rfl (by decide) (by decide) (by decide) (by decide) ?_
            intro lt T244 h244 X244 e244 E244 hZ hown
            have Ef_246 := Ef_236.ext E244
            have Ef_247 := Ef_237.ext E244
            have Of_248 := Of_238.ext E244
            have Of_249 := Of_239.ext E244
            have Of_250 := Of_240.ext E244
            have Vf_251 := Vf_241.ext E244
            have Vf_252 := Vf_242.ext E244
            have Vf_253 := Vf_243.ext E244
            have Ef_254 := A234.ext E244
            have Ff_255 := F234_name.ext E244
            have Ff_256 := F234_constants.ext E244
            have Ff_257 := F234_slots.ext E244
            have Ff_258 := F234_line.ext E244
            have O244 := O234.ext E244
            have zl244 := Nat.le_trans zl234 E244.1
            have zk244 := Nat.le_refl h244.size
            refine Own.aload 204 X244 hx (hb hby at_202) rfl rfl rfl ?_
            refine Own.aload 206 X244 hx (hb hby at_204) rfl rfl rfl ?_
            refine Own.iloadN 207 X244 hx (hb hby at_206) rfl rfl ?_
            refine Own.callInit 210 1 p' [(.ref lt), (.ref cn), (.ref sl), (.int x2)] [(.ref p')] X244 hx hZ hown (m8 l Z a0 w p' lt cn sl x2 _ _ _ _ n0 h244 zl244 Ef_254 Ff_255 Ff_256 Ff_257 Ff_258 g_p') rfl (w 43 rfl) (w 44 rfl) (w 39 rfl) (w 45 rfl) (by decide) e244 (by decide) (by decide) (by decide) (by decide) (by rw [hml]; rfl) (lenOf pd_2 rfl) rfl (Nat.le_of_eq rfl) (hb hby at_207) rfl ?_
            rintro vv T259 L259 X259 ⟨rfl, N259q, K259, Fs259, Fc259⟩
            have N259 := Fr.app N224 N259q
            have O259 := O244.keep K259 (allS g_p' all0)
            have Ef_261 := Ef_246.keep K259
            have Ef_262 := Ef_247.keep K259
            have Of_263 := Of_248.keep K259
            have Of_264 := Of_249.keep K259
            have Of_265 := Of_250.keep K259
            have Vf_266 := Vf_251.keep K259 (ninS ne_bs_p' nin0)
            have Vf_267 := Vf_252.keep K259 (ninS ne_cn_p' nin0)
            have Vf_268 := Vf_253.keep K259 (ninS ne_sl_p' nin0)
            have Ef_269 := Ef_254.keep K259
            have zl259 := Nat.le_trans zl244 K259.1
            have zk259 := Nat.le_trans zk244 K259.1
            refine Own.astore 212 #[.val (.int x0), .val (.int x1), .val (.int x2), .val (.int x3), .val (.int (1 : Int32)), .val (.int (2 : Int32)), .val (.int v6_18), .val (.ref k0), .val (.ref k1), .val b0, .val b1, .val b2, .val (.ref bs), .val (.ref cn), .val (.ref sl), .val (.ref p'), .unset, .unset] X259 hx (hb hby at_210) rfl rfl rfl ?_
            refine Own.aload 214 X259 hx (hb hby at_212) rfl rfl rfl ?_
            refine Own.aload 216 X259 hx (hb hby at_214) rfl rfl rfl ?_
            refine Own.callVt 219 0 p' [(.ref bs)] [] X259 hx hZ hown (m9_1_1 l Z a0 w p' bs sl cn k103 k95 k6  .null b0 b1 b2 _ Fs259 Fc259 Vf_268 Vf_267 Vf_266 (Or.inl rfl) Of_263 Of_264 Of_265) Ef_269 (notFace_of_selects (args := #[]) (mvT hZ (w 58 rfl))) (w 55 rfl) (w 56 rfl) (w 58 rfl) (w 57 rfl) (w 39 rfl) (w 59 rfl) (by decide) rfl (by decide) (by decide) (by decide) (by decide) (by rw [hml]; rfl) (lenOf pd_3 rfl) rfl (Nat.le_of_eq rfl) (hb hby at_216) rfl ?_
            rintro vv T274 L274 X274 ⟨rfl, hh274, rfl⟩
            have N274 := Fr.app N259 (Fr.nil _)
            refine Own.astoreV 221 #[.val (.int x0), .val (.int x1), .val (.int x2), .val (.int x3), .val (.int (1 : Int32)), .val (.int (2 : Int32)), .val (.int v6_18), .val (.ref k0), .val (.ref k1), .val b0, .val b1, .val b2, .val (.ref bs), .val (.ref cn), .val (.ref sl), .val (.ref p'), .val b1, .unset] X274 hx (hb hby at_219) rfl Of_264.isRef rfl One.u rfl ?_
            refine Own.iload 223 X274 hx (hb hby at_221) rfl rfl ?_
            refine Own.if_ne 232 226 X274 hx (hb hby at_223) (by decide) rfl (fun tk => ?_) (fun tk => absurd tk (by decide))
            refine Own.iload 234 X274 hx (hb hby at_232) rfl rfl ?_
            refine Own.if_ne 244 237 X274 hx (hb hby at_234) (by decide) rfl (fun tk => ?_) (fun tk => absurd tk (by decide))
            refine Own.iload 246 X274 hx (hb hby at_244) rfl rfl ?_
            refine Own.iconst 247 X274 hx ((1 : Int32)) (hb hby at_246) rfl rfl ?_
            refine Own.icmp_ne 257 250 X274 hx (hb hby at_247) (by decide) rfl (fun tk => ?_) (fun tk => absurd tk (by decide))
            refine Own.iload 259 X274 hx (hb hby at_257) rfl rfl ?_
            refine Own.iconst 260 X274 hx ((2 : Int32)) (hb hby at_259) rfl rfl ?_
            refine Own.icmp_ne 270 263 X274 hx (hb hby at_260) (by decide) rfl (fun tk => absurd tk (by decide)) (fun tk => ?_)
            refine Own.aload 265 X274 hx (hb hby at_263) rfl rfl Of_264.isRef ?_
            refine Own.astoreV 267 #[.val (.int x0), .val (.int x1), .val (.int x2), .val (.int x3), .val (.int (1 : Int32)), .val (.int (2 : Int32)), .val (.int v6_18), .val (.ref k0), .val (.ref k1), .val b0, .val b1, .val b2, .val (.ref bs), .val (.ref cn), .val (.ref sl), .val (.ref p'), .val b1, .val b1] X274 hx (hb hby at_265) rfl Of_264.isRef rfl One.u rfl ?_
            refine Own.goto 274 X274 hx (hb hby at_267) (by decide) ?_
            refine Own.aload 276 X274 hx (hb hby at_274) rfl rfl Of_264.isRef ?_
            refine Own.aload 278 X274 hx (hb hby at_276) rfl rfl Of_264.isRef ?_
            refine Own.acmp_ne 285 281 X274 hx (hb hby at_278) Of_264.isRef Of_264.isRef (by decide) rfl (fun q => ?_) (fun q => ?_)
            ·
              exact absurd rfl q
            ·
              refine Own.iconst 282 X274 hx ((1 : Int32)) (hb hby at_281) rfl rfl ?_
              refine Own.goto 286 X274 hx (hb hby at_282) (by decide) ?_
              refine Own.retBool X274 hx hlk hret (hb hby at_286) (by decide) (by decide) ?_
              exact ⟨⟨rfl, N274⟩, by rw [hh274]; exact zk259⟩
          ·
            refine Own.if_ne 155 141 X103 hx (hb hby at_138) (by decide) rfl (fun tk => ?_) (fun tk => absurd tk (by decide))
            refine Own.aload 157 X103 hx (hb hby at_155) rfl rfl rfl ?_
            refine Own.iconst 158 X103 hx ((0 : Int32)) (hb hby at_157) rfl rfl ?_
            refine Own.iload 160 X103 hx (hb hby at_158) rfl rfl ?_
            refine Own.iconst 161 X103 hx ((1 : Int32)) (hb hby at_160) rfl rfl ?_
            refine Own.isub 162 X103 hx (hb hby at_161) rfl (show ((3 : Int32) - (1 : Int32)) = (2 : Int32) by decide) ?_
            refine Own.iastore 163 X103 hx hZ e103 V103 (by decide) (Nat.le_of_ble_eq_true rfl) (hb hby at_162) rfl ?_
            intro T275 h275 X275 e275 W275 A275
            have N275 := Fr.snoc X275 N29 g_sl
            have Ef_277 := Ef_105.wr W275
            have Ef_278 := Ef_106.wr W275
            have Of_279 := Of_107.wr W275
            have Of_280 := Of_108.wr W275
            have Of_281 := Of_109.wr W275
            have Vf_282 := Vf_110.other W275 ne_bs_sl
            have Vf_283 := Vf_111.other W275 ne_cn_sl
            have O275 := O103.wr W275 g_sl
            have zl275 := Nat.le_trans zl103 (Nat.le_of_eq W275.size.symm)
            have V275 : Arv Z h275 sl k103 .int (1 : Int32) [(.int (2 : Int32))] (.int (0 : Int32)) := A275
            refine Own.iload 165 X275 hx (hb hby at_163) rfl rfl ?_
            refine Own.iconst 166 X275 hx ((2 : Int32)) (hb hby at_165) rfl rfl ?_
            refine Own.icmp_lt 196 169 X275 hx (hb hby at_166) (by decide) rfl (fun tk => ?_) (fun tk => absurd tk (by decide))
            refine Own.newObj 199 X275 hx hZ hown (w 37 rfl) (w 38 rfl) (w 39 rfl) e275 (hb hby at_196) rfl (by decide) (by decide) ?_
            intro T285 h285 p' z285 X285 e285 E285 A285 D285
            have ne_bs_p' : bs ≠ p' := Nat.ne_of_lt (Nat.lt_of_lt_of_le Vf_282.lt (Nat.le_of_eq z285.symm))
            have ne_cn_p' : cn ≠ p' := Nat.ne_of_lt (Nat.lt_of_lt_of_le Vf_283.lt (Nat.le_of_eq z285.symm))
            have ne_k0_p' : k0 ≠ p' := Nat.ne_of_lt (Nat.lt_of_lt_of_le Ef_277.lt (Nat.le_of_eq z285.symm))
            have ne_k1_p' : k1 ≠ p' := Nat.ne_of_lt (Nat.lt_of_lt_of_le Ef_278.lt (Nat.le_of_eq z285.symm))
            have ne_sl_p' : sl ≠ p' := Nat.ne_of_lt (Nat.lt_of_lt_of_le V275.lt (Nat.le_of_eq z285.symm))
            have g_p' : n0 ≤ p' := Nat.le_trans zl275 (Nat.le_of_eq z285.symm)
            have Ef_287 := Ef_277.ext E285
            have Ef_288 := Ef_278.ext E285
            have Of_289 := Of_279.ext E285
            have Of_290 := Of_280.ext E285
            have Of_291 := Of_281.ext E285
            have Vf_292 := Vf_282.ext E285
            have Vf_293 := Vf_283.ext E285
            have Vf_294 := V275.ext E285
            have O285 := O275.ext E285
            have zl285 := Nat.le_trans zl275 E285.1
            have F285_name : Fld Z h285 p' "com/example/skuld/skuld/htn/Pattern" "name" "Ljava/lang/String;" .null := D285 (Or.inr (w 48 rfl)) (ty := (.object "java/lang/String")) (by decide)
            have F285_constants : Fld Z h285 p' "com/example/skuld/skuld/htn/Pattern" "constants" "[Ljava/lang/String;" .null := D285 (Or.inr (w 50 rfl)) (ty := (.array (.object "java/lang/String"))) (by decide)
            have F285_slots : Fld Z h285 p' "com/example/skuld/skuld/htn/Pattern" "slots" "[I" .null := D285 (Or.inr (w 52 rfl)) (ty := (.array .int)) (by decide)
            have F285_line : Fld Z h285 p' "com/example/skuld/skuld/htn/Pattern" "line" "I" (.int (0 : Int32)) := D285 (Or.inr (w 54 rfl)) (ty := .int) (by decide)
            refine Own.dup 200 X285 hx (hb hby at_199) rfl rfl ?_
            refine Own.ldcStr 202 4 X285 hx hZ hown (w 40 rfl) hSA e285 (hb hby at_200) rfl (by decide) (by decide) (by decide) (by decide) ?_
            intro lt T295 h295 X295 e295 E295 hZ hown
            have Ef_297 := Ef_287.ext E295
            have Ef_298 := Ef_288.ext E295
            have Of_299 := Of_289.ext E295
            have Of_300 := Of_290.ext E295
            have Of_301 := Of_291.ext E295
            have Vf_302 := Vf_292.ext E295
            have Vf_303 := Vf_293.ext E295
            have Vf_304 := Vf_294.ext E295
            have Ef_305 := A285.ext E295
            have Ff_306 := F285_name.ext E295
            have Ff_307 := F285_constants.ext E295
            have Ff_308 := F285_slots.ext E295
            have Ff_309 := F285_line.ext E295
            have O295 := O285.ext E295
            have zl295 := Nat.le_trans zl285 E295.1
            have zk295 := Nat.le_refl h295.size
            refine Own.aload 204 X295 hx (hb hby at_202) rfl rfl rfl ?_
            refine Own.aload 206 X295 hx (hb hby at_204) rfl rfl rfl ?_
            refine Own.iloadN 207 X295 hx (hb hby at_206) rfl rfl ?_
            refine Own.callInit 210 1 p' [(.ref lt), (.ref cn), (.ref sl), (.int x2)] [(.ref p')] X295 hx hZ hown (m8 l Z a0 w p' lt cn sl x2 _ _ _ _ n0 h295 zl295 Ef_305 Ff_306 Ff_307 Ff_308 Ff_309 g_p') rfl (w 43 rfl) (w 44 rfl) (w 39 rfl) (w 45 rfl) (by decide) e295 (by decide) (by decide) (by decide) (by decide) (by rw [hml]; rfl) (lenOf pd_2 rfl) rfl (Nat.le_of_eq rfl) (hb hby at_207) rfl ?_
            rintro vv T310 L310 X310 ⟨rfl, N310q, K310, Fs310, Fc310⟩
            have N310 := Fr.app N275 N310q
            have O310 := O295.keep K310 (allS g_p' all0)
            have Ef_312 := Ef_297.keep K310
            have Ef_313 := Ef_298.keep K310
            have Of_314 := Of_299.keep K310
            have Of_315 := Of_300.keep K310
            have Of_316 := Of_301.keep K310
            have Vf_317 := Vf_302.keep K310 (ninS ne_bs_p' nin0)
            have Vf_318 := Vf_303.keep K310 (ninS ne_cn_p' nin0)
            have Vf_319 := Vf_304.keep K310 (ninS ne_sl_p' nin0)
            have Ef_320 := Ef_305.keep K310
            have zl310 := Nat.le_trans zl295 K310.1
            have zk310 := Nat.le_trans zk295 K310.1
            refine Own.astore 212 #[.val (.int x0), .val (.int x1), .val (.int x2), .val (.int x3), .val (.int (1 : Int32)), .val (.int (3 : Int32)), .val (.int v6_18), .val (.ref k0), .val (.ref k1), .val b0, .val b1, .val b2, .val (.ref bs), .val (.ref cn), .val (.ref sl), .val (.ref p'), .unset, .unset] X310 hx (hb hby at_210) rfl rfl rfl ?_
            refine Own.aload 214 X310 hx (hb hby at_212) rfl rfl rfl ?_
            refine Own.aload 216 X310 hx (hb hby at_214) rfl rfl rfl ?_
            refine Own.callVt 219 0 p' [(.ref bs)] [] X310 hx hZ hown (m9_1_2 l Z a0 w p' bs sl cn k103 k95 k6  .null b0 b1 b2 _ Fs310 Fc310 Vf_319 Vf_318 Vf_317 (Or.inl rfl) Of_314 Of_315 Of_316) Ef_320 (notFace_of_selects (args := #[]) (mvT hZ (w 58 rfl))) (w 55 rfl) (w 56 rfl) (w 58 rfl) (w 57 rfl) (w 39 rfl) (w 59 rfl) (by decide) rfl (by decide) (by decide) (by decide) (by decide) (by rw [hml]; rfl) (lenOf pd_3 rfl) rfl (Nat.le_of_eq rfl) (hb hby at_216) rfl ?_
            rintro vv T325 L325 X325 ⟨rfl, hh325, rfl⟩
            have N325 := Fr.app N310 (Fr.nil _)
            refine Own.astoreV 221 #[.val (.int x0), .val (.int x1), .val (.int x2), .val (.int x3), .val (.int (1 : Int32)), .val (.int (3 : Int32)), .val (.int v6_18), .val (.ref k0), .val (.ref k1), .val b0, .val b1, .val b2, .val (.ref bs), .val (.ref cn), .val (.ref sl), .val (.ref p'), .val b2, .unset] X325 hx (hb hby at_219) rfl Of_316.isRef rfl One.u rfl ?_
            refine Own.iload 223 X325 hx (hb hby at_221) rfl rfl ?_
            refine Own.if_ne 232 226 X325 hx (hb hby at_223) (by decide) rfl (fun tk => ?_) (fun tk => absurd tk (by decide))
            refine Own.iload 234 X325 hx (hb hby at_232) rfl rfl ?_
            refine Own.if_ne 244 237 X325 hx (hb hby at_234) (by decide) rfl (fun tk => ?_) (fun tk => absurd tk (by decide))
            refine Own.iload 246 X325 hx (hb hby at_244) rfl rfl ?_
            refine Own.iconst 247 X325 hx ((1 : Int32)) (hb hby at_246) rfl rfl ?_
            refine Own.icmp_ne 257 250 X325 hx (hb hby at_247) (by decide) rfl (fun tk => ?_) (fun tk => absurd tk (by decide))
            refine Own.iload 259 X325 hx (hb hby at_257) rfl rfl ?_
            refine Own.iconst 260 X325 hx ((2 : Int32)) (hb hby at_259) rfl rfl ?_
            refine Own.icmp_ne 270 263 X325 hx (hb hby at_260) (by decide) rfl (fun tk => ?_) (fun tk => absurd tk (by decide))
            refine Own.aload 272 X325 hx (hb hby at_270) rfl rfl Of_316.isRef ?_
            refine Own.astoreV 274 #[.val (.int x0), .val (.int x1), .val (.int x2), .val (.int x3), .val (.int (1 : Int32)), .val (.int (3 : Int32)), .val (.int v6_18), .val (.ref k0), .val (.ref k1), .val b0, .val b1, .val b2, .val (.ref bs), .val (.ref cn), .val (.ref sl), .val (.ref p'), .val b2, .val b2] X325 hx (hb hby at_272) rfl Of_316.isRef rfl One.u rfl ?_
            refine Own.aload 276 X325 hx (hb hby at_274) rfl rfl Of_316.isRef ?_
            refine Own.aload 278 X325 hx (hb hby at_276) rfl rfl Of_316.isRef ?_
            refine Own.acmp_ne 285 281 X325 hx (hb hby at_278) Of_316.isRef Of_316.isRef (by decide) rfl (fun q => ?_) (fun q => ?_)
            ·
              exact absurd rfl q
            ·
              refine Own.iconst 282 X325 hx ((1 : Int32)) (hb hby at_281) rfl rfl ?_
              refine Own.goto 286 X325 hx (hb hby at_282) (by decide) ?_
              refine Own.retBool X325 hx hlk hret (hb hby at_286) (by decide) (by decide) ?_
              exact ⟨⟨rfl, N325⟩, by rw [hh325]; exact zk310⟩
        ·
          refine Own.newRefArr 122 2 X29 hx hZ hown (w 5 rfl) (w 35 rfl) e29 (by decide) (by decide) (by decide) (hb hby at_119) rfl (by decide) (by decide) ?_
          intro T326 h326 cn k326 z326 X326 e326 E326 A326 Ov326
          have ne_bs_cn : bs ≠ cn := Nat.ne_of_lt (Nat.lt_of_lt_of_le V29.lt (Nat.le_of_eq z326.symm))
          have ne_k0_cn : k0 ≠ cn := Nat.ne_of_lt (Nat.lt_of_lt_of_le Ef_31.lt (Nat.le_of_eq z326.symm))
          have ne_k1_cn : k1 ≠ cn := Nat.ne_of_lt (Nat.lt_of_lt_of_le Ef_32.lt (Nat.le_of_eq z326.symm))
          have g_cn : n0 ≤ cn := Nat.le_trans zl29 (Nat.le_of_eq z326.symm)
          have Ef_328 := Ef_31.ext E326
          have Ef_329 := Ef_32.ext E326
          have Of_330 := Of_33.ext E326
          have Of_331 := Of_34.ext E326
          have Of_332 := Of_35.ext E326
          have Vf_333 := V29.ext E326
          have O326 := O29.ext E326
          have zl326 := Nat.le_trans zl29 E326.1
          have V326 : Arv Z h326 cn k326 (.object "java/lang/String") (2 : Int32) [.null, .null] .null := A326
          refine Own.astore 124 #[.val (.int x0), .val (.int x1), .val (.int x2), .val (.int x3), .val (.int (2 : Int32)), .val (.int v5_11), .val (.int v6_18), .val (.ref k0), .val (.ref k1), .val b0, .val b1, .val b2, .val (.ref bs), .val (.ref cn), .unset, .unset, .unset, .unset] X326 hx (hb hby at_122) rfl rfl rfl ?_
          refine Own.iload 126 X326 hx (hb hby at_124) rfl rfl ?_
          refine Own.newArr 128 2 X326 hx hZ (w 36 rfl) e326 (by decide) (by decide) (by decide) (hb hby at_126) rfl (by decide) (by decide) ?_
          intro T334 h334 sl k334 z334 X334 e334 E334 A334
          have ne_bs_sl : bs ≠ sl := Nat.ne_of_lt (Nat.lt_of_lt_of_le Vf_333.lt (Nat.le_of_eq z334.symm))
          have ne_cn_sl : cn ≠ sl := Nat.ne_of_lt (Nat.lt_of_lt_of_le V326.lt (Nat.le_of_eq z334.symm))
          have ne_k0_sl : k0 ≠ sl := Nat.ne_of_lt (Nat.lt_of_lt_of_le Ef_328.lt (Nat.le_of_eq z334.symm))
          have ne_k1_sl : k1 ≠ sl := Nat.ne_of_lt (Nat.lt_of_lt_of_le Ef_329.lt (Nat.le_of_eq z334.symm))
          have g_sl : n0 ≤ sl := Nat.le_trans zl326 (Nat.le_of_eq z334.symm)
          have Ef_336 := Ef_328.ext E334
          have Ef_337 := Ef_329.ext E334
          have Of_338 := Of_330.ext E334
          have Of_339 := Of_331.ext E334
          have Of_340 := Of_332.ext E334
          have Vf_341 := Vf_333.ext E334
          have Vf_342 := V326.ext E334
          have O334 := O326.ext E334
          have zl334 := Nat.le_trans zl326 E334.1
          have V334 : Arv Z h334 sl k334 .int (2 : Int32) [(.int (0 : Int32)), (.int (0 : Int32))] (.int (0 : Int32)) := A334
          refine Own.astore 130 #[.val (.int x0), .val (.int x1), .val (.int x2), .val (.int x3), .val (.int (2 : Int32)), .val (.int v5_11), .val (.int v6_18), .val (.ref k0), .val (.ref k1), .val b0, .val b1, .val b2, .val (.ref bs), .val (.ref cn), .val (.ref sl), .unset, .unset, .unset] X334 hx (hb hby at_128) rfl rfl rfl ?_
          refine Own.iload 132 X334 hx (hb hby at_130) rfl rfl ?_
          refine Own.iconst 133 X334 hx ((1 : Int32)) (hb hby at_132) rfl rfl ?_
          refine Own.icmp_lt 163 136 X334 hx (hb hby at_133) (by decide) rfl (fun tk => absurd tk (by decide)) (fun tk => ?_)
          refine Own.iload 138 X334 hx (hb hby at_136) rfl rfl ?_
          rcases B5 with q | q | q | q <;> subst q
          ·
            refine Own.if_ne 155 141 X334 hx (hb hby at_138) (by decide) rfl (fun tk => absurd tk (by decide)) (fun tk => ?_)
            refine Own.aload 143 X334 hx (hb hby at_141) rfl rfl rfl ?_
            refine Own.iconst 144 X334 hx ((0 : Int32)) (hb hby at_143) rfl rfl ?_
            refine Own.iconst 145 X334 hx ((-1 : Int32)) (hb hby at_144) rfl rfl ?_
            refine Own.iastore 146 X334 hx hZ e334 V334 (by decide) (Nat.le_of_ble_eq_true rfl) (hb hby at_145) rfl ?_
            intro T343 h343 X343 e343 W343 A343
            have N343 := Fr.snoc X343 N29 g_sl
            have Ef_345 := Ef_336.wr W343
            have Ef_346 := Ef_337.wr W343
            have Of_347 := Of_338.wr W343
            have Of_348 := Of_339.wr W343
            have Of_349 := Of_340.wr W343
            have Vf_350 := Vf_341.other W343 ne_bs_sl
            have Vf_351 := Vf_342.other W343 ne_cn_sl
            have O343 := O334.wr W343 g_sl
            have zl343 := Nat.le_trans zl334 (Nat.le_of_eq W343.size.symm)
            have V343 : Arv Z h343 sl k334 .int (2 : Int32) [(.int (-1 : Int32)), (.int (0 : Int32))] (.int (0 : Int32)) := A343
            refine Own.aload 148 X343 hx (hb hby at_146) rfl rfl rfl ?_
            refine Own.iconst 149 X343 hx ((0 : Int32)) (hb hby at_148) rfl rfl ?_
            refine Own.aload 151 X343 hx (hb hby at_149) rfl rfl rfl ?_
            refine Own.aastore 152 X343 hx hZ e343 Vf_351 rfl rfl (by obtain ⟨cq, Aq, qq, -⟩ := Vf_351; exact Sto.ofV Aq qq Ov326 (Ins.self Ef_345)) (by decide) (Nat.le_of_ble_eq_true rfl) (hb hby at_151) rfl ?_
            intro T353 h353 X353 e353 W353 A353
            have N353 := Fr.snoc X353 N343 g_cn
            have Ef_355 := Ef_345.wr W353
            have Ef_356 := Ef_346.wr W353
            have Of_357 := Of_347.wr W353
            have Of_358 := Of_348.wr W353
            have Of_359 := Of_349.wr W353
            have Vf_360 := Vf_350.other W353 ne_bs_cn
            have Vf_362 := V343.other W353 (Ne.symm ne_cn_sl)
            have O353 := O343.wr W353 g_cn
            have zl353 := Nat.le_trans zl343 (Nat.le_of_eq W353.size.symm)
            have V353 : Arv Z h353 cn k326 (.object "java/lang/String") (2 : Int32) [(.ref k0), .null] .null := A353
            refine Own.goto 163 X353 hx (hb hby at_152) (by decide) ?_
            refine Own.iload 165 X353 hx (hb hby at_163) rfl rfl ?_
            refine Own.iconst 166 X353 hx ((2 : Int32)) (hb hby at_165) rfl rfl ?_
            refine Own.icmp_lt 196 169 X353 hx (hb hby at_166) (by decide) rfl (fun tk => absurd tk (by decide)) (fun tk => ?_)
            refine Own.iload 171 X353 hx (hb hby at_169) rfl rfl ?_
            refine Own.if_ne 188 174 X353 hx (hb hby at_171) (by decide) rfl (fun u1 => ?_) (fun u1 => ?_)
            ·
              refine Own.aload 190 X353 hx (hb hby at_188) rfl rfl rfl ?_
              refine Own.iconst 191 X353 hx ((1 : Int32)) (hb hby at_190) rfl rfl ?_
              refine Own.iload 193 X353 hx (hb hby at_191) rfl rfl ?_
              refine Own.iconst 194 X353 hx ((1 : Int32)) (hb hby at_193) rfl rfl ?_
              refine Own.isub 195 X353 hx (hb hby at_194) rfl rfl ?_
              refine Own.iastore 196 X353 hx hZ e353 Vf_362 (by decide) (Nat.le_of_ble_eq_true rfl) (hb hby at_195) rfl ?_
              intro T363 h363 X363 e363 W363 A363
              have N363 := Fr.snoc X363 N353 g_sl
              have Ef_365 := Ef_355.wr W363
              have Ef_366 := Ef_356.wr W363
              have Of_367 := Of_357.wr W363
              have Of_368 := Of_358.wr W363
              have Of_369 := Of_359.wr W363
              have Vf_370 := Vf_360.other W363 ne_bs_sl
              have Vf_371 := V353.other W363 ne_cn_sl
              have O363 := O353.wr W363 g_sl
              have zl363 := Nat.le_trans zl353 (Nat.le_of_eq W363.size.symm)
              have V363 : Arv Z h363 sl k334 .int (2 : Int32) [(.int (-1 : Int32)), (.int (v6_18 - (1 : Int32)))] (.int (0 : Int32)) := A363
              refine Own.newObj 199 X363 hx hZ hown (w 37 rfl) (w 38 rfl) (w 39 rfl) e363 (hb hby at_196) rfl (by decide) (by decide) ?_
              intro T373 h373 p' z373 X373 e373 E373 A373 D373
              have ne_bs_p' : bs ≠ p' := Nat.ne_of_lt (Nat.lt_of_lt_of_le Vf_370.lt (Nat.le_of_eq z373.symm))
              have ne_cn_p' : cn ≠ p' := Nat.ne_of_lt (Nat.lt_of_lt_of_le Vf_371.lt (Nat.le_of_eq z373.symm))
              have ne_k0_p' : k0 ≠ p' := Nat.ne_of_lt (Nat.lt_of_lt_of_le Ef_365.lt (Nat.le_of_eq z373.symm))
              have ne_k1_p' : k1 ≠ p' := Nat.ne_of_lt (Nat.lt_of_lt_of_le Ef_366.lt (Nat.le_of_eq z373.symm))
              have ne_sl_p' : sl ≠ p' := Nat.ne_of_lt (Nat.lt_of_lt_of_le V363.lt (Nat.le_of_eq z373.symm))
              have g_p' : n0 ≤ p' := Nat.le_trans zl363 (Nat.le_of_eq z373.symm)
              have Ef_375 := Ef_365.ext E373
              have Ef_376 := Ef_366.ext E373
              have Of_377 := Of_367.ext E373
              have Of_378 := Of_368.ext E373
              have Of_379 := Of_369.ext E373
              have Vf_380 := Vf_370.ext E373
              have Vf_381 := Vf_371.ext E373
              have Vf_382 := V363.ext E373
              have O373 := O363.ext E373
              have zl373 := Nat.le_trans zl363 E373.1
              have F373_name : Fld Z h373 p' "com/example/skuld/skuld/htn/Pattern" "name" "Ljava/lang/String;" .null := D373 (Or.inr (w 48 rfl)) (ty := (.object "java/lang/String")) (by decide)
              have F373_constants : Fld Z h373 p' "com/example/skuld/skuld/htn/Pattern" "constants" "[Ljava/lang/String;" .null := D373 (Or.inr (w 50 rfl)) (ty := (.array (.object "java/lang/String"))) (by decide)
              have F373_slots : Fld Z h373 p' "com/example/skuld/skuld/htn/Pattern" "slots" "[I" .null := D373 (Or.inr (w 52 rfl)) (ty := (.array .int)) (by decide)
              have F373_line : Fld Z h373 p' "com/example/skuld/skuld/htn/Pattern" "line" "I" (.int (0 : Int32)) := D373 (Or.inr (w 54 rfl)) (ty := .int) (by decide)
              refine Own.dup 200 X373 hx (hb hby at_199) rfl rfl ?_
              refine Own.ldcStr 202 4 X373 hx hZ hown (w 40 rfl) hSA e373 (hb hby at_200) rfl (by decide) (by decide) (by decide) (by decide) ?_
              intro lt T383 h383 X383 e383 E383 hZ hown
              have Ef_385 := Ef_375.ext E383
              have Ef_386 := Ef_376.ext E383
              have Of_387 := Of_377.ext E383
              have Of_388 := Of_378.ext E383
              have Of_389 := Of_379.ext E383
              have Vf_390 := Vf_380.ext E383
              have Vf_391 := Vf_381.ext E383
              have Vf_392 := Vf_382.ext E383
              have Ef_393 := A373.ext E383
              have Ff_394 := F373_name.ext E383
              have Ff_395 := F373_constants.ext E383
              have Ff_396 := F373_slots.ext E383
              have Ff_397 := F373_line.ext E383
              have O383 := O373.ext E383
              have zl383 := Nat.le_trans zl373 E383.1
              have zk383 := Nat.le_refl h383.size
              refine Own.aload 204 X383 hx (hb hby at_202) rfl rfl rfl ?_
              refine Own.aload 206 X383 hx (hb hby at_204) rfl rfl rfl ?_
              refine Own.iloadN 207 X383 hx (hb hby at_206) rfl rfl ?_
              refine Own.callInit 210 1 p' [(.ref lt), (.ref cn), (.ref sl), (.int x2)] [(.ref p')] X383 hx hZ hown (m8 l Z a0 w p' lt cn sl x2 _ _ _ _ n0 h383 zl383 Ef_393 Ff_394 Ff_395 Ff_396 Ff_397 g_p') rfl (w 43 rfl) (w 44 rfl) (w 39 rfl) (w 45 rfl) (by decide) e383 (by decide) (by decide) (by decide) (by decide) (by rw [hml]; rfl) (lenOf pd_2 rfl) rfl (Nat.le_of_eq rfl) (hb hby at_207) rfl ?_
              rintro vv T398 L398 X398 ⟨rfl, N398q, K398, Fs398, Fc398⟩
              have N398 := Fr.app N363 N398q
              have O398 := O383.keep K398 (allS g_p' all0)
              have Ef_400 := Ef_385.keep K398
              have Ef_401 := Ef_386.keep K398
              have Of_402 := Of_387.keep K398
              have Of_403 := Of_388.keep K398
              have Of_404 := Of_389.keep K398
              have Vf_405 := Vf_390.keep K398 (ninS ne_bs_p' nin0)
              have Vf_406 := Vf_391.keep K398 (ninS ne_cn_p' nin0)
              have Vf_407 := Vf_392.keep K398 (ninS ne_sl_p' nin0)
              have Ef_408 := Ef_393.keep K398
              have zl398 := Nat.le_trans zl383 K398.1
              have zk398 := Nat.le_trans zk383 K398.1
              refine Own.astore 212 #[.val (.int x0), .val (.int x1), .val (.int x2), .val (.int x3), .val (.int (2 : Int32)), .val (.int (0 : Int32)), .val (.int v6_18), .val (.ref k0), .val (.ref k1), .val b0, .val b1, .val b2, .val (.ref bs), .val (.ref cn), .val (.ref sl), .val (.ref p'), .unset, .unset] X398 hx (hb hby at_210) rfl rfl rfl ?_
              refine Own.aload 214 X398 hx (hb hby at_212) rfl rfl rfl ?_
              refine Own.aload 216 X398 hx (hb hby at_214) rfl rfl rfl ?_
              refine Own.callVt 219 0 p' [(.ref bs)] [] X398 hx hZ hown (m9_2_m l Z a0 w p' bs sl cn k334 k326 k6 (v6_18 - (1 : Int32)) (.ref k0) .null b0 b1 b2 _ Fs398 Fc398 Vf_407 Vf_406 Vf_405 (Or.inr ⟨_, rfl, Ef_400⟩) Of_402 Of_403 Of_404) Ef_408 (notFace_of_selects (args := #[]) (mvT hZ (w 58 rfl))) (w 55 rfl) (w 56 rfl) (w 58 rfl) (w 57 rfl) (w 39 rfl) (w 59 rfl) (by decide) rfl (by decide) (by decide) (by decide) (by decide) (by rw [hml]; rfl) (lenOf pd_3 rfl) rfl (Nat.le_of_eq rfl) (hb hby at_216) rfl ?_
              rintro vv T413 L413 X413 ⟨rfl, hh413, rfl⟩
              have N413 := Fr.app N398 (Fr.nil _)
              refine Own.astore 221 #[.val (.int x0), .val (.int x1), .val (.int x2), .val (.int x3), .val (.int (2 : Int32)), .val (.int (0 : Int32)), .val (.int v6_18), .val (.ref k0), .val (.ref k1), .val b0, .val b1, .val b2, .val (.ref bs), .val (.ref cn), .val (.ref sl), .val (.ref p'), .val (.ref k0), .unset] X413 hx (hb hby at_219) rfl rfl rfl ?_
              refine Own.iload 223 X413 hx (hb hby at_221) rfl rfl ?_
              refine Own.if_ne 232 226 X413 hx (hb hby at_223) (by decide) rfl (fun tk => ?_) (fun tk => absurd tk (by decide))
              refine Own.iload 234 X413 hx (hb hby at_232) rfl rfl ?_
              refine Own.if_ne 244 237 X413 hx (hb hby at_234) (by decide) rfl (fun tk => absurd tk (by decide)) (fun tk => ?_)
              refine Own.aload 239 X413 hx (hb hby at_237) rfl rfl rfl ?_
              refine Own.astore 241 #[.val (.int x0), .val (.int x1), .val (.int x2), .val (.int x3), .val (.int (2 : Int32)), .val (.int (0 : Int32)), .val (.int v6_18), .val (.ref k0), .val (.ref k1), .val b0, .val b1, .val b2, .val (.ref bs), .val (.ref cn), .val (.ref sl), .val (.ref p'), .val (.ref k0), .val (.ref k0)] X413 hx (hb hby at_239) rfl rfl rfl ?_
              refine Own.goto 274 X413 hx (hb hby at_241) (by decide) ?_
              refine Own.aload 276 X413 hx (hb hby at_274) rfl rfl rfl ?_
              refine Own.aload 278 X413 hx (hb hby at_276) rfl rfl rfl ?_
              refine Own.acmp_ne 285 281 X413 hx (hb hby at_278) rfl rfl (by decide) rfl (fun q => ?_) (fun q => ?_)
              ·
                exact absurd rfl q
              ·
                refine Own.iconst 282 X413 hx ((1 : Int32)) (hb hby at_281) rfl rfl ?_
                refine Own.goto 286 X413 hx (hb hby at_282) (by decide) ?_
                refine Own.retBool X413 hx hlk hret (hb hby at_286) (by decide) (by decide) ?_
                exact ⟨⟨rfl, N413⟩, by rw [hh413]; exact zk398⟩
            ·
              have u2 := u1
              refine Own.aload 176 X353 hx (hb hby at_174) rfl rfl rfl ?_
              refine Own.iconst 177 X353 hx ((1 : Int32)) (hb hby at_176) rfl rfl ?_
              refine Own.iconst 178 X353 hx ((-1 : Int32)) (hb hby at_177) rfl rfl ?_
              refine Own.iastore 179 X353 hx hZ e353 Vf_362 (by decide) (Nat.le_of_ble_eq_true rfl) (hb hby at_178) rfl ?_
              intro T414 h414 X414 e414 W414 A414
              have N414 := Fr.snoc X414 N353 g_sl
              have Ef_416 := Ef_355.wr W414
              have Ef_417 := Ef_356.wr W414
              have Of_418 := Of_357.wr W414
              have Of_419 := Of_358.wr W414
              have Of_420 := Of_359.wr W414
              have Vf_421 := Vf_360.other W414 ne_bs_sl
              have Vf_422 := V353.other W414 ne_cn_sl
              have O414 := O353.wr W414 g_sl
              have zl414 := Nat.le_trans zl353 (Nat.le_of_eq W414.size.symm)
              have V414 : Arv Z h414 sl k334 .int (2 : Int32) [(.int (-1 : Int32)), (.int (-1 : Int32))] (.int (0 : Int32)) := A414
              refine Own.aload 181 X414 hx (hb hby at_179) rfl rfl rfl ?_
              refine Own.iconst 182 X414 hx ((1 : Int32)) (hb hby at_181) rfl rfl ?_
              refine Own.aload 184 X414 hx (hb hby at_182) rfl rfl rfl ?_
              refine Own.aastore 185 X414 hx hZ e414 Vf_422 rfl rfl (by obtain ⟨cq, Aq, qq, -⟩ := Vf_422; exact Sto.ofV Aq qq Ov326 (Ins.self Ef_417)) (by decide) (Nat.le_of_ble_eq_true rfl) (hb hby at_184) rfl ?_
              intro T424 h424 X424 e424 W424 A424
              have N424 := Fr.snoc X424 N414 g_cn
              have Ef_426 := Ef_416.wr W424
              have Ef_427 := Ef_417.wr W424
              have Of_428 := Of_418.wr W424
              have Of_429 := Of_419.wr W424
              have Of_430 := Of_420.wr W424
              have Vf_431 := Vf_421.other W424 ne_bs_cn
              have Vf_433 := V414.other W424 (Ne.symm ne_cn_sl)
              have O424 := O414.wr W424 g_cn
              have zl424 := Nat.le_trans zl414 (Nat.le_of_eq W424.size.symm)
              have V424 : Arv Z h424 cn k326 (.object "java/lang/String") (2 : Int32) [(.ref k0), (.ref k1)] .null := A424
              refine Own.goto 196 X424 hx (hb hby at_185) (by decide) ?_
              refine Own.newObj 199 X424 hx hZ hown (w 37 rfl) (w 38 rfl) (w 39 rfl) e424 (hb hby at_196) rfl (by decide) (by decide) ?_
              intro T434 h434 p' z434 X434 e434 E434 A434 D434
              have ne_bs_p' : bs ≠ p' := Nat.ne_of_lt (Nat.lt_of_lt_of_le Vf_431.lt (Nat.le_of_eq z434.symm))
              have ne_cn_p' : cn ≠ p' := Nat.ne_of_lt (Nat.lt_of_lt_of_le V424.lt (Nat.le_of_eq z434.symm))
              have ne_k0_p' : k0 ≠ p' := Nat.ne_of_lt (Nat.lt_of_lt_of_le Ef_426.lt (Nat.le_of_eq z434.symm))
              have ne_k1_p' : k1 ≠ p' := Nat.ne_of_lt (Nat.lt_of_lt_of_le Ef_427.lt (Nat.le_of_eq z434.symm))
              have ne_sl_p' : sl ≠ p' := Nat.ne_of_lt (Nat.lt_of_lt_of_le Vf_433.lt (Nat.le_of_eq z434.symm))
              have g_p' : n0 ≤ p' := Nat.le_trans zl424 (Nat.le_of_eq z434.symm)
              have Ef_436 := Ef_426.ext E434
              have Ef_437 := Ef_427.ext E434
              have Of_438 := Of_428.ext E434
              have Of_439 := Of_429.ext E434
              have Of_440 := Of_430.ext E434
              have Vf_441 := Vf_431.ext E434
              have Vf_442 := V424.ext E434
              have Vf_443 := Vf_433.ext E434
              have O434 := O424.ext E434
              have zl434 := Nat.le_trans zl424 E434.1
              have F434_name : Fld Z h434 p' "com/example/skuld/skuld/htn/Pattern" "name" "Ljava/lang/String;" .null := D434 (Or.inr (w 48 rfl)) (ty := (.object "java/lang/String")) (by decide)
              have F434_constants : Fld Z h434 p' "com/example/skuld/skuld/htn/Pattern" "constants" "[Ljava/lang/String;" .null := D434 (Or.inr (w 50 rfl)) (ty := (.array (.object "java/lang/String"))) (by decide)
              have F434_slots : Fld Z h434 p' "com/example/skuld/skuld/htn/Pattern" "slots" "[I" .null := D434 (Or.inr (w 52 rfl)) (ty := (.array .int)) (by decide)
              have F434_line : Fld Z h434 p' "com/example/skuld/skuld/htn/Pattern" "line" "I" (.int (0 : Int32)) := D434 (Or.inr (w 54 rfl)) (ty := .int) (by decide)
              refine Own.dup 200 X434 hx (hb hby at_199) rfl rfl ?_
              refine Own.ldcStr 202 4 X434 hx hZ hown (w 40 rfl) hSA e434 (hb hby at_200) rfl (by decide) (by decide) (by decide) (by decide) ?_
              intro lt T444 h444 X444 e444 E444 hZ hown
              have Ef_446 := Ef_436.ext E444
              have Ef_447 := Ef_437.ext E444
              have Of_448 := Of_438.ext E444
              have Of_449 := Of_439.ext E444
              have Of_450 := Of_440.ext E444
              have Vf_451 := Vf_441.ext E444
              have Vf_452 := Vf_442.ext E444
              have Vf_453 := Vf_443.ext E444
              have Ef_454 := A434.ext E444
              have Ff_455 := F434_name.ext E444
              have Ff_456 := F434_constants.ext E444
              have Ff_457 := F434_slots.ext E444
              have Ff_458 := F434_line.ext E444
              have O444 := O434.ext E444
              have zl444 := Nat.le_trans zl434 E444.1
              have zk444 := Nat.le_refl h444.size
              refine Own.aload 204 X444 hx (hb hby at_202) rfl rfl rfl ?_
              refine Own.aload 206 X444 hx (hb hby at_204) rfl rfl rfl ?_
              refine Own.iloadN 207 X444 hx (hb hby at_206) rfl rfl ?_
              refine Own.callInit 210 1 p' [(.ref lt), (.ref cn), (.ref sl), (.int x2)] [(.ref p')] X444 hx hZ hown (m8 l Z a0 w p' lt cn sl x2 _ _ _ _ n0 h444 zl444 Ef_454 Ff_455 Ff_456 Ff_457 Ff_458 g_p') rfl (w 43 rfl) (w 44 rfl) (w 39 rfl) (w 45 rfl) (by decide) e444 (by decide) (by decide) (by decide) (by decide) (by rw [hml]; rfl) (lenOf pd_2 rfl) rfl (Nat.le_of_eq rfl) (hb hby at_207) rfl ?_
              rintro vv T459 L459 X459 ⟨rfl, N459q, K459, Fs459, Fc459⟩
              have N459 := Fr.app N424 N459q
              have O459 := O444.keep K459 (allS g_p' all0)
              have Ef_461 := Ef_446.keep K459
              have Ef_462 := Ef_447.keep K459
              have Of_463 := Of_448.keep K459
              have Of_464 := Of_449.keep K459
              have Of_465 := Of_450.keep K459
              have Vf_466 := Vf_451.keep K459 (ninS ne_bs_p' nin0)
              have Vf_467 := Vf_452.keep K459 (ninS ne_cn_p' nin0)
              have Vf_468 := Vf_453.keep K459 (ninS ne_sl_p' nin0)
              have Ef_469 := Ef_454.keep K459
              have zl459 := Nat.le_trans zl444 K459.1
              have zk459 := Nat.le_trans zk444 K459.1
              refine Own.astore 212 #[.val (.int x0), .val (.int x1), .val (.int x2), .val (.int x3), .val (.int (2 : Int32)), .val (.int (0 : Int32)), .val (.int v6_18), .val (.ref k0), .val (.ref k1), .val b0, .val b1, .val b2, .val (.ref bs), .val (.ref cn), .val (.ref sl), .val (.ref p'), .unset, .unset] X459 hx (hb hby at_210) rfl rfl rfl ?_
              refine Own.aload 214 X459 hx (hb hby at_212) rfl rfl rfl ?_
              refine Own.aload 216 X459 hx (hb hby at_214) rfl rfl rfl ?_
              refine Own.callVt 219 0 p' [(.ref bs)] [] X459 hx hZ hown (m9_2_m l Z a0 w p' bs sl cn k334 k326 k6 (-1 : Int32) (.ref k0) (.ref k1) b0 b1 b2 _ Fs459 Fc459 Vf_468 Vf_467 Vf_466 (Or.inr ⟨_, rfl, Ef_461⟩) Of_463 Of_464 Of_465) Ef_469 (notFace_of_selects (args := #[]) (mvT hZ (w 58 rfl))) (w 55 rfl) (w 56 rfl) (w 58 rfl) (w 57 rfl) (w 39 rfl) (w 59 rfl) (by decide) rfl (by decide) (by decide) (by decide) (by decide) (by rw [hml]; rfl) (lenOf pd_3 rfl) rfl (Nat.le_of_eq rfl) (hb hby at_216) rfl ?_
              rintro vv T474 L474 X474 ⟨rfl, hh474, rfl⟩
              have N474 := Fr.app N459 (Fr.nil _)
              refine Own.astore 221 #[.val (.int x0), .val (.int x1), .val (.int x2), .val (.int x3), .val (.int (2 : Int32)), .val (.int (0 : Int32)), .val (.int v6_18), .val (.ref k0), .val (.ref k1), .val b0, .val b1, .val b2, .val (.ref bs), .val (.ref cn), .val (.ref sl), .val (.ref p'), .val (.ref k0), .unset] X474 hx (hb hby at_219) rfl rfl rfl ?_
              refine Own.iload 223 X474 hx (hb hby at_221) rfl rfl ?_
              refine Own.if_ne 232 226 X474 hx (hb hby at_223) (by decide) rfl (fun tk => ?_) (fun tk => absurd tk (by decide))
              refine Own.iload 234 X474 hx (hb hby at_232) rfl rfl ?_
              refine Own.if_ne 244 237 X474 hx (hb hby at_234) (by decide) rfl (fun tk => absurd tk (by decide)) (fun tk => ?_)
              refine Own.aload 239 X474 hx (hb hby at_237) rfl rfl rfl ?_
              refine Own.astore 241 #[.val (.int x0), .val (.int x1), .val (.int x2), .val (.int x3), .val (.int (2 : Int32)), .val (.int (0 : Int32)), .val (.int v6_18), .val (.ref k0), .val (.ref k1), .val b0, .val b1, .val b2, .val (.ref bs), .val (.ref cn), .val (.ref sl), .val (.ref p'), .val (.ref k0), .val (.ref k0)] X474 hx (hb hby at_239) rfl rfl rfl ?_
              refine Own.goto 274 X474 hx (hb hby at_241) (by decide) ?_
              refine Own.aload 276 X474 hx (hb hby at_274) rfl rfl rfl ?_
              refine Own.aload 278 X474 hx (hb hby at_276) rfl rfl rfl ?_
              refine Own.acmp_ne 285 281 X474 hx (hb hby at_278) rfl rfl (by decide) rfl (fun q => ?_) (fun q => ?_)
              ·
                exact absurd rfl q
              ·
                refine Own.iconst 282 X474 hx ((1 : Int32)) (hb hby at_281) rfl rfl ?_
                refine Own.goto 286 X474 hx (hb hby at_282) (by decide) ?_
                refine Own.retBool X474 hx hlk hret (hb hby at_286) (by decide) (by decide) ?_
                exact ⟨⟨rfl, N474⟩, by rw [hh474]; exact zk459⟩
          ·
            refine Own.if_ne 155 141 X334 hx (hb hby at_138) (by decide) rfl (fun tk => ?_) (fun tk => absurd tk (by decide))
            refine Own.aload 157 X334 hx (hb hby at_155) rfl rfl rfl ?_
            refine Own.iconst 158 X334 hx ((0 : Int32)) (hb hby at_157) rfl rfl ?_
            refine Own.iload 160 X334 hx (hb hby at_158) rfl rfl ?_
            refine Own.iconst 161 X334 hx ((1 : Int32)) (hb hby at_160) rfl rfl ?_
            refine Own.isub 162 X334 hx (hb hby at_161) rfl (show ((1 : Int32) - (1 : Int32)) = (0 : Int32) by decide) ?_
            refine Own.iastore 163 X334 hx hZ e334 V334 (by decide) (Nat.le_of_ble_eq_true rfl) (hb hby at_162) rfl ?_
            intro T475 h475 X475 e475 W475 A475
            have N475 := Fr.snoc X475 N29 g_sl
            have Ef_477 := Ef_336.wr W475
            have Ef_478 := Ef_337.wr W475
            have Of_479 := Of_338.wr W475
            have Of_480 := Of_339.wr W475
            have Of_481 := Of_340.wr W475
            have Vf_482 := Vf_341.other W475 ne_bs_sl
            have Vf_483 := Vf_342.other W475 ne_cn_sl
            have O475 := O334.wr W475 g_sl
            have zl475 := Nat.le_trans zl334 (Nat.le_of_eq W475.size.symm)
            have V475 : Arv Z h475 sl k334 .int (2 : Int32) [(.int (0 : Int32)), (.int (0 : Int32))] (.int (0 : Int32)) := A475
            refine Own.iload 165 X475 hx (hb hby at_163) rfl rfl ?_
            refine Own.iconst 166 X475 hx ((2 : Int32)) (hb hby at_165) rfl rfl ?_
            refine Own.icmp_lt 196 169 X475 hx (hb hby at_166) (by decide) rfl (fun tk => absurd tk (by decide)) (fun tk => ?_)
            refine Own.iload 171 X475 hx (hb hby at_169) rfl rfl ?_
            refine Own.if_ne 188 174 X475 hx (hb hby at_171) (by decide) rfl (fun u1 => ?_) (fun u1 => ?_)
            ·
              refine Own.aload 190 X475 hx (hb hby at_188) rfl rfl rfl ?_
              refine Own.iconst 191 X475 hx ((1 : Int32)) (hb hby at_190) rfl rfl ?_
              refine Own.iload 193 X475 hx (hb hby at_191) rfl rfl ?_
              refine Own.iconst 194 X475 hx ((1 : Int32)) (hb hby at_193) rfl rfl ?_
              refine Own.isub 195 X475 hx (hb hby at_194) rfl rfl ?_
              refine Own.iastore 196 X475 hx hZ e475 V475 (by decide) (Nat.le_of_ble_eq_true rfl) (hb hby at_195) rfl ?_
              intro T485 h485 X485 e485 W485 A485
              have N485 := Fr.snoc X485 N475 g_sl
              have Ef_487 := Ef_477.wr W485
              have Ef_488 := Ef_478.wr W485
              have Of_489 := Of_479.wr W485
              have Of_490 := Of_480.wr W485
              have Of_491 := Of_481.wr W485
              have Vf_492 := Vf_482.other W485 ne_bs_sl
              have Vf_493 := Vf_483.other W485 ne_cn_sl
              have O485 := O475.wr W485 g_sl
              have zl485 := Nat.le_trans zl475 (Nat.le_of_eq W485.size.symm)
              have V485 : Arv Z h485 sl k334 .int (2 : Int32) [(.int (0 : Int32)), (.int (v6_18 - (1 : Int32)))] (.int (0 : Int32)) := A485
              refine Own.newObj 199 X485 hx hZ hown (w 37 rfl) (w 38 rfl) (w 39 rfl) e485 (hb hby at_196) rfl (by decide) (by decide) ?_
              intro T495 h495 p' z495 X495 e495 E495 A495 D495
              have ne_bs_p' : bs ≠ p' := Nat.ne_of_lt (Nat.lt_of_lt_of_le Vf_492.lt (Nat.le_of_eq z495.symm))
              have ne_cn_p' : cn ≠ p' := Nat.ne_of_lt (Nat.lt_of_lt_of_le Vf_493.lt (Nat.le_of_eq z495.symm))
              have ne_k0_p' : k0 ≠ p' := Nat.ne_of_lt (Nat.lt_of_lt_of_le Ef_487.lt (Nat.le_of_eq z495.symm))
              have ne_k1_p' : k1 ≠ p' := Nat.ne_of_lt (Nat.lt_of_lt_of_le Ef_488.lt (Nat.le_of_eq z495.symm))
              have ne_sl_p' : sl ≠ p' := Nat.ne_of_lt (Nat.lt_of_lt_of_le V485.lt (Nat.le_of_eq z495.symm))
              have g_p' : n0 ≤ p' := Nat.le_trans zl485 (Nat.le_of_eq z495.symm)
              have Ef_497 := Ef_487.ext E495
              have Ef_498 := Ef_488.ext E495
              have Of_499 := Of_489.ext E495
              have Of_500 := Of_490.ext E495
              have Of_501 := Of_491.ext E495
              have Vf_502 := Vf_492.ext E495
              have Vf_503 := Vf_493.ext E495
              have Vf_504 := V485.ext E495
              have O495 := O485.ext E495
              have zl495 := Nat.le_trans zl485 E495.1
              have F495_name : Fld Z h495 p' "com/example/skuld/skuld/htn/Pattern" "name" "Ljava/lang/String;" .null := D495 (Or.inr (w 48 rfl)) (ty := (.object "java/lang/String")) (by decide)
              have F495_constants : Fld Z h495 p' "com/example/skuld/skuld/htn/Pattern" "constants" "[Ljava/lang/String;" .null := D495 (Or.inr (w 50 rfl)) (ty := (.array (.object "java/lang/String"))) (by decide)
              have F495_slots : Fld Z h495 p' "com/example/skuld/skuld/htn/Pattern" "slots" "[I" .null := D495 (Or.inr (w 52 rfl)) (ty := (.array .int)) (by decide)
              have F495_line : Fld Z h495 p' "com/example/skuld/skuld/htn/Pattern" "line" "I" (.int (0 : Int32)) := D495 (Or.inr (w 54 rfl)) (ty := .int) (by decide)
              refine Own.dup 200 X495 hx (hb hby at_199) rfl rfl ?_
              refine Own.ldcStr 202 4 X495 hx hZ hown (w 40 rfl) hSA e495 (hb hby at_200) rfl (by decide) (by decide) (by decide) (by decide) ?_
              intro lt T505 h505 X505 e505 E505 hZ hown
              have Ef_507 := Ef_497.ext E505
              have Ef_508 := Ef_498.ext E505
              have Of_509 := Of_499.ext E505
              have Of_510 := Of_500.ext E505
              have Of_511 := Of_501.ext E505
              have Vf_512 := Vf_502.ext E505
              have Vf_513 := Vf_503.ext E505
              have Vf_514 := Vf_504.ext E505
              have Ef_515 := A495.ext E505
              have Ff_516 := F495_name.ext E505
              have Ff_517 := F495_constants.ext E505
              have Ff_518 := F495_slots.ext E505
              have Ff_519 := F495_line.ext E505
              have O505 := O495.ext E505
              have zl505 := Nat.le_trans zl495 E505.1
              have zk505 := Nat.le_refl h505.size
              refine Own.aload 204 X505 hx (hb hby at_202) rfl rfl rfl ?_
              refine Own.aload 206 X505 hx (hb hby at_204) rfl rfl rfl ?_
              refine Own.iloadN 207 X505 hx (hb hby at_206) rfl rfl ?_
              refine Own.callInit 210 1 p' [(.ref lt), (.ref cn), (.ref sl), (.int x2)] [(.ref p')] X505 hx hZ hown (m8 l Z a0 w p' lt cn sl x2 _ _ _ _ n0 h505 zl505 Ef_515 Ff_516 Ff_517 Ff_518 Ff_519 g_p') rfl (w 43 rfl) (w 44 rfl) (w 39 rfl) (w 45 rfl) (by decide) e505 (by decide) (by decide) (by decide) (by decide) (by rw [hml]; rfl) (lenOf pd_2 rfl) rfl (Nat.le_of_eq rfl) (hb hby at_207) rfl ?_
              rintro vv T520 L520 X520 ⟨rfl, N520q, K520, Fs520, Fc520⟩
              have N520 := Fr.app N485 N520q
              have O520 := O505.keep K520 (allS g_p' all0)
              have Ef_522 := Ef_507.keep K520
              have Ef_523 := Ef_508.keep K520
              have Of_524 := Of_509.keep K520
              have Of_525 := Of_510.keep K520
              have Of_526 := Of_511.keep K520
              have Vf_527 := Vf_512.keep K520 (ninS ne_bs_p' nin0)
              have Vf_528 := Vf_513.keep K520 (ninS ne_cn_p' nin0)
              have Vf_529 := Vf_514.keep K520 (ninS ne_sl_p' nin0)
              have Ef_530 := Ef_515.keep K520
              have zl520 := Nat.le_trans zl505 K520.1
              have zk520 := Nat.le_trans zk505 K520.1
              refine Own.astore 212 #[.val (.int x0), .val (.int x1), .val (.int x2), .val (.int x3), .val (.int (2 : Int32)), .val (.int (1 : Int32)), .val (.int v6_18), .val (.ref k0), .val (.ref k1), .val b0, .val b1, .val b2, .val (.ref bs), .val (.ref cn), .val (.ref sl), .val (.ref p'), .unset, .unset] X520 hx (hb hby at_210) rfl rfl rfl ?_
              refine Own.aload 214 X520 hx (hb hby at_212) rfl rfl rfl ?_
              refine Own.aload 216 X520 hx (hb hby at_214) rfl rfl rfl ?_
              refine Own.callVt 219 0 p' [(.ref bs)] [] X520 hx hZ hown (m9_2_0 l Z a0 w p' bs sl cn k334 k326 k6 (v6_18 - (1 : Int32)) .null .null b0 b1 b2 _ Fs520 Fc520 Vf_529 Vf_528 Vf_527 (Or.inl rfl) Of_524 Of_525 Of_526) Ef_530 (notFace_of_selects (args := #[]) (mvT hZ (w 58 rfl))) (w 55 rfl) (w 56 rfl) (w 58 rfl) (w 57 rfl) (w 39 rfl) (w 59 rfl) (by decide) rfl (by decide) (by decide) (by decide) (by decide) (by rw [hml]; rfl) (lenOf pd_3 rfl) rfl (Nat.le_of_eq rfl) (hb hby at_216) rfl ?_
              rintro vv T535 L535 X535 ⟨rfl, hh535, rfl⟩
              have N535 := Fr.app N520 (Fr.nil _)
              refine Own.astoreV 221 #[.val (.int x0), .val (.int x1), .val (.int x2), .val (.int x3), .val (.int (2 : Int32)), .val (.int (1 : Int32)), .val (.int v6_18), .val (.ref k0), .val (.ref k1), .val b0, .val b1, .val b2, .val (.ref bs), .val (.ref cn), .val (.ref sl), .val (.ref p'), .val b0, .unset] X535 hx (hb hby at_219) rfl Of_524.isRef rfl One.u rfl ?_
              refine Own.iload 223 X535 hx (hb hby at_221) rfl rfl ?_
              refine Own.if_ne 232 226 X535 hx (hb hby at_223) (by decide) rfl (fun tk => ?_) (fun tk => absurd tk (by decide))
              refine Own.iload 234 X535 hx (hb hby at_232) rfl rfl ?_
              refine Own.if_ne 244 237 X535 hx (hb hby at_234) (by decide) rfl (fun tk => ?_) (fun tk => absurd tk (by decide))
              refine Own.iload 246 X535 hx (hb hby at_244) rfl rfl ?_
              refine Own.iconst 247 X535 hx ((1 : Int32)) (hb hby at_246) rfl rfl ?_
              refine Own.icmp_ne 257 250 X535 hx (hb hby at_247) (by decide) rfl (fun tk => absurd tk (by decide)) (fun tk => ?_)
              refine Own.aload 252 X535 hx (hb hby at_250) rfl rfl Of_524.isRef ?_
              refine Own.astoreV 254 #[.val (.int x0), .val (.int x1), .val (.int x2), .val (.int x3), .val (.int (2 : Int32)), .val (.int (1 : Int32)), .val (.int v6_18), .val (.ref k0), .val (.ref k1), .val b0, .val b1, .val b2, .val (.ref bs), .val (.ref cn), .val (.ref sl), .val (.ref p'), .val b0, .val b0] X535 hx (hb hby at_252) rfl Of_524.isRef rfl One.u rfl ?_
              refine Own.goto 274 X535 hx (hb hby at_254) (by decide) ?_
              refine Own.aload 276 X535 hx (hb hby at_274) rfl rfl Of_524.isRef ?_
              refine Own.aload 278 X535 hx (hb hby at_276) rfl rfl Of_524.isRef ?_
              refine Own.acmp_ne 285 281 X535 hx (hb hby at_278) Of_524.isRef Of_524.isRef (by decide) rfl (fun q => ?_) (fun q => ?_)
              ·
                exact absurd rfl q
              ·
                refine Own.iconst 282 X535 hx ((1 : Int32)) (hb hby at_281) rfl rfl ?_
                refine Own.goto 286 X535 hx (hb hby at_282) (by decide) ?_
                refine Own.retBool X535 hx hlk hret (hb hby at_286) (by decide) (by decide) ?_
                exact ⟨⟨rfl, N535⟩, by rw [hh535]; exact zk520⟩
            ·
              have u2 := u1
              refine Own.aload 176 X475 hx (hb hby at_174) rfl rfl rfl ?_
              refine Own.iconst 177 X475 hx ((1 : Int32)) (hb hby at_176) rfl rfl ?_
              refine Own.iconst 178 X475 hx ((-1 : Int32)) (hb hby at_177) rfl rfl ?_
              refine Own.iastore 179 X475 hx hZ e475 V475 (by decide) (Nat.le_of_ble_eq_true rfl) (hb hby at_178) rfl ?_
              intro T536 h536 X536 e536 W536 A536
              have N536 := Fr.snoc X536 N475 g_sl
              have Ef_538 := Ef_477.wr W536
              have Ef_539 := Ef_478.wr W536
              have Of_540 := Of_479.wr W536
              have Of_541 := Of_480.wr W536
              have Of_542 := Of_481.wr W536
              have Vf_543 := Vf_482.other W536 ne_bs_sl
              have Vf_544 := Vf_483.other W536 ne_cn_sl
              have O536 := O475.wr W536 g_sl
              have zl536 := Nat.le_trans zl475 (Nat.le_of_eq W536.size.symm)
              have V536 : Arv Z h536 sl k334 .int (2 : Int32) [(.int (0 : Int32)), (.int (-1 : Int32))] (.int (0 : Int32)) := A536
              refine Own.aload 181 X536 hx (hb hby at_179) rfl rfl rfl ?_
              refine Own.iconst 182 X536 hx ((1 : Int32)) (hb hby at_181) rfl rfl ?_
              refine Own.aload 184 X536 hx (hb hby at_182) rfl rfl rfl ?_
              refine Own.aastore 185 X536 hx hZ e536 Vf_544 rfl rfl (by obtain ⟨cq, Aq, qq, -⟩ := Vf_544; exact Sto.ofV Aq qq Ov326 (Ins.self Ef_539)) (by decide) (Nat.le_of_ble_eq_true rfl) (hb hby at_184) rfl ?_
              intro T546 h546 X546 e546 W546 A546
              have N546 := Fr.snoc X546 N536 g_cn
              have Ef_548 := Ef_538.wr W546
              have Ef_549 := Ef_539.wr W546
              have Of_550 := Of_540.wr W546
              have Of_551 := Of_541.wr W546
              have Of_552 := Of_542.wr W546
              have Vf_553 := Vf_543.other W546 ne_bs_cn
              have Vf_555 := V536.other W546 (Ne.symm ne_cn_sl)
              have O546 := O536.wr W546 g_cn
              have zl546 := Nat.le_trans zl536 (Nat.le_of_eq W546.size.symm)
              have V546 : Arv Z h546 cn k326 (.object "java/lang/String") (2 : Int32) [.null, (.ref k1)] .null := A546
              refine Own.goto 196 X546 hx (hb hby at_185) (by decide) ?_
              refine Own.newObj 199 X546 hx hZ hown (w 37 rfl) (w 38 rfl) (w 39 rfl) e546 (hb hby at_196) rfl (by decide) (by decide) ?_
              intro T556 h556 p' z556 X556 e556 E556 A556 D556
              have ne_bs_p' : bs ≠ p' := Nat.ne_of_lt (Nat.lt_of_lt_of_le Vf_553.lt (Nat.le_of_eq z556.symm))
              have ne_cn_p' : cn ≠ p' := Nat.ne_of_lt (Nat.lt_of_lt_of_le V546.lt (Nat.le_of_eq z556.symm))
              have ne_k0_p' : k0 ≠ p' := Nat.ne_of_lt (Nat.lt_of_lt_of_le Ef_548.lt (Nat.le_of_eq z556.symm))
              have ne_k1_p' : k1 ≠ p' := Nat.ne_of_lt (Nat.lt_of_lt_of_le Ef_549.lt (Nat.le_of_eq z556.symm))
              have ne_sl_p' : sl ≠ p' := Nat.ne_of_lt (Nat.lt_of_lt_of_le Vf_555.lt (Nat.le_of_eq z556.symm))
              have g_p' : n0 ≤ p' := Nat.le_trans zl546 (Nat.le_of_eq z556.symm)
              have Ef_558 := Ef_548.ext E556
              have Ef_559 := Ef_549.ext E556
              have Of_560 := Of_550.ext E556
              have Of_561 := Of_551.ext E556
              have Of_562 := Of_552.ext E556
              have Vf_563 := Vf_553.ext E556
              have Vf_564 := V546.ext E556
              have Vf_565 := Vf_555.ext E556
              have O556 := O546.ext E556
              have zl556 := Nat.le_trans zl546 E556.1
              have F556_name : Fld Z h556 p' "com/example/skuld/skuld/htn/Pattern" "name" "Ljava/lang/String;" .null := D556 (Or.inr (w 48 rfl)) (ty := (.object "java/lang/String")) (by decide)
              have F556_constants : Fld Z h556 p' "com/example/skuld/skuld/htn/Pattern" "constants" "[Ljava/lang/String;" .null := D556 (Or.inr (w 50 rfl)) (ty := (.array (.object "java/lang/String"))) (by decide)
              have F556_slots : Fld Z h556 p' "com/example/skuld/skuld/htn/Pattern" "slots" "[I" .null := D556 (Or.inr (w 52 rfl)) (ty := (.array .int)) (by decide)
              have F556_line : Fld Z h556 p' "com/example/skuld/skuld/htn/Pattern" "line" "I" (.int (0 : Int32)) := D556 (Or.inr (w 54 rfl)) (ty := .int) (by decide)
              refine Own.dup 200 X556 hx (hb hby at_199) rfl rfl ?_
              refine Own.ldcStr 202 4 X556 hx hZ hown (w 40 rfl) hSA e556 (hb hby at_200) rfl (by decide) (by decide) (by decide) (by decide) ?_
              intro lt T566 h566 X566 e566 E566 hZ hown
              have Ef_568 := Ef_558.ext E566
              have Ef_569 := Ef_559.ext E566
              have Of_570 := Of_560.ext E566
              have Of_571 := Of_561.ext E566
              have Of_572 := Of_562.ext E566
              have Vf_573 := Vf_563.ext E566
              have Vf_574 := Vf_564.ext E566
              have Vf_575 := Vf_565.ext E566
              have Ef_576 := A556.ext E566
              have Ff_577 := F556_name.ext E566
              have Ff_578 := F556_constants.ext E566
              have Ff_579 := F556_slots.ext E566
              have Ff_580 := F556_line.ext E566
              have O566 := O556.ext E566
              have zl566 := Nat.le_trans zl556 E566.1
              have zk566 := Nat.le_refl h566.size
              refine Own.aload 204 X566 hx (hb hby at_202) rfl rfl rfl ?_
              refine Own.aload 206 X566 hx (hb hby at_204) rfl rfl rfl ?_
              refine Own.iloadN 207 X566 hx (hb hby at_206) rfl rfl ?_
              refine Own.callInit 210 1 p' [(.ref lt), (.ref cn), (.ref sl), (.int x2)] [(.ref p')] X566 hx hZ hown (m8 l Z a0 w p' lt cn sl x2 _ _ _ _ n0 h566 zl566 Ef_576 Ff_577 Ff_578 Ff_579 Ff_580 g_p') rfl (w 43 rfl) (w 44 rfl) (w 39 rfl) (w 45 rfl) (by decide) e566 (by decide) (by decide) (by decide) (by decide) (by rw [hml]; rfl) (lenOf pd_2 rfl) rfl (Nat.le_of_eq rfl) (hb hby at_207) rfl ?_
              rintro vv T581 L581 X581 ⟨rfl, N581q, K581, Fs581, Fc581⟩
              have N581 := Fr.app N546 N581q
              have O581 := O566.keep K581 (allS g_p' all0)
              have Ef_583 := Ef_568.keep K581
              have Ef_584 := Ef_569.keep K581
              have Of_585 := Of_570.keep K581
              have Of_586 := Of_571.keep K581
              have Of_587 := Of_572.keep K581
              have Vf_588 := Vf_573.keep K581 (ninS ne_bs_p' nin0)
              have Vf_589 := Vf_574.keep K581 (ninS ne_cn_p' nin0)
              have Vf_590 := Vf_575.keep K581 (ninS ne_sl_p' nin0)
              have Ef_591 := Ef_576.keep K581
              have zl581 := Nat.le_trans zl566 K581.1
              have zk581 := Nat.le_trans zk566 K581.1
              refine Own.astore 212 #[.val (.int x0), .val (.int x1), .val (.int x2), .val (.int x3), .val (.int (2 : Int32)), .val (.int (1 : Int32)), .val (.int v6_18), .val (.ref k0), .val (.ref k1), .val b0, .val b1, .val b2, .val (.ref bs), .val (.ref cn), .val (.ref sl), .val (.ref p'), .unset, .unset] X581 hx (hb hby at_210) rfl rfl rfl ?_
              refine Own.aload 214 X581 hx (hb hby at_212) rfl rfl rfl ?_
              refine Own.aload 216 X581 hx (hb hby at_214) rfl rfl rfl ?_
              refine Own.callVt 219 0 p' [(.ref bs)] [] X581 hx hZ hown (m9_2_0 l Z a0 w p' bs sl cn k334 k326 k6 (-1 : Int32) .null (.ref k1) b0 b1 b2 _ Fs581 Fc581 Vf_590 Vf_589 Vf_588 (Or.inl rfl) Of_585 Of_586 Of_587) Ef_591 (notFace_of_selects (args := #[]) (mvT hZ (w 58 rfl))) (w 55 rfl) (w 56 rfl) (w 58 rfl) (w 57 rfl) (w 39 rfl) (w 59 rfl) (by decide) rfl (by decide) (by decide) (by decide) (by decide) (by rw [hml]; rfl) (lenOf pd_3 rfl) rfl (Nat.le_of_eq rfl) (hb hby at_216) rfl ?_
              rintro vv T596 L596 X596 ⟨rfl, hh596, rfl⟩
              have N596 := Fr.app N581 (Fr.nil _)
              refine Own.astoreV 221 #[.val (.int x0), .val (.int x1), .val (.int x2), .val (.int x3), .val (.int (2 : Int32)), .val (.int (1 : Int32)), .val (.int v6_18), .val (.ref k0), .val (.ref k1), .val b0, .val b1, .val b2, .val (.ref bs), .val (.ref cn), .val (.ref sl), .val (.ref p'), .val b0, .unset] X596 hx (hb hby at_219) rfl Of_585.isRef rfl One.u rfl ?_
              refine Own.iload 223 X596 hx (hb hby at_221) rfl rfl ?_
              refine Own.if_ne 232 226 X596 hx (hb hby at_223) (by decide) rfl (fun tk => ?_) (fun tk => absurd tk (by decide))
              refine Own.iload 234 X596 hx (hb hby at_232) rfl rfl ?_
              refine Own.if_ne 244 237 X596 hx (hb hby at_234) (by decide) rfl (fun tk => ?_) (fun tk => absurd tk (by decide))
              refine Own.iload 246 X596 hx (hb hby at_244) rfl rfl ?_
              refine Own.iconst 247 X596 hx ((1 : Int32)) (hb hby at_246) rfl rfl ?_
              refine Own.icmp_ne 257 250 X596 hx (hb hby at_247) (by decide) rfl (fun tk => absurd tk (by decide)) (fun tk => ?_)
              refine Own.aload 252 X596 hx (hb hby at_250) rfl rfl Of_585.isRef ?_
              refine Own.astoreV 254 #[.val (.int x0), .val (.int x1), .val (.int x2), .val (.int x3), .val (.int (2 : Int32)), .val (.int (1 : Int32)), .val (.int v6_18), .val (.ref k0), .val (.ref k1), .val b0, .val b1, .val b2, .val (.ref bs), .val (.ref cn), .val (.ref sl), .val (.ref p'), .val b0, .val b0] X596 hx (hb hby at_252) rfl Of_585.isRef rfl One.u rfl ?_
              refine Own.goto 274 X596 hx (hb hby at_254) (by decide) ?_
              refine Own.aload 276 X596 hx (hb hby at_274) rfl rfl Of_585.isRef ?_
              refine Own.aload 278 X596 hx (hb hby at_276) rfl rfl Of_585.isRef ?_
              refine Own.acmp_ne 285 281 X596 hx (hb hby at_278) Of_585.isRef Of_585.isRef (by decide) rfl (fun q => ?_) (fun q => ?_)
              ·
                exact absurd rfl q
              ·
                refine Own.iconst 282 X596 hx ((1 : Int32)) (hb hby at_281) rfl rfl ?_
                refine Own.goto 286 X596 hx (hb hby at_282) (by decide) ?_
                refine Own.retBool X596 hx hlk hret (hb hby at_286) (by decide) (by decide) ?_
                exact ⟨⟨rfl, N596⟩, by rw [hh596]; exact zk581⟩
          ·
            refine Own.if_ne 155 141 X334 hx (hb hby at_138) (by decide) rfl (fun tk => ?_) (fun tk => absurd tk (by decide))
            refine Own.aload 157 X334 hx (hb hby at_155) rfl rfl rfl ?_
            refine Own.iconst 158 X334 hx ((0 : Int32)) (hb hby at_157) rfl rfl ?_
            refine Own.iload 160 X334 hx (hb hby at_158) rfl rfl ?_
            refine Own.iconst 161 X334 hx ((1 : Int32)) (hb hby at_160) rfl rfl ?_
            refine Own.isub 162 X334 hx (hb hby at_161) rfl (show ((2 : Int32) - (1 : Int32)) = (1 : Int32) by decide) ?_
            refine Own.iastore 163 X334 hx hZ e334 V334 (by decide) (Nat.le_of_ble_eq_true rfl) (hb hby at_162) rfl ?_
            intro T597 h597 X597 e597 W597 A597
            have N597 := Fr.snoc X597 N29 g_sl
            have Ef_599 := Ef_336.wr W597
            have Ef_600 := Ef_337.wr W597
            have Of_601 := Of_338.wr W597
            have Of_602 := Of_339.wr W597
            have Of_603 := Of_340.wr W597
            have Vf_604 := Vf_341.other W597 ne_bs_sl
            have Vf_605 := Vf_342.other W597 ne_cn_sl
            have O597 := O334.wr W597 g_sl
            have zl597 := Nat.le_trans zl334 (Nat.le_of_eq W597.size.symm)
            have V597 : Arv Z h597 sl k334 .int (2 : Int32) [(.int (1 : Int32)), (.int (0 : Int32))] (.int (0 : Int32)) := A597
            refine Own.iload 165 X597 hx (hb hby at_163) rfl rfl ?_
            refine Own.iconst 166 X597 hx ((2 : Int32)) (hb hby at_165) rfl rfl ?_
            refine Own.icmp_lt 196 169 X597 hx (hb hby at_166) (by decide) rfl (fun tk => absurd tk (by decide)) (fun tk => ?_)
            refine Own.iload 171 X597 hx (hb hby at_169) rfl rfl ?_
            refine Own.if_ne 188 174 X597 hx (hb hby at_171) (by decide) rfl (fun u1 => ?_) (fun u1 => ?_)
            ·
              refine Own.aload 190 X597 hx (hb hby at_188) rfl rfl rfl ?_
              refine Own.iconst 191 X597 hx ((1 : Int32)) (hb hby at_190) rfl rfl ?_
              refine Own.iload 193 X597 hx (hb hby at_191) rfl rfl ?_
              refine Own.iconst 194 X597 hx ((1 : Int32)) (hb hby at_193) rfl rfl ?_
              refine Own.isub 195 X597 hx (hb hby at_194) rfl rfl ?_
              refine Own.iastore 196 X597 hx hZ e597 V597 (by decide) (Nat.le_of_ble_eq_true rfl) (hb hby at_195) rfl ?_
              intro T607 h607 X607 e607 W607 A607
              have N607 := Fr.snoc X607 N597 g_sl
              have Ef_609 := Ef_599.wr W607
              have Ef_610 := Ef_600.wr W607
              have Of_611 := Of_601.wr W607
              have Of_612 := Of_602.wr W607
              have Of_613 := Of_603.wr W607
              have Vf_614 := Vf_604.other W607 ne_bs_sl
              have Vf_615 := Vf_605.other W607 ne_cn_sl
              have O607 := O597.wr W607 g_sl
              have zl607 := Nat.le_trans zl597 (Nat.le_of_eq W607.size.symm)
              have V607 : Arv Z h607 sl k334 .int (2 : Int32) [(.int (1 : Int32)), (.int (v6_18 - (1 : Int32)))] (.int (0 : Int32)) := A607
              refine Own.newObj 199 X607 hx hZ hown (w 37 rfl) (w 38 rfl) (w 39 rfl) e607 (hb hby at_196) rfl (by decide) (by decide) ?_
              intro T617 h617 p' z617 X617 e617 E617 A617 D617
              have ne_bs_p' : bs ≠ p' := Nat.ne_of_lt (Nat.lt_of_lt_of_le Vf_614.lt (Nat.le_of_eq z617.symm))
              have ne_cn_p' : cn ≠ p' := Nat.ne_of_lt (Nat.lt_of_lt_of_le Vf_615.lt (Nat.le_of_eq z617.symm))
              have ne_k0_p' : k0 ≠ p' := Nat.ne_of_lt (Nat.lt_of_lt_of_le Ef_609.lt (Nat.le_of_eq z617.symm))
              have ne_k1_p' : k1 ≠ p' := Nat.ne_of_lt (Nat.lt_of_lt_of_le Ef_610.lt (Nat.le_of_eq z617.symm))
              have ne_sl_p' : sl ≠ p' := Nat.ne_of_lt (Nat.lt_of_lt_of_le V607.lt (Nat.le_of_eq z617.symm))
              have g_p' : n0 ≤ p' := Nat.le_trans zl607 (Nat.le_of_eq z617.symm)
              have Ef_619 := Ef_609.ext E617
              have Ef_620 := Ef_610.ext E617
              have Of_621 := Of_611.ext E617
              have Of_622 := Of_612.ext E617
              have Of_623 := Of_613.ext E617
              have Vf_624 := Vf_614.ext E617
              have Vf_625 := Vf_615.ext E617
              have Vf_626 := V607.ext E617
              have O617 := O607.ext E617
              have zl617 := Nat.le_trans zl607 E617.1
              have F617_name : Fld Z h617 p' "com/example/skuld/skuld/htn/Pattern" "name" "Ljava/lang/String;" .null := D617 (Or.inr (w 48 rfl)) (ty := (.object "java/lang/String")) (by decide)
              have F617_constants : Fld Z h617 p' "com/example/skuld/skuld/htn/Pattern" "constants" "[Ljava/lang/String;" .null := D617 (Or.inr (w 50 rfl)) (ty := (.array (.object "java/lang/String"))) (by decide)
              have F617_slots : Fld Z h617 p' "com/example/skuld/skuld/htn/Pattern" "slots" "[I" .null := D617 (Or.inr (w 52 rfl)) (ty := (.array .int)) (by decide)
              have F617_line : Fld Z h617 p' "com/example/skuld/skuld/htn/Pattern" "line" "I" (.int (0 : Int32)) := D617 (Or.inr (w 54 rfl)) (ty := .int) (by decide)
              refine Own.dup 200 X617 hx (hb hby at_199) rfl rfl ?_
              refine Own.ldcStr 202 4 X617 hx hZ hown (w 40 rfl) hSA e617 (hb hby at_200) rfl (by decide) (by decide) (by decide) (by decide) ?_
              intro lt T627 h627 X627 e627 E627 hZ hown
              have Ef_629 := Ef_619.ext E627
              have Ef_630 := Ef_620.ext E627
              have Of_631 := Of_621.ext E627
              have Of_632 := Of_622.ext E627
              have Of_633 := Of_623.ext E627
              have Vf_634 := Vf_624.ext E627
              have Vf_635 := Vf_625.ext E627
              have Vf_636 := Vf_626.ext E627
              have Ef_637 := A617.ext E627
              have Ff_638 := F617_name.ext E627
              have Ff_639 := F617_constants.ext E627
              have Ff_640 := F617_slots.ext E627
              have Ff_641 := F617_line.ext E627
              have O627 := O617.ext E627
              have zl627 := Nat.le_trans zl617 E627.1
              have zk627 := Nat.le_refl h627.size
              refine Own.aload 204 X627 hx (hb hby at_202) rfl rfl rfl ?_
              refine Own.aload 206 X627 hx (hb hby at_204) rfl rfl rfl ?_
              refine Own.iloadN 207 X627 hx (hb hby at_206) rfl rfl ?_
              refine Own.callInit 210 1 p' [(.ref lt), (.ref cn), (.ref sl), (.int x2)] [(.ref p')] X627 hx hZ hown (m8 l Z a0 w p' lt cn sl x2 _ _ _ _ n0 h627 zl627 Ef_637 Ff_638 Ff_639 Ff_640 Ff_641 g_p') rfl (w 43 rfl) (w 44 rfl) (w 39 rfl) (w 45 rfl) (by decide) e627 (by decide) (by decide) (by decide) (by decide) (by rw [hml]; rfl) (lenOf pd_2 rfl) rfl (Nat.le_of_eq rfl) (hb hby at_207) rfl ?_
              rintro vv T642 L642 X642 ⟨rfl, N642q, K642, Fs642, Fc642⟩
              have N642 := Fr.app N607 N642q
              have O642 := O627.keep K642 (allS g_p' all0)
              have Ef_644 := Ef_629.keep K642
              have Ef_645 := Ef_630.keep K642
              have Of_646 := Of_631.keep K642
              have Of_647 := Of_632.keep K642
              have Of_648 := Of_633.keep K642
              have Vf_649 := Vf_634.keep K642 (ninS ne_bs_p' nin0)
              have Vf_650 := Vf_635.keep K642 (ninS ne_cn_p' nin0)
              have Vf_651 := Vf_636.keep K642 (ninS ne_sl_p' nin0)
              have Ef_652 := Ef_637.keep K642
              have zl642 := Nat.le_trans zl627 K642.1
              have zk642 := Nat.le_trans zk627 K642.1
              refine Own.astore 212 #[.val (.int x0), .val (.int x1), .val (.int x2), .val (.int x3), .val (.int (2 : Int32)), .val (.int (2 : Int32)), .val (.int v6_18), .val (.ref k0), .val (.ref k1), .val b0, .val b1, .val b2, .val (.ref bs), .val (.ref cn), .val (.ref sl), .val (.ref p'), .unset, .unset] X642 hx (hb hby at_210) rfl rfl rfl ?_
              refine Own.aload 214 X642 hx (hb hby at_212) rfl rfl rfl ?_
              refine Own.aload 216 X642 hx (hb hby at_214) rfl rfl rfl ?_
              refine Own.callVt 219 0 p' [(.ref bs)] [] X642 hx hZ hown (m9_2_1 l Z a0 w p' bs sl cn k334 k326 k6 (v6_18 - (1 : Int32)) .null .null b0 b1 b2 _ Fs642 Fc642 Vf_651 Vf_650 Vf_649 (Or.inl rfl) Of_646 Of_647 Of_648) Ef_652 (notFace_of_selects (args := #[]) (mvT hZ (w 58 rfl))) (w 55 rfl) (w 56 rfl) (w 58 rfl) (w 57 rfl) (w 39 rfl) (w 59 rfl) (by decide) rfl (by decide) (by decide) (by decide) (by decide) (by rw [hml]; rfl) (lenOf pd_3 rfl) rfl (Nat.le_of_eq rfl) (hb hby at_216) rfl ?_
              rintro vv T657 L657 X657 ⟨rfl, hh657, rfl⟩
              have N657 := Fr.app N642 (Fr.nil _)
              refine Own.astoreV 221 #[.val (.int x0), .val (.int x1), .val (.int x2), .val (.int x3), .val (.int (2 : Int32)), .val (.int (2 : Int32)), .val (.int v6_18), .val (.ref k0), .val (.ref k1), .val b0, .val b1, .val b2, .val (.ref bs), .val (.ref cn), .val (.ref sl), .val (.ref p'), .val b1, .unset] X657 hx (hb hby at_219) rfl Of_647.isRef rfl One.u rfl ?_
              refine Own.iload 223 X657 hx (hb hby at_221) rfl rfl ?_
              refine Own.if_ne 232 226 X657 hx (hb hby at_223) (by decide) rfl (fun tk => ?_) (fun tk => absurd tk (by decide))
              refine Own.iload 234 X657 hx (hb hby at_232) rfl rfl ?_
              refine Own.if_ne 244 237 X657 hx (hb hby at_234) (by decide) rfl (fun tk => ?_) (fun tk => absurd tk (by decide))
              refine Own.iload 246 X657 hx (hb hby at_244) rfl rfl ?_
              refine Own.iconst 247 X657 hx ((1 : Int32)) (hb hby at_246) rfl rfl ?_
              refine Own.icmp_ne 257 250 X657 hx (hb hby at_247) (by decide) rfl (fun tk => ?_) (fun tk => absurd tk (by decide))
              refine Own.iload 259 X657 hx (hb hby at_257) rfl rfl ?_
              refine Own.iconst 260 X657 hx ((2 : Int32)) (hb hby at_259) rfl rfl ?_
              refine Own.icmp_ne 270 263 X657 hx (hb hby at_260) (by decide) rfl (fun tk => absurd tk (by decide)) (fun tk => ?_)
              refine Own.aload 265 X657 hx (hb hby at_263) rfl rfl Of_647.isRef ?_
              refine Own.astoreV 267 #[.val (.int x0), .val (.int x1), .val (.int x2), .val (.int x3), .val (.int (2 : Int32)), .val (.int (2 : Int32)), .val (.int v6_18), .val (.ref k0), .val (.ref k1), .val b0, .val b1, .val b2, .val (.ref bs), .val (.ref cn), .val (.ref sl), .val (.ref p'), .val b1, .val b1] X657 hx (hb hby at_265) rfl Of_647.isRef rfl One.u rfl ?_
              refine Own.goto 274 X657 hx (hb hby at_267) (by decide) ?_
              refine Own.aload 276 X657 hx (hb hby at_274) rfl rfl Of_647.isRef ?_
              refine Own.aload 278 X657 hx (hb hby at_276) rfl rfl Of_647.isRef ?_
              refine Own.acmp_ne 285 281 X657 hx (hb hby at_278) Of_647.isRef Of_647.isRef (by decide) rfl (fun q => ?_) (fun q => ?_)
              ·
                exact absurd rfl q
              ·
                refine Own.iconst 282 X657 hx ((1 : Int32)) (hb hby at_281) rfl rfl ?_
                refine Own.goto 286 X657 hx (hb hby at_282) (by decide) ?_
                refine Own.retBool X657 hx hlk hret (hb hby at_286) (by decide) (by decide) ?_
                exact ⟨⟨rfl, N657⟩, by rw [hh657]; exact zk642⟩
            ·
              have u2 := u1
              refine Own.aload 176 X597 hx (hb hby at_174) rfl rfl rfl ?_
              refine Own.iconst 177 X597 hx ((1 : Int32)) (hb hby at_176) rfl rfl ?_
              refine Own.iconst 178 X597 hx ((-1 : Int32)) (hb hby at_177) rfl rfl ?_
              refine Own.iastore 179 X597 hx hZ e597 V597 (by decide) (Nat.le_of_ble_eq_true rfl) (hb hby at_178) rfl ?_
              intro T658 h658 X658 e658 W658 A658
              have N658 := Fr.snoc X658 N597 g_sl
              have Ef_660 := Ef_599.wr W658
              have Ef_661 := Ef_600.wr W658
              have Of_662 := Of_601.wr W658
              have Of_663 := Of_602.wr W658
              have Of_664 := Of_603.wr W658
              have Vf_665 := Vf_604.other W658 ne_bs_sl
              have Vf_666 := Vf_605.other W658 ne_cn_sl
              have O658 := O597.wr W658 g_sl
              have zl658 := Nat.le_trans zl597 (Nat.le_of_eq W658.size.symm)
              have V658 : Arv Z h658 sl k334 .int (2 : Int32) [(.int (1 : Int32)), (.int (-1 : Int32))] (.int (0 : Int32)) := A658
              refine Own.aload 181 X658 hx (hb hby at_179) rfl rfl rfl ?_
              refine Own.iconst 182 X658 hx ((1 : Int32)) (hb hby at_181) rfl rfl ?_
              refine Own.aload 184 X658 hx (hb hby at_182) rfl rfl rfl ?_
              refine Own.aastore 185 X658 hx hZ e658 Vf_666 rfl rfl (by obtain ⟨cq, Aq, qq, -⟩ := Vf_666; exact Sto.ofV Aq qq Ov326 (Ins.self Ef_661)) (by decide) (Nat.le_of_ble_eq_true rfl) (hb hby at_184) rfl ?_
              intro T668 h668 X668 e668 W668 A668
              have N668 := Fr.snoc X668 N658 g_cn
              have Ef_670 := Ef_660.wr W668
              have Ef_671 := Ef_661.wr W668
              have Of_672 := Of_662.wr W668
              have Of_673 := Of_663.wr W668
              have Of_674 := Of_664.wr W668
              have Vf_675 := Vf_665.other W668 ne_bs_cn
              have Vf_677 := V658.other W668 (Ne.symm ne_cn_sl)
              have O668 := O658.wr W668 g_cn
              have zl668 := Nat.le_trans zl658 (Nat.le_of_eq W668.size.symm)
              have V668 : Arv Z h668 cn k326 (.object "java/lang/String") (2 : Int32) [.null, (.ref k1)] .null := A668
              refine Own.goto 196 X668 hx (hb hby at_185) (by decide) ?_
              refine Own.newObj 199 X668 hx hZ hown (w 37 rfl) (w 38 rfl) (w 39 rfl) e668 (hb hby at_196) rfl (by decide) (by decide) ?_
              intro T678 h678 p' z678 X678 e678 E678 A678 D678
              have ne_bs_p' : bs ≠ p' := Nat.ne_of_lt (Nat.lt_of_lt_of_le Vf_675.lt (Nat.le_of_eq z678.symm))
              have ne_cn_p' : cn ≠ p' := Nat.ne_of_lt (Nat.lt_of_lt_of_le V668.lt (Nat.le_of_eq z678.symm))
              have ne_k0_p' : k0 ≠ p' := Nat.ne_of_lt (Nat.lt_of_lt_of_le Ef_670.lt (Nat.le_of_eq z678.symm))
              have ne_k1_p' : k1 ≠ p' := Nat.ne_of_lt (Nat.lt_of_lt_of_le Ef_671.lt (Nat.le_of_eq z678.symm))
              have ne_sl_p' : sl ≠ p' := Nat.ne_of_lt (Nat.lt_of_lt_of_le Vf_677.lt (Nat.le_of_eq z678.symm))
              have g_p' : n0 ≤ p' := Nat.le_trans zl668 (Nat.le_of_eq z678.symm)
              have Ef_680 := Ef_670.ext E678
              have Ef_681 := Ef_671.ext E678
              have Of_682 := Of_672.ext E678
              have Of_683 := Of_673.ext E678
              have Of_684 := Of_674.ext E678
              have Vf_685 := Vf_675.ext E678
              have Vf_686 := V668.ext E678
              have Vf_687 := Vf_677.ext E678
              have O678 := O668.ext E678
              have zl678 := Nat.le_trans zl668 E678.1
              have F678_name : Fld Z h678 p' "com/example/skuld/skuld/htn/Pattern" "name" "Ljava/lang/String;" .null := D678 (Or.inr (w 48 rfl)) (ty := (.object "java/lang/String")) (by decide)
              have F678_constants : Fld Z h678 p' "com/example/skuld/skuld/htn/Pattern" "constants" "[Ljava/lang/String;" .null := D678 (Or.inr (w 50 rfl)) (ty := (.array (.object "java/lang/String"))) (by decide)
              have F678_slots : Fld Z h678 p' "com/example/skuld/skuld/htn/Pattern" "slots" "[I" .null := D678 (Or.inr (w 52 rfl)) (ty := (.array .int)) (by decide)
              have F678_line : Fld Z h678 p' "com/example/skuld/skuld/htn/Pattern" "line" "I" (.int (0 : Int32)) := D678 (Or.inr (w 54 rfl)) (ty := .int) (by decide)
              refine Own.dup 200 X678 hx (hb hby at_199) rfl rfl ?_
              refine Own.ldcStr 202 4 X678 hx hZ hown (w 40 rfl) hSA e678 (hb hby at_200) rfl (by decide) (by decide) (by decide) (by decide) ?_
              intro lt T688 h688 X688 e688 E688 hZ hown
              have Ef_690 := Ef_680.ext E688
              have Ef_691 := Ef_681.ext E688
              have Of_692 := Of_682.ext E688
              have Of_693 := Of_683.ext E688
              have Of_694 := Of_684.ext E688
              have Vf_695 := Vf_685.ext E688
              have Vf_696 := Vf_686.ext E688
              have Vf_697 := Vf_687.ext E688
              have Ef_698 := A678.ext E688
              have Ff_699 := F678_name.ext E688
              have Ff_700 := F678_constants.ext E688
              have Ff_701 := F678_slots.ext E688
              have Ff_702 := F678_line.ext E688
              have O688 := O678.ext E688
              have zl688 := Nat.le_trans zl678 E688.1
              have zk688 := Nat.le_refl h688.size
              refine Own.aload 204 X688 hx (hb hby at_202) rfl rfl rfl ?_
              refine Own.aload 206 X688 hx (hb hby at_204) rfl rfl rfl ?_
              refine Own.iloadN 207 X688 hx (hb hby at_206) rfl rfl ?_
              refine Own.callInit 210 1 p' [(.ref lt), (.ref cn), (.ref sl), (.int x2)] [(.ref p')] X688 hx hZ hown (m8 l Z a0 w p' lt cn sl x2 _ _ _ _ n0 h688 zl688 Ef_698 Ff_699 Ff_700 Ff_701 Ff_702 g_p') rfl (w 43 rfl) (w 44 rfl) (w 39 rfl) (w 45 rfl) (by decide) e688 (by decide) (by decide) (by decide) (by decide) (by rw [hml]; rfl) (lenOf pd_2 rfl) rfl (Nat.le_of_eq rfl) (hb hby at_207) rfl ?_
              rintro vv T703 L703 X703 ⟨rfl, N703q, K703, Fs703, Fc703⟩
              have N703 := Fr.app N668 N703q
              have O703 := O688.keep K703 (allS g_p' all0)
              have Ef_705 := Ef_690.keep K703
              have Ef_706 := Ef_691.keep K703
              have Of_707 := Of_692.keep K703
              have Of_708 := Of_693.keep K703
              have Of_709 := Of_694.keep K703
              have Vf_710 := Vf_695.keep K703 (ninS ne_bs_p' nin0)
              have Vf_711 := Vf_696.keep K703 (ninS ne_cn_p' nin0)
              have Vf_712 := Vf_697.keep K703 (ninS ne_sl_p' nin0)
              have Ef_713 := Ef_698.keep K703
              have zl703 := Nat.le_trans zl688 K703.1
              have zk703 := Nat.le_trans zk688 K703.1
              refine Own.astore 212 #[.val (.int x0), .val (.int x1), .val (.int x2), .val (.int x3), .val (.int (2 : Int32)), .val (.int (2 : Int32)), .val (.int v6_18), .val (.ref k0), .val (.ref k1), .val b0, .val b1, .val b2, .val (.ref bs), .val (.ref cn), .val (.ref sl), .val (.ref p'), .unset, .unset] X703 hx (hb hby at_210) rfl rfl rfl ?_
              refine Own.aload 214 X703 hx (hb hby at_212) rfl rfl rfl ?_
              refine Own.aload 216 X703 hx (hb hby at_214) rfl rfl rfl ?_
              refine Own.callVt 219 0 p' [(.ref bs)] [] X703 hx hZ hown (m9_2_1 l Z a0 w p' bs sl cn k334 k326 k6 (-1 : Int32) .null (.ref k1) b0 b1 b2 _ Fs703 Fc703 Vf_712 Vf_711 Vf_710 (Or.inl rfl) Of_707 Of_708 Of_709) Ef_713 (notFace_of_selects (args := #[]) (mvT hZ (w 58 rfl))) (w 55 rfl) (w 56 rfl) (w 58 rfl) (w 57 rfl) (w 39 rfl) (w 59 rfl) (by decide) rfl (by decide) (by decide) (by decide) (by decide) (by rw [hml]; rfl) (lenOf pd_3 rfl) rfl (Nat.le_of_eq rfl) (hb hby at_216) rfl ?_
              rintro vv T718 L718 X718 ⟨rfl, hh718, rfl⟩
              have N718 := Fr.app N703 (Fr.nil _)
              refine Own.astoreV 221 #[.val (.int x0), .val (.int x1), .val (.int x2), .val (.int x3), .val (.int (2 : Int32)), .val (.int (2 : Int32)), .val (.int v6_18), .val (.ref k0), .val (.ref k1), .val b0, .val b1, .val b2, .val (.ref bs), .val (.ref cn), .val (.ref sl), .val (.ref p'), .val b1, .unset] X718 hx (hb hby at_219) rfl Of_708.isRef rfl One.u rfl ?_
              refine Own.iload 223 X718 hx (hb hby at_221) rfl rfl ?_
              refine Own.if_ne 232 226 X718 hx (hb hby at_223) (by decide) rfl (fun tk => ?_) (fun tk => absurd tk (by decide))
              refine Own.iload 234 X718 hx (hb hby at_232) rfl rfl ?_
              refine Own.if_ne 244 237 X718 hx (hb hby at_234) (by decide) rfl (fun tk => ?_) (fun tk => absurd tk (by decide))
              refine Own.iload 246 X718 hx (hb hby at_244) rfl rfl ?_
              refine Own.iconst 247 X718 hx ((1 : Int32)) (hb hby at_246) rfl rfl ?_
              refine Own.icmp_ne 257 250 X718 hx (hb hby at_247) (by decide) rfl (fun tk => ?_) (fun tk => absurd tk (by decide))
              refine Own.iload 259 X718 hx (hb hby at_257) rfl rfl ?_
              refine Own.iconst 260 X718 hx ((2 : Int32)) (hb hby at_259) rfl rfl ?_
              refine Own.icmp_ne 270 263 X718 hx (hb hby at_260) (by decide) rfl (fun tk => absurd tk (by decide)) (fun tk => ?_)
              refine Own.aload 265 X718 hx (hb hby at_263) rfl rfl Of_708.isRef ?_
              refine Own.astoreV 267 #[.val (.int x0), .val (.int x1), .val (.int x2), .val (.int x3), .val (.int (2 : Int32)), .val (.int (2 : Int32)), .val (.int v6_18), .val (.ref k0), .val (.ref k1), .val b0, .val b1, .val b2, .val (.ref bs), .val (.ref cn), .val (.ref sl), .val (.ref p'), .val b1, .val b1] X718 hx (hb hby at_265) rfl Of_708.isRef rfl One.u rfl ?_
              refine Own.goto 274 X718 hx (hb hby at_267) (by decide) ?_
              refine Own.aload 276 X718 hx (hb hby at_274) rfl rfl Of_708.isRef ?_
              refine Own.aload 278 X718 hx (hb hby at_276) rfl rfl Of_708.isRef ?_
              refine Own.acmp_ne 285 281 X718 hx (hb hby at_278) Of_708.isRef Of_708.isRef (by decide) rfl (fun q => ?_) (fun q => ?_)
              ·
                exact absurd rfl q
              ·
                refine Own.iconst 282 X718 hx ((1 : Int32)) (hb hby at_281) rfl rfl ?_
                refine Own.goto 286 X718 hx (hb hby at_282) (by decide) ?_
                refine Own.retBool X718 hx hlk hret (hb hby at_286) (by decide) (by decide) ?_
                exact ⟨⟨rfl, N718⟩, by rw [hh718]; exact zk703⟩
          ·
            refine Own.if_ne 155 141 X334 hx (hb hby at_138) (by decide) rfl (fun tk => ?_) (fun tk => absurd tk (by decide))
            refine Own.aload 157 X334 hx (hb hby at_155) rfl rfl rfl ?_
            refine Own.iconst 158 X334 hx ((0 : Int32)) (hb hby at_157) rfl rfl ?_
            refine Own.iload 160 X334 hx (hb hby at_158) rfl rfl ?_
            refine Own.iconst 161 X334 hx ((1 : Int32)) (hb hby at_160) rfl rfl ?_
            refine Own.isub 162 X334 hx (hb hby at_161) rfl (show ((3 : Int32) - (1 : Int32)) = (2 : Int32) by decide) ?_
            refine Own.iastore 163 X334 hx hZ e334 V334 (by decide) (Nat.le_of_ble_eq_true rfl) (hb hby at_162) rfl ?_
            intro T719 h719 X719 e719 W719 A719
            have N719 := Fr.snoc X719 N29 g_sl
            have Ef_721 := Ef_336.wr W719
            have Ef_722 := Ef_337.wr W719
            have Of_723 := Of_338.wr W719
            have Of_724 := Of_339.wr W719
            have Of_725 := Of_340.wr W719
            have Vf_726 := Vf_341.other W719 ne_bs_sl
            have Vf_727 := Vf_342.other W719 ne_cn_sl
            have O719 := O334.wr W719 g_sl
            have zl719 := Nat.le_trans zl334 (Nat.le_of_eq W719.size.symm)
            have V719 : Arv Z h719 sl k334 .int (2 : Int32) [(.int (2 : Int32)), (.int (0 : Int32))] (.int (0 : Int32)) := A719
            refine Own.iload 165 X719 hx (hb hby at_163) rfl rfl ?_
            refine Own.iconst 166 X719 hx ((2 : Int32)) (hb hby at_165) rfl rfl ?_
            refine Own.icmp_lt 196 169 X719 hx (hb hby at_166) (by decide) rfl (fun tk => absurd tk (by decide)) (fun tk => ?_)
            refine Own.iload 171 X719 hx (hb hby at_169) rfl rfl ?_
            refine Own.if_ne 188 174 X719 hx (hb hby at_171) (by decide) rfl (fun u1 => ?_) (fun u1 => ?_)
            ·
              refine Own.aload 190 X719 hx (hb hby at_188) rfl rfl rfl ?_
              refine Own.iconst 191 X719 hx ((1 : Int32)) (hb hby at_190) rfl rfl ?_
              refine Own.iload 193 X719 hx (hb hby at_191) rfl rfl ?_
              refine Own.iconst 194 X719 hx ((1 : Int32)) (hb hby at_193) rfl rfl ?_
              refine Own.isub 195 X719 hx (hb hby at_194) rfl rfl ?_
              refine Own.iastore 196 X719 hx hZ e719 V719 (by decide) (Nat.le_of_ble_eq_true rfl) (hb hby at_195) rfl ?_
              intro T729 h729 X729 e729 W729 A729
              have N729 := Fr.snoc X729 N719 g_sl
              have Ef_731 := Ef_721.wr W729
              have Ef_732 := Ef_722.wr W729
              have Of_733 := Of_723.wr W729
              have Of_734 := Of_724.wr W729
              have Of_735 := Of_725.wr W729
              have Vf_736 := Vf_726.other W729 ne_bs_sl
              have Vf_737 := Vf_727.other W729 ne_cn_sl
              have O729 := O719.wr W729 g_sl
              have zl729 := Nat.le_trans zl719 (Nat.le_of_eq W729.size.symm)
              have V729 : Arv Z h729 sl k334 .int (2 : Int32) [(.int (2 : Int32)), (.int (v6_18 - (1 : Int32)))] (.int (0 : Int32)) := A729
              refine Own.newObj 199 X729 hx hZ hown (w 37 rfl) (w 38 rfl) (w 39 rfl) e729 (hb hby at_196) rfl (by decide) (by decide) ?_
              intro T739 h739 p' z739 X739 e739 E739 A739 D739
              have ne_bs_p' : bs ≠ p' := Nat.ne_of_lt (Nat.lt_of_lt_of_le Vf_736.lt (Nat.le_of_eq z739.symm))
              have ne_cn_p' : cn ≠ p' := Nat.ne_of_lt (Nat.lt_of_lt_of_le Vf_737.lt (Nat.le_of_eq z739.symm))
              have ne_k0_p' : k0 ≠ p' := Nat.ne_of_lt (Nat.lt_of_lt_of_le Ef_731.lt (Nat.le_of_eq z739.symm))
              have ne_k1_p' : k1 ≠ p' := Nat.ne_of_lt (Nat.lt_of_lt_of_le Ef_732.lt (Nat.le_of_eq z739.symm))
              have ne_sl_p' : sl ≠ p' := Nat.ne_of_lt (Nat.lt_of_lt_of_le V729.lt (Nat.le_of_eq z739.symm))
              have g_p' : n0 ≤ p' := Nat.le_trans zl729 (Nat.le_of_eq z739.symm)
              have Ef_741 := Ef_731.ext E739
              have Ef_742 := Ef_732.ext E739
              have Of_743 := Of_733.ext E739
              have Of_744 := Of_734.ext E739
              have Of_745 := Of_735.ext E739
              have Vf_746 := Vf_736.ext E739
              have Vf_747 := Vf_737.ext E739
              have Vf_748 := V729.ext E739
              have O739 := O729.ext E739
              have zl739 := Nat.le_trans zl729 E739.1
              have F739_name : Fld Z h739 p' "com/example/skuld/skuld/htn/Pattern" "name" "Ljava/lang/String;" .null := D739 (Or.inr (w 48 rfl)) (ty := (.object "java/lang/String")) (by decide)
              have F739_constants : Fld Z h739 p' "com/example/skuld/skuld/htn/Pattern" "constants" "[Ljava/lang/String;" .null := D739 (Or.inr (w 50 rfl)) (ty := (.array (.object "java/lang/String"))) (by decide)
              have F739_slots : Fld Z h739 p' "com/example/skuld/skuld/htn/Pattern" "slots" "[I" .null := D739 (Or.inr (w 52 rfl)) (ty := (.array .int)) (by decide)
              have F739_line : Fld Z h739 p' "com/example/skuld/skuld/htn/Pattern" "line" "I" (.int (0 : Int32)) := D739 (Or.inr (w 54 rfl)) (ty := .int) (by decide)
              refine Own.dup 200 X739 hx (hb hby at_199) rfl rfl ?_
              refine Own.ldcStr 202 4 X739 hx hZ hown (w 40 rfl) hSA e739 (hb hby at_200) rfl (by decide) (by decide) (by decide) (by decide) ?_
              intro lt T749 h749 X749 e749 E749 hZ hown
              have Ef_751 := Ef_741.ext E749
              have Ef_752 := Ef_742.ext E749
              have Of_753 := Of_743.ext E749
              have Of_754 := Of_744.ext E749
              have Of_755 := Of_745.ext E749
              have Vf_756 := Vf_746.ext E749
              have Vf_757 := Vf_747.ext E749
              have Vf_758 := Vf_748.ext E749
              have Ef_759 := A739.ext E749
              have Ff_760 := F739_name.ext E749
              have Ff_761 := F739_constants.ext E749
              have Ff_762 := F739_slots.ext E749
              have Ff_763 := F739_line.ext E749
              have O749 := O739.ext E749
              have zl749 := Nat.le_trans zl739 E749.1
              have zk749 := Nat.le_refl h749.size
              refine Own.aload 204 X749 hx (hb hby at_202) rfl rfl rfl ?_
              refine Own.aload 206 X749 hx (hb hby at_204) rfl rfl rfl ?_
              refine Own.iloadN 207 X749 hx (hb hby at_206) rfl rfl ?_
              refine Own.callInit 210 1 p' [(.ref lt), (.ref cn), (.ref sl), (.int x2)] [(.ref p')] X749 hx hZ hown (m8 l Z a0 w p' lt cn sl x2 _ _ _ _ n0 h749 zl749 Ef_759 Ff_760 Ff_761 Ff_762 Ff_763 g_p') rfl (w 43 rfl) (w 44 rfl) (w 39 rfl) (w 45 rfl) (by decide) e749 (by decide) (by decide) (by decide) (by decide) (by rw [hml]; rfl) (lenOf pd_2 rfl) rfl (Nat.le_of_eq rfl) (hb hby at_207) rfl ?_
              rintro vv T764 L764 X764 ⟨rfl, N764q, K764, Fs764, Fc764⟩
              have N764 := Fr.app N729 N764q
              have O764 := O749.keep K764 (allS g_p' all0)
              have Ef_766 := Ef_751.keep K764
              have Ef_767 := Ef_752.keep K764
              have Of_768 := Of_753.keep K764
              have Of_769 := Of_754.keep K764
              have Of_770 := Of_755.keep K764
              have Vf_771 := Vf_756.keep K764 (ninS ne_bs_p' nin0)
              have Vf_772 := Vf_757.keep K764 (ninS ne_cn_p' nin0)
              have Vf_773 := Vf_758.keep K764 (ninS ne_sl_p' nin0)
              have Ef_774 := Ef_759.keep K764
              have zl764 := Nat.le_trans zl749 K764.1
              have zk764 := Nat.le_trans zk749 K764.1
              refine Own.astore 212 #[.val (.int x0), .val (.int x1), .val (.int x2), .val (.int x3), .val (.int (2 : Int32)), .val (.int (3 : Int32)), .val (.int v6_18), .val (.ref k0), .val (.ref k1), .val b0, .val b1, .val b2, .val (.ref bs), .val (.ref cn), .val (.ref sl), .val (.ref p'), .unset, .unset] X764 hx (hb hby at_210) rfl rfl rfl ?_
              refine Own.aload 214 X764 hx (hb hby at_212) rfl rfl rfl ?_
              refine Own.aload 216 X764 hx (hb hby at_214) rfl rfl rfl ?_
              refine Own.callVt 219 0 p' [(.ref bs)] [] X764 hx hZ hown (m9_2_2 l Z a0 w p' bs sl cn k334 k326 k6 (v6_18 - (1 : Int32)) .null .null b0 b1 b2 _ Fs764 Fc764 Vf_773 Vf_772 Vf_771 (Or.inl rfl) Of_768 Of_769 Of_770) Ef_774 (notFace_of_selects (args := #[]) (mvT hZ (w 58 rfl))) (w 55 rfl) (w 56 rfl) (w 58 rfl) (w 57 rfl) (w 39 rfl) (w 59 rfl) (by decide) rfl (by decide) (by decide) (by decide) (by decide) (by rw [hml]; rfl) (lenOf pd_3 rfl) rfl (Nat.le_of_eq rfl) (hb hby at_216) rfl ?_
              rintro vv T779 L779 X779 ⟨rfl, hh779, rfl⟩
              have N779 := Fr.app N764 (Fr.nil _)
              refine Own.astoreV 221 #[.val (.int x0), .val (.int x1), .val (.int x2), .val (.int x3), .val (.int (2 : Int32)), .val (.int (3 : Int32)), .val (.int v6_18), .val (.ref k0), .val (.ref k1), .val b0, .val b1, .val b2, .val (.ref bs), .val (.ref cn), .val (.ref sl), .val (.ref p'), .val b2, .unset] X779 hx (hb hby at_219) rfl Of_770.isRef rfl One.u rfl ?_
              refine Own.iload 223 X779 hx (hb hby at_221) rfl rfl ?_
              refine Own.if_ne 232 226 X779 hx (hb hby at_223) (by decide) rfl (fun tk => ?_) (fun tk => absurd tk (by decide))
              refine Own.iload 234 X779 hx (hb hby at_232) rfl rfl ?_
              refine Own.if_ne 244 237 X779 hx (hb hby at_234) (by decide) rfl (fun tk => ?_) (fun tk => absurd tk (by decide))
              refine Own.iload 246 X779 hx (hb hby at_244) rfl rfl ?_
              refine Own.iconst 247 X779 hx ((1 : Int32)) (hb hby at_246) rfl rfl ?_
              refine Own.icmp_ne 257 250 X779 hx (hb hby at_247) (by decide) rfl (fun tk => ?_) (fun tk => absurd tk (by decide))
              refine Own.iload 259 X779 hx (hb hby at_257) rfl rfl ?_
              refine Own.iconst 260 X779 hx ((2 : Int32)) (hb hby at_259) rfl rfl ?_
              refine Own.icmp_ne 270 263 X779 hx (hb hby at_260) (by decide) rfl (fun tk => ?_) (fun tk => absurd tk (by decide))
              refine Own.aload 272 X779 hx (hb hby at_270) rfl rfl Of_770.isRef ?_
              refine Own.astoreV 274 #[.val (.int x0), .val (.int x1), .val (.int x2), .val (.int x3), .val (.int (2 : Int32)), .val (.int (3 : Int32)), .val (.int v6_18), .val (.ref k0), .val (.ref k1), .val b0, .val b1, .val b2, .val (.ref bs), .val (.ref cn), .val (.ref sl), .val (.ref p'), .val b2, .val b2] X779 hx (hb hby at_272) rfl Of_770.isRef rfl One.u rfl ?_
              refine Own.aload 276 X779 hx (hb hby at_274) rfl rfl Of_770.isRef ?_
              refine Own.aload 278 X779 hx (hb hby at_276) rfl rfl Of_770.isRef ?_
              refine Own.acmp_ne 285 281 X779 hx (hb hby at_278) Of_770.isRef Of_770.isRef (by decide) rfl (fun q => ?_) (fun q => ?_)
              ·
                exact absurd rfl q
              ·
                refine Own.iconst 282 X779 hx ((1 : Int32)) (hb hby at_281) rfl rfl ?_
                refine Own.goto 286 X779 hx (hb hby at_282) (by decide) ?_
                refine Own.retBool X779 hx hlk hret (hb hby at_286) (by decide) (by decide) ?_
                exact ⟨⟨rfl, N779⟩, by rw [hh779]; exact zk764⟩
            ·
              have u2 := u1
              refine Own.aload 176 X719 hx (hb hby at_174) rfl rfl rfl ?_
              refine Own.iconst 177 X719 hx ((1 : Int32)) (hb hby at_176) rfl rfl ?_
              refine Own.iconst 178 X719 hx ((-1 : Int32)) (hb hby at_177) rfl rfl ?_
              refine Own.iastore 179 X719 hx hZ e719 V719 (by decide) (Nat.le_of_ble_eq_true rfl) (hb hby at_178) rfl ?_
              intro T780 h780 X780 e780 W780 A780
              have N780 := Fr.snoc X780 N719 g_sl
              have Ef_782 := Ef_721.wr W780
              have Ef_783 := Ef_722.wr W780
              have Of_784 := Of_723.wr W780
              have Of_785 := Of_724.wr W780
              have Of_786 := Of_725.wr W780
              have Vf_787 := Vf_726.other W780 ne_bs_sl
              have Vf_788 := Vf_727.other W780 ne_cn_sl
              have O780 := O719.wr W780 g_sl
              have zl780 := Nat.le_trans zl719 (Nat.le_of_eq W780.size.symm)
              have V780 : Arv Z h780 sl k334 .int (2 : Int32) [(.int (2 : Int32)), (.int (-1 : Int32))] (.int (0 : Int32)) := A780
              refine Own.aload 181 X780 hx (hb hby at_179) rfl rfl rfl ?_
              refine Own.iconst 182 X780 hx ((1 : Int32)) (hb hby at_181) rfl rfl ?_
              refine Own.aload 184 X780 hx (hb hby at_182) rfl rfl rfl ?_
              refine Own.aastore 185 X780 hx hZ e780 Vf_788 rfl rfl (by obtain ⟨cq, Aq, qq, -⟩ := Vf_788; exact Sto.ofV Aq qq Ov326 (Ins.self Ef_783)) (by decide) (Nat.le_of_ble_eq_true rfl) (hb hby at_184) rfl ?_
              intro T790 h790 X790 e790 W790 A790
              have N790 := Fr.snoc X790 N780 g_cn
              have Ef_792 := Ef_782.wr W790
              have Ef_793 := Ef_783.wr W790
              have Of_794 := Of_784.wr W790
              have Of_795 := Of_785.wr W790
              have Of_796 := Of_786.wr W790
              have Vf_797 := Vf_787.other W790 ne_bs_cn
              have Vf_799 := V780.other W790 (Ne.symm ne_cn_sl)
              have O790 := O780.wr W790 g_cn
              have zl790 := Nat.le_trans zl780 (Nat.le_of_eq W790.size.symm)
              have V790 : Arv Z h790 cn k326 (.object "java/lang/String") (2 : Int32) [.null, (.ref k1)] .null := A790
              refine Own.goto 196 X790 hx (hb hby at_185) (by decide) ?_
              refine Own.newObj 199 X790 hx hZ hown (w 37 rfl) (w 38 rfl) (w 39 rfl) e790 (hb hby at_196) rfl (by decide) (by decide) ?_
              intro T800 h800 p' z800 X800 e800 E800 A800 D800
              have ne_bs_p' : bs ≠ p' := Nat.ne_of_lt (Nat.lt_of_lt_of_le Vf_797.lt (Nat.le_of_eq z800.symm))
              have ne_cn_p' : cn ≠ p' := Nat.ne_of_lt (Nat.lt_of_lt_of_le V790.lt (Nat.le_of_eq z800.symm))
              have ne_k0_p' : k0 ≠ p' := Nat.ne_of_lt (Nat.lt_of_lt_of_le Ef_792.lt (Nat.le_of_eq z800.symm))
              have ne_k1_p' : k1 ≠ p' := Nat.ne_of_lt (Nat.lt_of_lt_of_le Ef_793.lt (Nat.le_of_eq z800.symm))
              have ne_sl_p' : sl ≠ p' := Nat.ne_of_lt (Nat.lt_of_lt_of_le Vf_799.lt (Nat.le_of_eq z800.symm))
              have g_p' : n0 ≤ p' := Nat.le_trans zl790 (Nat.le_of_eq z800.symm)
              have Ef_802 := Ef_792.ext E800
              have Ef_803 := Ef_793.ext E800
              have Of_804 := Of_794.ext E800
              have Of_805 := Of_795.ext E800
              have Of_806 := Of_796.ext E800
              have Vf_807 := Vf_797.ext E800
              have Vf_808 := V790.ext E800
              have Vf_809 := Vf_799.ext E800
              have O800 := O790.ext E800
              have zl800 := Nat.le_trans zl790 E800.1
              have F800_name : Fld Z h800 p' "com/example/skuld/skuld/htn/Pattern" "name" "Ljava/lang/String;" .null := D800 (Or.inr (w 48 rfl)) (ty := (.object "java/lang/String")) (by decide)
              have F800_constants : Fld Z h800 p' "com/example/skuld/skuld/htn/Pattern" "constants" "[Ljava/lang/String;" .null := D800 (Or.inr (w 50 rfl)) (ty := (.array (.object "java/lang/String"))) (by decide)
              have F800_slots : Fld Z h800 p' "com/example/skuld/skuld/htn/Pattern" "slots" "[I" .null := D800 (Or.inr (w 52 rfl)) (ty := (.array .int)) (by decide)
              have F800_line : Fld Z h800 p' "com/example/skuld/skuld/htn/Pattern" "line" "I" (.int (0 : Int32)) := D800 (Or.inr (w 54 rfl)) (ty := .int) (by decide)
              refine Own.dup 200 X800 hx (hb hby at_199) rfl rfl ?_
              refine Own.ldcStr 202 4 X800 hx hZ hown (w 40 rfl) hSA e800 (hb hby at_200) rfl (by decide) (by decide) (by decide) (by decide) ?_
              intro lt T810 h810 X810 e810 E810 hZ hown
              have Ef_812 := Ef_802.ext E810
              have Ef_813 := Ef_803.ext E810
              have Of_814 := Of_804.ext E810
              have Of_815 := Of_805.ext E810
              have Of_816 := Of_806.ext E810
              have Vf_817 := Vf_807.ext E810
              have Vf_818 := Vf_808.ext E810
              have Vf_819 := Vf_809.ext E810
              have Ef_820 := A800.ext E810
              have Ff_821 := F800_name.ext E810
              have Ff_822 := F800_constants.ext E810
              have Ff_823 := F800_slots.ext E810
              have Ff_824 := F800_line.ext E810
              have O810 := O800.ext E810
              have zl810 := Nat.le_trans zl800 E810.1
              have zk810 := Nat.le_refl h810.size
              refine Own.aload 204 X810 hx (hb hby at_202) rfl rfl rfl ?_
              refine Own.aload 206 X810 hx (hb hby at_204) rfl rfl rfl ?_
              refine Own.iloadN 207 X810 hx (hb hby at_206) rfl rfl ?_
              refine Own.callInit 210 1 p' [(.ref lt), (.ref cn), (.ref sl), (.int x2)] [(.ref p')] X810 hx hZ hown (m8 l Z a0 w p' lt cn sl x2 _ _ _ _ n0 h810 zl810 Ef_820 Ff_821 Ff_822 Ff_823 Ff_824 g_p') rfl (w 43 rfl) (w 44 rfl) (w 39 rfl) (w 45 rfl) (by decide) e810 (by decide) (by decide) (by decide) (by decide) (by rw [hml]; rfl) (lenOf pd_2 rfl) rfl (Nat.le_of_eq rfl) (hb hby at_207) rfl ?_
              rintro vv T825 L825 X825 ⟨rfl, N825q, K825, Fs825, Fc825⟩
              have N825 := Fr.app N790 N825q
              have O825 := O810.keep K825 (allS g_p' all0)
              have Ef_827 := Ef_812.keep K825
              have Ef_828 := Ef_813.keep K825
              have Of_829 := Of_814.keep K825
              have Of_830 := Of_815.keep K825
              have Of_831 := Of_816.keep K825
              have Vf_832 := Vf_817.keep K825 (ninS ne_bs_p' nin0)
              have Vf_833 := Vf_818.keep K825 (ninS ne_cn_p' nin0)
              have Vf_834 := Vf_819.keep K825 (ninS ne_sl_p' nin0)
              have Ef_835 := Ef_820.keep K825
              have zl825 := Nat.le_trans zl810 K825.1
              have zk825 := Nat.le_trans zk810 K825.1
              refine Own.astore 212 #[.val (.int x0), .val (.int x1), .val (.int x2), .val (.int x3), .val (.int (2 : Int32)), .val (.int (3 : Int32)), .val (.int v6_18), .val (.ref k0), .val (.ref k1), .val b0, .val b1, .val b2, .val (.ref bs), .val (.ref cn), .val (.ref sl), .val (.ref p'), .unset, .unset] X825 hx (hb hby at_210) rfl rfl rfl ?_
              refine Own.aload 214 X825 hx (hb hby at_212) rfl rfl rfl ?_
              refine Own.aload 216 X825 hx (hb hby at_214) rfl rfl rfl ?_
              refine Own.callVt 219 0 p' [(.ref bs)] [] X825 hx hZ hown (m9_2_2 l Z a0 w p' bs sl cn k334 k326 k6 (-1 : Int32) .null (.ref k1) b0 b1 b2 _ Fs825 Fc825 Vf_834 Vf_833 Vf_832 (Or.inl rfl) Of_829 Of_830 Of_831) Ef_835 (notFace_of_selects (args := #[]) (mvT hZ (w 58 rfl))) (w 55 rfl) (w 56 rfl) (w 58 rfl) (w 57 rfl) (w 39 rfl) (w 59 rfl) (by decide) rfl (by decide) (by decide) (by decide) (by decide) (by rw [hml]; rfl) (lenOf pd_3 rfl) rfl (Nat.le_of_eq rfl) (hb hby at_216) rfl ?_
              rintro vv T840 L840 X840 ⟨rfl, hh840, rfl⟩
              have N840 := Fr.app N825 (Fr.nil _)
              refine Own.astoreV 221 #[.val (.int x0), .val (.int x1), .val (.int x2), .val (.int x3), .val (.int (2 : Int32)), .val (.int (3 : Int32)), .val (.int v6_18), .val (.ref k0), .val (.ref k1), .val b0, .val b1, .val b2, .val (.ref bs), .val (.ref cn), .val (.ref sl), .val (.ref p'), .val b2, .unset] X840 hx (hb hby at_219) rfl Of_831.isRef rfl One.u rfl ?_
              refine Own.iload 223 X840 hx (hb hby at_221) rfl rfl ?_
              refine Own.if_ne 232 226 X840 hx (hb hby at_223) (by decide) rfl (fun tk => ?_) (fun tk => absurd tk (by decide))
              refine Own.iload 234 X840 hx (hb hby at_232) rfl rfl ?_
              refine Own.if_ne 244 237 X840 hx (hb hby at_234) (by decide) rfl (fun tk => ?_) (fun tk => absurd tk (by decide))
              refine Own.iload 246 X840 hx (hb hby at_244) rfl rfl ?_
              refine Own.iconst 247 X840 hx ((1 : Int32)) (hb hby at_246) rfl rfl ?_
              refine Own.icmp_ne 257 250 X840 hx (hb hby at_247) (by decide) rfl (fun tk => ?_) (fun tk => absurd tk (by decide))
              refine Own.iload 259 X840 hx (hb hby at_257) rfl rfl ?_
              refine Own.iconst 260 X840 hx ((2 : Int32)) (hb hby at_259) rfl rfl ?_
              refine Own.icmp_ne 270 263 X840 hx (hb hby at_260) (by decide) rfl (fun tk => ?_) (fun tk => absurd tk (by decide))
              refine Own.aload 272 X840 hx (hb hby at_270) rfl rfl Of_831.isRef ?_
              refine Own.astoreV 274 #[.val (.int x0), .val (.int x1), .val (.int x2), .val (.int x3), .val (.int (2 : Int32)), .val (.int (3 : Int32)), .val (.int v6_18), .val (.ref k0), .val (.ref k1), .val b0, .val b1, .val b2, .val (.ref bs), .val (.ref cn), .val (.ref sl), .val (.ref p'), .val b2, .val b2] X840 hx (hb hby at_272) rfl Of_831.isRef rfl One.u rfl ?_
              refine Own.aload 276 X840 hx (hb hby at_274) rfl rfl Of_831.isRef ?_
              refine Own.aload 278 X840 hx (hb hby at_276) rfl rfl Of_831.isRef ?_
              refine Own.acmp_ne 285 281 X840 hx (hb hby at_278) Of_831.isRef Of_831.isRef (by decide) rfl (fun q => ?_) (fun q => ?_)
              ·
                exact absurd rfl q
              ·
                refine Own.iconst 282 X840 hx ((1 : Int32)) (hb hby at_281) rfl rfl ?_
                refine Own.goto 286 X840 hx (hb hby at_282) (by decide) ?_
                refine Own.retBool X840 hx hlk hret (hb hby at_286) (by decide) (by decide) ?_
                exact ⟨⟨rfl, N840⟩, by rw [hh840]; exact zk825⟩
      refine Own.if_eq 93 83 X1 hx (hb hby at_80) (by decide) rfl (fun c2 => ?_) (fun c2 => ?_)
      ·
        refine Own.aconstNull 94 X1 hx (hb hby at_93) rfl ?_
        exact J94 .null _ _ (X1.more (by decide) (by decide)) N1 O1 z1 JJ72_0 JJ72_1 JJ72_2 P_b1 (Or.inl rfl)
      ·
        refine Own.iloadN 84 X1 hx (hb hby at_83) rfl rfl ?_
        refine Own.bipush 86 X1 hx ((16 : Int32)) (hb hby at_84) rfl rfl ?_
        refine Own.iushr 87 X1 hx (hb hby at_86) rfl rfl ?_
        refine Own.callSt 90 0 [(.int ((x3.toUInt32 >>> ((16 : Int32) &&& 31).toUInt32).toInt32))] [] X1 hx hZ hown (m1 l Z a0 w ((x3.toUInt32 >>> ((16 : Int32) &&& 31).toUInt32).toInt32) z _ n0 z1 O1 SC hz) (w 1 rfl) (w 2 rfl) (w 3 rfl) (w 4 rfl) (by decide) rfl (by decide) (by decide) (by decide) (by decide) (by rw [hml]; rfl) (lenOf pd_1 rfl) rfl (Nat.le_of_eq rfl) (hb hby at_87) rfl ?_
        rintro vv T841 L841 X841 ⟨r2, rfl, N841q, K841, sz_r2, g_r2, E_r2⟩
        have N841 := Fr.app N1 N841q
        have O841 := O1.keep K841 all0
        have Ef_843 := JJ72_0.keep K841
        have Ef_844 := JJ72_1.keep K841
        have Of_845 := JJ72_2.keep K841
        have Of_846 := P_b1.keep K841
        have zl841 := Nat.le_trans z1 K841.1
        refine Own.goto 94 X841 hx (hb hby at_90) (by decide) ?_
        exact J94 (.ref r2) _ _ X841 N841 O841 zl841 Ef_843 Ef_844 Of_845 Of_846 (Or.inr ⟨_, rfl, E_r2⟩)
    refine Own.if_eq 71 61 X1 hx (hb hby at_58) (by decide) rfl (fun c1 => ?_) (fun c1 => ?_)
    ·
      refine Own.aconstNull 72 X1 hx (hb hby at_71) rfl ?_
      exact J72 .null _ _ (X1.more (by decide) (by decide)) N1 O1 z1 JJ51_0 JJ51_1 P_b0 (Or.inl rfl)
    ·
      refine Own.iloadN 62 X1 hx (hb hby at_61) rfl rfl ?_
      refine Own.bipush 64 X1 hx ((8 : Int32)) (hb hby at_62) rfl rfl ?_
      refine Own.iushr 65 X1 hx (hb hby at_64) rfl rfl ?_
      refine Own.callSt 68 0 [(.int ((x3.toUInt32 >>> ((8 : Int32) &&& 31).toUInt32).toInt32))] [] X1 hx hZ hown (m1 l Z a0 w ((x3.toUInt32 >>> ((8 : Int32) &&& 31).toUInt32).toInt32) z _ n0 z1 O1 SC hz) (w 1 rfl) (w 2 rfl) (w 3 rfl) (w 4 rfl) (by decide) rfl (by decide) (by decide) (by decide) (by decide) (by rw [hml]; rfl) (lenOf pd_1 rfl) rfl (Nat.le_of_eq rfl) (hb hby at_65) rfl ?_
      rintro vv T847 L847 X847 ⟨r1, rfl, N847q, K847, sz_r1, g_r1, E_r1⟩
      have N847 := Fr.app N1 N847q
      have O847 := O1.keep K847 all0
      have Ef_849 := JJ51_0.keep K847
      have Ef_850 := JJ51_1.keep K847
      have Of_851 := P_b0.keep K847
      have zl847 := Nat.le_trans z1 K847.1
      refine Own.goto 72 X847 hx (hb hby at_68) (by decide) ?_
      exact J72 (.ref r1) _ _ X847 N847 O847 zl847 Ef_849 Ef_850 Of_851 (Or.inr ⟨_, rfl, E_r1⟩)
  refine Own.if_eq 50 43 X3 hx (hb hby at_40) (by decide) rfl (fun c0 => ?_) (fun c0 => ?_)
  ·
    refine Own.aconstNull 51 X3 hx (hb hby at_50) rfl ?_
    exact J51 .null _ _ (X3.more (by decide) (by decide)) N3 O3 zl3 Ef_5 E_k1 (Or.inl rfl)
  ·
    refine Own.iloadN 44 X3 hx (hb hby at_43) rfl rfl ?_
    refine Own.callSt 47 0 [(.int x3)] [] X3 hx hZ hown (m1 l Z a0 w x3 z _ n0 zl3 O3 SC hz) (w 1 rfl) (w 2 rfl) (w 3 rfl) (w 4 rfl) (by decide) rfl (by decide) (by decide) (by decide) (by decide) (by rw [hml]; rfl) (lenOf pd_1 rfl) rfl (Nat.le_of_eq rfl) (hb hby at_44) rfl ?_
    rintro vv T852 L852 X852 ⟨r0, rfl, N852q, K852, sz_r0, g_r0, E_r0⟩
    have N852 := Fr.app N3 N852q
    have O852 := O3.keep K852 all0
    have Ef_854 := Ef_5.keep K852
    have Ef_855 := E_k1.keep K852
    have zl852 := Nat.le_trans zl3 K852.1
    refine Own.goto 51 X852 hx (hb hby at_47) (by decide) ?_
    exact J51 (.ref r0) _ _ X852 N852 O852 zl852 Ef_854 Ef_855 (Or.inr ⟨_, rfl, E_r0⟩)
set_option maxRecDepth 65536 in
set_option maxHeartbeats 40000000 in
theorem comes_1 {Post : Tables → Env → Array Value → State → Outcome → State → Prop} (hpost : ∀ tb e args s v u, (limb_1_1.after args s (.returned v) u = true ∧ limb_1_2.after args s (.returned v) u = true ∧ True) → ReturnedEndW s (.returned v) u (Jvm.fieldLocs frame_1_writes args s ++ Jvm.arrayLocs frame_1_arrays args s ++ Jvm.staticLocs frame_1_statics s) 48 1216 → Post tb e args s (.returned v) u) :
    ArmFor flags0 classFile x code maxLocals ret World_1 tables_1 room_1 Calls_1 rest_1 Pre_1 Post := by
  intro l hfl _ _ p e ha hc hk s m args below hf hA hF happ hP
  obtain ⟨hcalls, hrest, hpre⟩ := hP
  obtain ⟨-, -, -, hnamed, -, -, -, hat⟩ := (Spec.applies_iff hf).mp happ
  obtain ⟨hg, hn⟩ := and_e (Cond.before_iff.mp (show (Jvm.Cond.and given_1 narrow_1).before args s = true from hpre))
  obtain ⟨g1, g2⟩ := and_e hg
  obtain ⟨g3, g4⟩ := and_e g2
  obtain ⟨g5, g6⟩ := and_e g4
  obtain ⟨g7, g8⟩ := and_e g6
  obtain ⟨w0, w1, w2, w3, rfl⟩ : ∃ w0 w1 w2 w3 : Value, args = #[w0, w1, w2, w3] := by
    have hs : args.size = 4 := by simpa [Cond.value, given_1] using g1
    obtain ⟨L⟩ := args
    match L, hs with
    | [w0, w1, w2, w3], _ => exact ⟨w0, w1, w2, w3, rfl⟩
  have hw := fun d (hd : d ∈ tables_1) => atoms_spec (ws := Jvm.Cond.code x code maxLocals ret :: tables_1) hat d (List.mem_cons_of_mem _ hd)
  obtain ⟨i0, ei0⟩ := is_v g3
  obtain rfl : w0 = (.int i0) := Option.some.inj ei0
  obtain ⟨i1, ei1⟩ := is_v g5
  obtain rfl : w1 = (.int i1) := Option.some.inj ei1
  obtain ⟨i2, ei2⟩ := is_v g7
  obtain rfl : w2 = (.int i2) := Option.some.inj ei2
  obtain ⟨i3, ei3⟩ := is_v g8
  obtain rfl : w3 = (.int i3) := Option.some.inj ei3
  obtain ⟨hsets, hown0⟩ := atoms_of _ (rest_1_c_eq ▸ (show rest_1_c.before _ s = true from hrest))
  have n3 := not_v (Cond.before_iff.mp (hsets _ (List.mem_of_getElem? (i := 2) rfl)))
  obtain ⟨zc, ezc⟩ := is_v (Cond.before_iff.mp (hsets _ (List.mem_of_getElem? (i := 1) rfl)))
  have SC : Sta s s.heap "java/lang/String" "COMPACT_STRINGS" "Z" (.int zc) := Sta.start ezc (Or.inl (hsets _ (List.mem_of_getElem? (i := 0) rfl)))
  have hzc : ¬ zc = 0 := gotF (Cond.eq_ints ezc (Term.int_eval (0))) n3
  obtain ⟨n, o, h1, h2, h3, _, L, rfl, ⟨rfl, N⟩, hq⟩ := m0 l s _ (fun i {d} h => hw d (List.mem_of_getElem? h)) i0 i1 i2 i3 zc s.heap s.heap.size (Nat.le_refl _) (Old.start s) SC hzc p e ha hc hk s m _ below hf ((Spec.applies_iff_loose hf).mp happ).1 ⟨rfl, State.Warmed39.refl s, rfl⟩ trivial
  refine ⟨n, _, h1, h2, h3, hpost _ _ _ _ _ _ ⟨Cond.after_iff.mpr rfl, Cond.after_iff.mpr (eq_i res_at (Term.int_eval (1)) rfl), trivial⟩ ⟨hq.1, hq.2.1, hq.2.2.1, (hq.2.2.2.sift fun y hy => Or.inr (N y hy)).mono (by decide) (by decide)⟩⟩
theorem main_1_1 : Claimed_1_1 := comes_1 fun _ _ _ _ _ _ h hF => ⟨h.1, hF⟩
theorem main_1_2 : Claimed_1_2 := comes_1 fun _ _ _ _ _ _ h hF => ⟨h.2.1, hF⟩
end Jvm.Pilot.@@N@@
namespace Jvm.Pilot.@@N@@
open Jvm Jvm.ClassFile Sem Op Lib Jvm.Free Jvm.Stand Jvm.Pilot.@@N@@.Jvm.D
/-! MADE BY PROGRAM (witnessworld.py) out of the Statement's table words and the real class files: 21 classes; the members and pool entries that the words name. The judged class is class 1, her method 2. -/
namespace start1
open Jvm.ClassFile
def u (s : String) : CpInfo := .utf8 (stringToUtf16 s)
/-- a pool by its gaps: so many unusable entries, then the entry; so many at the end -/
def gap : Nat → List CpInfo → List CpInfo
  | 0, r => r
  | n + 1, r => .unusable :: gap n r
def poolList (es : List (Nat × CpInfo)) (last : Nat) : List CpInfo := es.foldr (fun e r => gap e.1 (e.2 :: r)) (gap last [])
def pool (es : List (Nat × CpInfo)) (last : Nat) : Array CpInfo := ⟨poolList es last⟩
def fileOf (pool : Array CpInfo) (this : Nat) (attrs : Array Attribute := #[]) (ms : Array MethodInfo := #[]) (fl : Nat := 33) (sup : Nat := 0) (ifs : Array Nat := #[]) (fds : Array FieldInfo := #[]) : ClassFile where
  minorVersion := 0
  majorVersion := 65
  constantPool := pool
  accessFlags := fl
  thisClass := this
  superClass := sup
  interfaces := ifs
  fields := fds
  methods := ms
  attributes := attrs
def plain (name : String) (sup : Option ClassId) : Class where
  name := name
  kind := .ordinary
  loader := none
  accessFlags := 33
  super := sup
  interfaces := #[]
  cf := none
  fields := #[]
  methods := #[]
  instanceTypes := #[]
  staticTypes := #[]
  resolved := #[]
  callSites := []
  init := .initialized
  statics := none
  mirror := none

def pool0 : Array CpInfo := pool [(5, u "<init>"), (0, u "()V"), (1, .class_ 10), (1, u "java/lang/Object")] 113

def k0c0 : Code := { maxStack := 0, maxLocals := 1, code := object_method_1_code, exceptionTable := #[], attributes := #[] }
def k0m0 : Method := { name := "<init>", desc := "()V", sig := { parameters := [], returnType := none }, accessFlags := 1, code := some k0c0 }
/-- java/lang/Object -/
def k0 : Class := { plain "java/lang/Object" none with
  accessFlags := 33
  interfaces := #[]
  cf := some (fileOf pool0 8 #[] #[{ accessFlags := 1, nameIndex := 5, descriptorIndex := 6, attributes := #[] }] 33 0 #[] #[])
  fields := #[]
  methods := #[k0m0]
  instanceTypes := #[]
  staticTypes := #[]
  resolved := Array.replicate 124 none
  statics := none }

def pool1 : Array CpInfo := pool [(2, .class_ 4), (1, u "java/lang/Object"), (0, u "<init>"), (0, u "()V"), (0, .class_ 8), (0, u "java/lang/String"), (0, .methodref 7 10), (0, .nameAndType 5 11), (0, u "([C)V"), (0, .integer 2147483647), (0, .methodref 14 15), (0, .class_ 16), (0, .nameAndType 17 18), (0, u "com/example/skuld/skuld/htn/PatternFirstArgumentPinLaw"), (0, u "one"), (0, u "(I)Ljava/lang/String;"), (0, .class_ 20), (0, u "com/example/skuld/skuld/htn/Pattern"), (0, .string 22), (0, u "p"), (0, .methodref 19 24), (0, .nameAndType 5 25), (0, u "(Ljava/lang/String;[Ljava/lang/String;[II)V"), (0, .methodref 19 27), (0, .nameAndType 28 29), (0, u "firstArgument"), (0, u "([Ljava/lang/String;)Ljava/lang/String;"), (2, u "law"), (0, u "(IIII)Z")] 7

def k1m0 : Method := { name := "<init>", desc := "()V", sig := { parameters := [], returnType := none }, accessFlags := 1, code := none }
def k1c1 : Code := { maxStack := 7, maxLocals := 1, code := method_2_code, exceptionTable := #[], attributes := #[] }
def k1m1 : Method := { name := "one", desc := "(I)Ljava/lang/String;", sig := { parameters := [.int], returnType := some (.object "java/lang/String") }, accessFlags := 10, code := some k1c1 }
def k1c2 : Code := { maxStack := 6, maxLocals := 18, code := code, exceptionTable := #[], attributes := #[] }
def k1m2 : Method := { name := "law", desc := "(IIII)Z", sig := { parameters := [.int, .int, .int, .int], returnType := some .boolean }, accessFlags := 9, code := some k1c2 }
/-- com/example/skuld/skuld/htn/PatternFirstArgumentPinLaw -/
def k1 : Class := { plain "com/example/skuld/skuld/htn/PatternFirstArgumentPinLaw" (some 0) with
  accessFlags := 49
  interfaces := #[]
  cf := some (fileOf pool1 14 #[] #[{ accessFlags := 1, nameIndex := 5, descriptorIndex := 6, attributes := #[] }, { accessFlags := 10, nameIndex := 17, descriptorIndex := 18, attributes := #[] }, { accessFlags := 9, nameIndex := 32, descriptorIndex := 33, attributes := #[] }] 49 2 #[] #[])
  fields := #[]
  methods := #[k1m0, k1m1, k1m2]
  instanceTypes := #[]
  staticTypes := #[]
  resolved := Array.replicate 41 none
  statics := none }

def pool2 : Array CpInfo := pool [(1, .class_ 2), (0, u "java/io/Serializable"), (0, .class_ 4), (0, u "java/lang/Object")] 2

/-- java/io/Serializable -/
def k2 : Class := { plain "java/io/Serializable" (some 0) with
  accessFlags := 1537
  interfaces := #[]
  cf := some (fileOf pool2 1 #[] #[] 1537 3 #[] #[])
  fields := #[]
  methods := #[]
  instanceTypes := #[]
  staticTypes := #[]
  resolved := Array.replicate 7 none
  statics := none }

def pool3 : Array CpInfo := pool [(1, .class_ 2), (0, u "java/lang/Comparable"), (0, .class_ 4), (0, u "java/lang/Object")] 7

/-- java/lang/Comparable -/
def k3 : Class := { plain "java/lang/Comparable" (some 0) with
  accessFlags := 1537
  interfaces := #[]
  cf := some (fileOf pool3 1 #[] #[] 1537 3 #[] #[])
  fields := #[]
  methods := #[]
  instanceTypes := #[]
  staticTypes := #[]
  resolved := Array.replicate 12 none
  statics := none }

def pool4 : Array CpInfo := pool [(2, .class_ 4), (1, u "java/lang/CharSequence"), (42, .class_ 48), (0, u "java/lang/CharSequence$1CodePointIterator"), (10, .class_ 60), (0, u "java/lang/CharSequence$1CharIterator"), (5, .class_ 67), (0, u "java/lang/Object")] 63

/-- java/lang/CharSequence -/
def k4 : Class := { plain "java/lang/CharSequence" (some 0) with
  accessFlags := 1537
  interfaces := #[]
  cf := some (fileOf pool4 2 #[.nestMembers #[47, 59]] #[] 1537 66 #[] #[])
  fields := #[]
  methods := #[]
  instanceTypes := #[]
  staticTypes := #[]
  resolved := Array.replicate 131 none
  statics := none }

def pool5 : Array CpInfo := pool [(1, .class_ 2), (0, u "java/lang/constant/Constable"), (0, .class_ 4), (0, u "java/lang/Object")] 6

/-- java/lang/constant/Constable -/
def k5 : Class := { plain "java/lang/constant/Constable" (some 0) with
  accessFlags := 1537
  interfaces := #[]
  cf := some (fileOf pool5 1 #[] #[] 1537 3 #[] #[])
  fields := #[]
  methods := #[]
  instanceTypes := #[]
  staticTypes := #[]
  resolved := Array.replicate 11 none
  statics := none }

def pool6 : Array CpInfo := pool [(1, .class_ 2), (0, u "java/lang/constant/ConstantDesc"), (0, .class_ 4), (0, u "java/lang/Object")] 32

/-- java/lang/constant/ConstantDesc -/
def k6 : Class := { plain "java/lang/constant/ConstantDesc" (some 0) with
  accessFlags := 1537
  interfaces := #[]
  cf := some (fileOf pool6 1 #[] #[] 1537 3 #[] #[])
  fields := #[]
  methods := #[]
  instanceTypes := #[]
  staticTypes := #[]
  resolved := Array.replicate 37 none
  statics := none }

def pool7 : Array CpInfo := pool [(1, .methodref 2 3), (0, .class_ 4), (0, .nameAndType 5 6), (0, u "java/lang/Object"), (0, u "<init>"), (0, u "()V"), (2, .fieldref 10 11), (0, .class_ 12), (0, .nameAndType 13 14), (0, u "java/lang/String"), (0, u "value"), (0, u "[B"), (0, .fieldref 10 16), (0, .nameAndType 17 18), (0, u "coder"), (0, u "B"), (2, u "hash"), (0, u "I"), (2, u "hashIsZero"), (0, u "Z"), (0, .methodref 10 28), (0, .nameAndType 5 29), (0, u "([CIILjava/lang/Void;)V"), (8, .fieldref 10 39), (0, .nameAndType 40 26), (0, u "COMPACT_STRINGS"), (1, .class_ 44), (1, u "java/lang/StringUTF16"), (0, u "compress"), (1, .methodref 42 48), (0, .nameAndType 49 50), (0, u "coderFromArrayLen"), (0, u "([BI)B"), (126, .methodref 42 178), (0, .nameAndType 45 179), (0, u "([CII)[B"), (395, .class_ 576), (0, u "java/lang/CharSequence"), (22, u "CASE_INSENSITIVE_ORDER"), (0, u "Ljava/util/Comparator;"), (409, u "([C)V"), (90, u "serialPersistentFields"), (0, u "[Ljava/io/ObjectStreamField;"), (0, .class_ 1104), (0, u "java/lang/String$CaseInsensitiveComparator"), (1, .class_ 1107), (0, u "java/io/Serializable"), (0, .class_ 1109), (0, u "java/lang/Comparable"), (0, .class_ 1111), (0, u "java/lang/constant/Constable"), (0, .class_ 1113), (0, u "java/lang/constant/ConstantDesc"), (2, u "serialVersionUID"), (0, u "J"), (3, u "REPL"), (0, u "C"), (2, u "LATIN1"), (1, u "UTF16")] 323

def k7m0 : Method := { name := "<init>", desc := "()V", sig := { parameters := [], returnType := none }, accessFlags := 1, code := none }
def k7c1 : Code := { maxStack := 5, maxLocals := 2, code := jdk_42_method_3_code, exceptionTable := #[], attributes := #[] }
def k7m1 : Method := { name := "<init>", desc := "([C)V", sig := { parameters := [(.array .char)], returnType := none }, accessFlags := 1, code := some k7c1 }
def k7c2 : Code := { maxStack := 4, maxLocals := 6, code := jdk_42_method_149_code, exceptionTable := #[], attributes := #[] }
def k7m2 : Method := { name := "<init>", desc := "([CIILjava/lang/Void;)V", sig := { parameters := [(.array .char), .int, .int, (.object "java/lang/Void")], returnType := none }, accessFlags := 2, code := some k7c2 }
/-- java/lang/String -/
def k7 : Class := { plain "java/lang/String" (some 0) with
  accessFlags := 49
  interfaces := #[2, 3, 4, 5, 6]
  cf := some (fileOf pool7 10 #[.nestMembers #[1103]] #[{ accessFlags := 1, nameIndex := 5, descriptorIndex := 6, attributes := #[] }, { accessFlags := 1, nameIndex := 5, descriptorIndex := 1010, attributes := #[] }, { accessFlags := 2, nameIndex := 5, descriptorIndex := 29, attributes := #[] }] 49 2 #[1106, 1108, 575, 1110, 1112] #[{ accessFlags := 18, nameIndex := 13, descriptorIndex := 14, attributes := #[] }, { accessFlags := 18, nameIndex := 17, descriptorIndex := 18, attributes := #[] }, { accessFlags := 2, nameIndex := 21, descriptorIndex := 22, attributes := #[] }, { accessFlags := 2, nameIndex := 25, descriptorIndex := 26, attributes := #[] }, { accessFlags := 26, nameIndex := 1116, descriptorIndex := 1117, attributes := #[] }, { accessFlags := 24, nameIndex := 40, descriptorIndex := 26, attributes := #[] }, { accessFlags := 26, nameIndex := 1101, descriptorIndex := 1102, attributes := #[] }, { accessFlags := 26, nameIndex := 1121, descriptorIndex := 1122, attributes := #[] }, { accessFlags := 25, nameIndex := 599, descriptorIndex := 600, attributes := #[] }, { accessFlags := 24, nameIndex := 1125, descriptorIndex := 18, attributes := #[] }, { accessFlags := 24, nameIndex := 1127, descriptorIndex := 18, attributes := #[] }])
  fields := #[{ name := "value", type := (.array .byte), accessFlags := 18, slot := 0, constantValue := 0 }, { name := "coder", type := .byte, accessFlags := 18, slot := 1, constantValue := 0 }, { name := "hash", type := .int, accessFlags := 2, slot := 2, constantValue := 0 }, { name := "hashIsZero", type := .boolean, accessFlags := 2, slot := 3, constantValue := 0 }, { name := "serialVersionUID", type := .long, accessFlags := 26, slot := 0, constantValue := 0 }, { name := "COMPACT_STRINGS", type := .boolean, accessFlags := 24, slot := 1, constantValue := 0 }, { name := "serialPersistentFields", type := (.array (.object "java/io/ObjectStreamField")), accessFlags := 26, slot := 2, constantValue := 0 }, { name := "REPL", type := .char, accessFlags := 26, slot := 3, constantValue := 0 }, { name := "CASE_INSENSITIVE_ORDER", type := (.object "java/util/Comparator"), accessFlags := 25, slot := 4, constantValue := 0 }, { name := "LATIN1", type := .byte, accessFlags := 24, slot := 5, constantValue := 0 }, { name := "UTF16", type := .byte, accessFlags := 24, slot := 6, constantValue := 0 }]
  methods := #[k7m0, k7m1, k7m2]
  instanceTypes := #[(.array .byte), .byte, .int, .boolean]
  staticTypes := #[.long, .boolean, (.array (.object "java/io/ObjectStreamField")), .char, (.object "java/util/Comparator"), .byte, .byte]
  resolved := Array.replicate 1451 none
  statics := some 0 }

def pool8 : Array CpInfo := pool [(6, .class_ 8), (1, u "java/lang/Object"), (0, u "<init>"), (0, u "()V"), (1, .class_ 14), (1, u "java/lang/StringUTF16"), (31, u "$assertionsDisabled"), (0, u "Z"), (13, u "HI_BYTE_SHIFT"), (0, u "I"), (2, u "LO_BYTE_SHIFT"), (49, .methodref 12 116), (0, .nameAndType 117 118), (0, u "compress"), (0, u "([CI[BII)I"), (3, u "([CII)[B"), (138, u "coderFromArrayLen"), (0, u "([BI)B"), (106, .class_ 371), (1, u "java/lang/StringUTF16$LinesSpliterator"), (58, u "MAX_LENGTH"), (196, .class_ 628), (0, u "java/lang/StringUTF16$CodePointsSpliterator"), (0, .class_ 630), (0, u "java/lang/StringUTF16$CharsSpliterator")] 4

def k8m0 : Method := { name := "<init>", desc := "()V", sig := { parameters := [], returnType := none }, accessFlags := 0, code := none }
def k8c1 : Code := { maxStack := 2, maxLocals := 2, code := jdk_52_method_15_code, exceptionTable := #[], attributes := #[] }
def k8m1 : Method := { name := "coderFromArrayLen", desc := "([BI)B", sig := { parameters := [(.array .byte), .int], returnType := some .byte }, accessFlags := 8, code := some k8c1 }
def k8c2 : Code := { maxStack := 5, maxLocals := 6, code := jdk_52_method_16_code, exceptionTable := #[], attributes := #[] }
def k8m2 : Method := { name := "compress", desc := "([CII)[B", sig := { parameters := [(.array .char), .int, .int], returnType := some (.array .byte) }, accessFlags := 9, code := some k8c2 }
def k8c3 : Code := { maxStack := 3, maxLocals := 7, code := jdk_52_method_21_code, exceptionTable := #[], attributes := #[] }
def k8m3 : Method := { name := "compress", desc := "([CI[BII)I", sig := { parameters := [(.array .char), .int, (.array .byte), .int, .int], returnType := some .int }, accessFlags := 9, code := some k8c3 }
/-- java/lang/StringUTF16 -/
def k8 : Class := { plain "java/lang/StringUTF16" (some 0) with
  accessFlags := 48
  interfaces := #[]
  cf := some (fileOf pool8 12 #[.nestMembers #[627, 629, 369]] #[{ accessFlags := 0, nameIndex := 9, descriptorIndex := 10, attributes := #[] }, { accessFlags := 8, nameIndex := 261, descriptorIndex := 262, attributes := #[] }, { accessFlags := 9, nameIndex := 117, descriptorIndex := 122, attributes := #[] }, { accessFlags := 9, nameIndex := 117, descriptorIndex := 118, attributes := #[] }] 48 6 #[] #[{ accessFlags := 26, nameIndex := 61, descriptorIndex := 62, attributes := #[] }, { accessFlags := 26, nameIndex := 65, descriptorIndex := 62, attributes := #[] }, { accessFlags := 24, nameIndex := 430, descriptorIndex := 62, attributes := #[] }, { accessFlags := 4120, nameIndex := 46, descriptorIndex := 47, attributes := #[] }])
  fields := #[{ name := "HI_BYTE_SHIFT", type := .int, accessFlags := 26, slot := 0, constantValue := 0 }, { name := "LO_BYTE_SHIFT", type := .int, accessFlags := 26, slot := 1, constantValue := 0 }, { name := "MAX_LENGTH", type := .int, accessFlags := 24, slot := 2, constantValue := 0 }, { name := "$assertionsDisabled", type := .boolean, accessFlags := 4120, slot := 3, constantValue := 0 }]
  methods := #[k8m0, k8m1, k8m2, k8m3]
  instanceTypes := #[]
  staticTypes := #[.int, .int, .int, .boolean]
  resolved := Array.replicate 635 none
  statics := none }

def pool9 : Array CpInfo := pool [(1, .methodref 2 3), (0, .class_ 4), (0, .nameAndType 5 6), (0, u "java/lang/Object"), (0, u "<init>"), (0, u "()V"), (0, .fieldref 8 9), (0, .class_ 10), (0, .nameAndType 11 12), (0, u "com/example/skuld/skuld/htn/Pattern"), (0, u "name"), (0, u "Ljava/lang/String;"), (0, .fieldref 8 14), (0, .nameAndType 15 16), (0, u "constants"), (0, u "[Ljava/lang/String;"), (0, .fieldref 8 18), (0, .nameAndType 19 20), (0, u "slots"), (0, u "[I"), (0, .fieldref 8 22), (0, .nameAndType 23 24), (0, u "line"), (0, u "I"), (30, u "(Ljava/lang/String;[Ljava/lang/String;[II)V"), (42, u "firstArgument"), (0, u "([Ljava/lang/String;)Ljava/lang/String;")] 10

def k9c0 : Code := { maxStack := 2, maxLocals := 5, code := prog_53_method_1_code, exceptionTable := #[], attributes := #[] }
def k9m0 : Method := { name := "<init>", desc := "(Ljava/lang/String;[Ljava/lang/String;[II)V", sig := { parameters := [(.object "java/lang/String"), (.array (.object "java/lang/String")), (.array .int), .int], returnType := none }, accessFlags := 0, code := some k9c0 }
def k9c1 : Code := { maxStack := 3, maxLocals := 2, code := prog_53_method_9_code, exceptionTable := #[], attributes := #[] }
def k9m1 : Method := { name := "firstArgument", desc := "([Ljava/lang/String;)Ljava/lang/String;", sig := { parameters := [(.array (.object "java/lang/String"))], returnType := some (.object "java/lang/String") }, accessFlags := 0, code := some k9c1 }
/-- com/example/skuld/skuld/htn/Pattern -/
def k9 : Class := { plain "com/example/skuld/skuld/htn/Pattern" (some 0) with
  accessFlags := 48
  interfaces := #[]
  cf := some (fileOf pool9 8 #[] #[{ accessFlags := 0, nameIndex := 5, descriptorIndex := 55, attributes := #[] }, { accessFlags := 0, nameIndex := 98, descriptorIndex := 99, attributes := #[] }] 48 2 #[] #[{ accessFlags := 18, nameIndex := 11, descriptorIndex := 12, attributes := #[] }, { accessFlags := 18, nameIndex := 15, descriptorIndex := 16, attributes := #[] }, { accessFlags := 18, nameIndex := 19, descriptorIndex := 20, attributes := #[] }, { accessFlags := 18, nameIndex := 23, descriptorIndex := 24, attributes := #[] }])
  fields := #[{ name := "name", type := (.object "java/lang/String"), accessFlags := 18, slot := 0, constantValue := 0 }, { name := "constants", type := (.array (.object "java/lang/String")), accessFlags := 18, slot := 1, constantValue := 0 }, { name := "slots", type := (.array .int), accessFlags := 18, slot := 2, constantValue := 0 }, { name := "line", type := .int, accessFlags := 18, slot := 3, constantValue := 0 }]
  methods := #[k9m0, k9m1]
  instanceTypes := #[(.object "java/lang/String"), (.array (.object "java/lang/String")), (.array .int), .int]
  staticTypes := #[]
  resolved := Array.replicate 110 none
  statics := none }

def pool10 : Array CpInfo := pool [(4, .class_ 6), (1, u "java/lang/Object"), (0, u "<init>"), (0, u "()V"), (5, .class_ 16), (1, u "java/lang/StringLatin1"), (104, u "$assertionsDisabled"), (0, u "Z"), (98, .class_ 223), (1, u "java/lang/StringLatin1$LinesSpliterator"), (166, .class_ 391), (0, u "java/lang/StringLatin1$CharsSpliterator")] 3

def k10m0 : Method := { name := "<init>", desc := "()V", sig := { parameters := [], returnType := none }, accessFlags := 0, code := none }
/-- java/lang/StringLatin1 -/
def k10 : Class := { plain "java/lang/StringLatin1" (some 0) with
  accessFlags := 48
  interfaces := #[]
  cf := some (fileOf pool10 14 #[.nestMembers #[390, 221]] #[{ accessFlags := 0, nameIndex := 7, descriptorIndex := 8, attributes := #[] }] 48 4 #[] #[{ accessFlags := 4120, nameIndex := 121, descriptorIndex := 122, attributes := #[] }])
  fields := #[{ name := "$assertionsDisabled", type := .boolean, accessFlags := 4120, slot := 0, constantValue := 0 }]
  methods := #[k10m0]
  instanceTypes := #[]
  staticTypes := #[.boolean]
  resolved := Array.replicate 395 none
  statics := none }

def pool11 : Array CpInfo := pool [(2, .class_ 4), (1, u "java/lang/Object"), (0, u "<init>"), (0, u "()V"), (17, .class_ 26), (1, u "jdk/internal/util/Preconditions"), (28, .class_ 56), (0, u "jdk/internal/util/Preconditions$4"), (57, .class_ 115), (0, u "jdk/internal/util/Preconditions$1"), (7, u "SIOOBE_FORMATTER"), (0, u "Ljava/util/function/BiFunction;"), (0, .class_ 126), (0, u "jdk/internal/util/Preconditions$2"), (3, u "AIOOBE_FORMATTER"), (0, .class_ 132), (0, u "jdk/internal/util/Preconditions$3"), (3, u "IOOBE_FORMATTER")] 57

def k11m0 : Method := { name := "<init>", desc := "()V", sig := { parameters := [], returnType := none }, accessFlags := 1, code := none }
/-- jdk/internal/util/Preconditions -/
def k11 : Class := { plain "jdk/internal/util/Preconditions" (some 0) with
  accessFlags := 33
  interfaces := #[]
  cf := some (fileOf pool11 24 #[.nestMembers #[55, 131, 125, 114]] #[{ accessFlags := 1, nameIndex := 5, descriptorIndex := 6, attributes := #[] }] 33 2 #[] #[{ accessFlags := 25, nameIndex := 123, descriptorIndex := 124, attributes := #[] }, { accessFlags := 25, nameIndex := 130, descriptorIndex := 124, attributes := #[] }, { accessFlags := 25, nameIndex := 136, descriptorIndex := 124, attributes := #[] }])
  fields := #[{ name := "SIOOBE_FORMATTER", type := (.object "java/util/function/BiFunction"), accessFlags := 25, slot := 0, constantValue := 0 }, { name := "AIOOBE_FORMATTER", type := (.object "java/util/function/BiFunction"), accessFlags := 25, slot := 1, constantValue := 0 }, { name := "IOOBE_FORMATTER", type := (.object "java/util/function/BiFunction"), accessFlags := 25, slot := 2, constantValue := 0 }]
  methods := #[k11m0]
  instanceTypes := #[]
  staticTypes := #[(.object "java/util/function/BiFunction"), (.object "java/util/function/BiFunction"), (.object "java/util/function/BiFunction")]
  resolved := Array.replicate 194 none
  statics := some 1 }

def pool12 : Array CpInfo := pool [(9, u "<init>"), (6, .class_ 18), (1, u "java/lang/Object"), (0, u "()V"), (1, .class_ 23), (1, u "jdk/internal/util/ArraysSupport"), (0, u "LOG2_ARRAY_LONG_INDEX_SCALE"), (0, u "I"), (2, u "U"), (0, u "Ljdk/internal/misc/Unsafe;"), (8, u "BIG_ENDIAN"), (0, u "Z"), (8, u "LOG2_BYTE_BIT_SIZE"), (4, u "LOG2_ARRAY_INT_INDEX_SCALE"), (54, u "JLA"), (0, u "Ljdk/internal/access/JavaLangAccess;"), (11, u "LOG2_ARRAY_BOOLEAN_INDEX_SCALE"), (9, u "LOG2_ARRAY_BYTE_INDEX_SCALE"), (5, u "LOG2_ARRAY_CHAR_INDEX_SCALE"), (5, u "LOG2_ARRAY_SHORT_INDEX_SCALE"), (18, u "LOG2_ARRAY_FLOAT_INDEX_SCALE"), (24, u "LOG2_ARRAY_DOUBLE_INDEX_SCALE"), (89, u "T_BOOLEAN"), (2, u "T_CHAR"), (1, u "T_FLOAT"), (1, u "T_DOUBLE"), (1, u "T_BYTE"), (1, u "T_SHORT"), (1, u "T_INT"), (1, u "T_LONG"), (1, u "SOFT_MAX_ARRAY_LENGTH")] 83

def k12m0 : Method := { name := "<init>", desc := "()V", sig := { parameters := [], returnType := none }, accessFlags := 2, code := none }
/-- jdk/internal/util/ArraysSupport -/
def k12 : Class := { plain "jdk/internal/util/ArraysSupport" (some 0) with
  accessFlags := 33
  interfaces := #[]
  cf := some (fileOf pool12 21 #[] #[{ accessFlags := 2, nameIndex := 9, descriptorIndex := 19, attributes := #[] }] 33 16 #[] #[{ accessFlags := 24, nameIndex := 28, descriptorIndex := 29, attributes := #[] }, { accessFlags := 26, nameIndex := 38, descriptorIndex := 39, attributes := #[] }, { accessFlags := 25, nameIndex := 121, descriptorIndex := 25, attributes := #[] }, { accessFlags := 25, nameIndex := 131, descriptorIndex := 25, attributes := #[] }, { accessFlags := 25, nameIndex := 137, descriptorIndex := 25, attributes := #[] }, { accessFlags := 25, nameIndex := 143, descriptorIndex := 25, attributes := #[] }, { accessFlags := 25, nameIndex := 53, descriptorIndex := 25, attributes := #[] }, { accessFlags := 25, nameIndex := 24, descriptorIndex := 25, attributes := #[] }, { accessFlags := 25, nameIndex := 162, descriptorIndex := 25, attributes := #[] }, { accessFlags := 25, nameIndex := 187, descriptorIndex := 25, attributes := #[] }, { accessFlags := 26, nameIndex := 48, descriptorIndex := 25, attributes := #[] }, { accessFlags := 25, nameIndex := 277, descriptorIndex := 25, attributes := #[] }, { accessFlags := 25, nameIndex := 280, descriptorIndex := 25, attributes := #[] }, { accessFlags := 25, nameIndex := 282, descriptorIndex := 25, attributes := #[] }, { accessFlags := 25, nameIndex := 284, descriptorIndex := 25, attributes := #[] }, { accessFlags := 25, nameIndex := 286, descriptorIndex := 25, attributes := #[] }, { accessFlags := 25, nameIndex := 288, descriptorIndex := 25, attributes := #[] }, { accessFlags := 25, nameIndex := 290, descriptorIndex := 25, attributes := #[] }, { accessFlags := 25, nameIndex := 292, descriptorIndex := 25, attributes := #[] }, { accessFlags := 26, nameIndex := 108, descriptorIndex := 109, attributes := #[] }, { accessFlags := 25, nameIndex := 294, descriptorIndex := 25, attributes := #[] }])
  fields := #[{ name := "U", type := (.object "jdk/internal/misc/Unsafe"), accessFlags := 24, slot := 0, constantValue := 0 }, { name := "BIG_ENDIAN", type := .boolean, accessFlags := 26, slot := 1, constantValue := 0 }, { name := "LOG2_ARRAY_BOOLEAN_INDEX_SCALE", type := .int, accessFlags := 25, slot := 2, constantValue := 0 }, { name := "LOG2_ARRAY_BYTE_INDEX_SCALE", type := .int, accessFlags := 25, slot := 3, constantValue := 0 }, { name := "LOG2_ARRAY_CHAR_INDEX_SCALE", type := .int, accessFlags := 25, slot := 4, constantValue := 0 }, { name := "LOG2_ARRAY_SHORT_INDEX_SCALE", type := .int, accessFlags := 25, slot := 5, constantValue := 0 }, { name := "LOG2_ARRAY_INT_INDEX_SCALE", type := .int, accessFlags := 25, slot := 6, constantValue := 0 }, { name := "LOG2_ARRAY_LONG_INDEX_SCALE", type := .int, accessFlags := 25, slot := 7, constantValue := 0 }, { name := "LOG2_ARRAY_FLOAT_INDEX_SCALE", type := .int, accessFlags := 25, slot := 8, constantValue := 0 }, { name := "LOG2_ARRAY_DOUBLE_INDEX_SCALE", type := .int, accessFlags := 25, slot := 9, constantValue := 0 }, { name := "LOG2_BYTE_BIT_SIZE", type := .int, accessFlags := 26, slot := 10, constantValue := 0 }, { name := "T_BOOLEAN", type := .int, accessFlags := 25, slot := 11, constantValue := 0 }, { name := "T_CHAR", type := .int, accessFlags := 25, slot := 12, constantValue := 0 }, { name := "T_FLOAT", type := .int, accessFlags := 25, slot := 13, constantValue := 0 }, { name := "T_DOUBLE", type := .int, accessFlags := 25, slot := 14, constantValue := 0 }, { name := "T_BYTE", type := .int, accessFlags := 25, slot := 15, constantValue := 0 }, { name := "T_SHORT", type := .int, accessFlags := 25, slot := 16, constantValue := 0 }, { name := "T_INT", type := .int, accessFlags := 25, slot := 17, constantValue := 0 }, { name := "T_LONG", type := .int, accessFlags := 25, slot := 18, constantValue := 0 }, { name := "JLA", type := (.object "jdk/internal/access/JavaLangAccess"), accessFlags := 26, slot := 19, constantValue := 0 }, { name := "SOFT_MAX_ARRAY_LENGTH", type := .int, accessFlags := 25, slot := 20, constantValue := 0 }]
  methods := #[k12m0]
  instanceTypes := #[]
  staticTypes := #[(.object "jdk/internal/misc/Unsafe"), .boolean, .int, .int, .int, .int, .int, .int, .int, .int, .int, .int, .int, .int, .int, .int, .int, .int, .int, (.object "jdk/internal/access/JavaLangAccess"), .int]
  resolved := Array.replicate 378 none
  statics := none }

def pool13 : Array CpInfo := pool [(1, u "java/lang/Cloneable"), (0, .class_ 1), (0, u "java/lang/Object"), (0, .class_ 3)] 3

/-- java/lang/Cloneable -/
def k13 : Class := { plain "java/lang/Cloneable" (some 0) with
  accessFlags := 1537
  interfaces := #[]
  cf := some (fileOf pool13 2 #[] #[] 1537 4 #[] #[])
  fields := #[]
  methods := #[]
  instanceTypes := #[]
  staticTypes := #[]
  resolved := Array.replicate 8 none
  statics := none }

/-- the primitive byte -/
def k14 : Class := { plain "byte" none with kind := .primitive 'B', accessFlags := 0x411 }
/-- [B -/
def k15 : Class := { plain "[B" (some 0) with kind := .array 14 .byte, interfaces := #[13, 2], accessFlags := 1041 }

/-- the primitive char -/
def k16 : Class := { plain "char" none with kind := .primitive 'C', accessFlags := 0x411 }
/-- [C -/
def k17 : Class := { plain "[C" (some 0) with kind := .array 16 .char, interfaces := #[13, 2], accessFlags := 1041 }

/-- the primitive int -/
def k18 : Class := { plain "int" none with kind := .primitive 'I', accessFlags := 0x411 }
/-- [I -/
def k19 : Class := { plain "[I" (some 0) with kind := .array 18 .int, interfaces := #[13, 2], accessFlags := 1041 }

/-- [Ljava/lang/String; -/
def k20 : Class := { plain "[Ljava/lang/String;" (some 0) with kind := .array 7 (.object "java/lang/String"), interfaces := #[13, 2], accessFlags := 1041 }

def heap : Heap := #[{ cls := 7, slots := #[.long 0, .int 1, .null, .int 0, .null, .int 0, .int 0], vm := .statics 7 },
  { cls := 11, slots := #[.null, .null, .null], vm := .statics 11 }]
def classes : Array Class := #[k0, k1, k2, k3, k4, k5, k6, k7, k8, k9, k10, k11, k12, k13, k14, k15, k16, k17, k18, k19, k20]
def interned : List (Array UInt16 × Addr) := []
def slotsUsed : Nat := 10
def theMethod : MethodId := ⟨1, 2⟩
def args0 : Array Value := #[.int 1, .int 2, .int 3, .int 4]
def aboutOver (below : List Frame) : State where
  vm := { classes := classes, interned := interned.toArray }
  heap := heap
  slotsUsed := slotsUsed
  threads := #[{ frames := .invoking theMethod args0 :: below }]
def below0 : List Frame := [.native { method := ⟨0, 0⟩, args := #[] }]
def about1 : State := aboutOver below0
def p0 : Program := .bare "" "" ""
def e0 : Env := launch0.env 0 0 0
theorem w_frames : about1.frames = Frame.invoking theMethod args0 :: below0 := rfl
set_option maxRecDepth 65536 in
theorem w_args : argsFit about1.vm theMethod args0 = true := by decide +kernel
set_option maxRecDepth 65536 in
theorem w_heap : heapFits about1 = true := by decide +kernel
set_option maxRecDepth 65536 in
theorem w_runnable : about1.curStatus? = some .runnable := by decide +kernel
set_option maxRecDepth 65536 in
theorem w_alone : about1.alone = true := by decide +kernel
set_option maxRecDepth 65536 in
theorem w_named : about1.methodNamed? x = some theMethod := by decide +kernel
set_option maxRecDepth 65536 in
theorem w_hears : about1.hears theMethod below0 = true := by decide +kernel
set_option maxRecDepth 65536 in
theorem w_ripe : about1.ripe theMethod args0 below0 = true := by decide +kernel
theorem w_running : about1.status = .running := rfl
set_option maxRecDepth 65536 in
theorem w_room : about1.hasRoom e0.platform room_1 = true :=
  launch0.hasRoom_least _ room_1 (by decide +kernel) (by decide +kernel) (by decide +kernel) (by decide +kernel) (by decide +kernel) (by decide +kernel)
theorem allAtoms_all (ts : List Jvm.Cond) (a : Array Jvm.Value) (st : Jvm.State) : (allAtoms ts).before a st = ts.all (fun c => c.before a st) := by
  induction ts with
  | nil => rfl
  | cons c t ih =>
    show (Jvm.Cond.and c (allAtoms t)).before a st = _
    rw [Jvm.Cond.before_and, ih, List.all_cons]
def words1 : List Jvm.Cond := Jvm.Cond.code x code maxLocals ret :: tables_1
/-- a 'code' word, met by the world's own term for the bytes: nothing is compared byte by byte -/
theorem code_word {y : MethodName} {bytes : ByteArray} {mx : Nat} {rt : Option FieldType} {a : Array Value} {s : State} {m : MethodId} {meth : Method} {c : Code} (h1 : s.methodNamed? y = some m) (h2 : s.vm.method? m = some meth) (h3 : meth.code = some c) (h4 : c.code = bytes)
    (h5 : (c.maxLocals == mx && c.exceptionTable.isEmpty && decide (c.maxStack ≤ mostOperands) && decide (meth.sig.returnType = rt) && !meth.locks && decide (parseMethodDescriptor y.desc = some meth.sig)) = true) : (Jvm.Cond.code y bytes mx rt).before a s = true := by
  simp only [Bool.and_eq_true, beq_iff_eq, Bool.not_eq_true', decide_eq_true_eq] at h5
  obtain ⟨⟨⟨⟨⟨g1, g2⟩, g3⟩, g4⟩, g5⟩, g6⟩ := h5
  simp [Cond.before, Cond.holds, Cond.value, h1, h2, h3, h4, g1, g2, g3, g4, g5, g6]
def isCode : Jvm.Cond → Bool
  | .code _ _ _ _ => true
  | _ => false
theorem all_split {L : List Jvm.Cond} {P : Jvm.Cond → Bool} (h1 : L.all (fun c => isCode c || P c) = true) (h2 : ∀ c ∈ L.filter isCode, P c = true) : L.all P = true := by
  refine List.all_eq_true.mpr fun c hc => ?_
  have h := List.all_eq_true.mp h1 c hc
  rcases Bool.eq_false_or_eq_true (isCode c) with hi | hi
  · exact h2 c (List.mem_filter.mpr ⟨hc, hi⟩)
  · simpa [hi] using h
set_option maxRecDepth 65536 in
theorem w_c0 : (Jvm.Cond.code x code maxLocals ret).before args0 about1 = true := code_word (m := ⟨1, 2⟩) (meth := k1m2) (c := k1c2) (by decide +kernel) rfl rfl rfl (by decide +kernel)
set_option maxRecDepth 65536 in
theorem w_c1 : (Jvm.Cond.code ({ cls := "com/example/skuld/skuld/htn/PatternFirstArgumentPinLaw", name := "one", desc := "(I)Ljava/lang/String;" } : Jvm.MethodName) method_2_code (1 : Nat) (Option.some (Jvm.ClassFile.FieldType.object "java/lang/String"))).before args0 about1 = true := code_word (m := ⟨1, 1⟩) (meth := k1m1) (c := k1c1) (by decide +kernel) rfl rfl rfl (by decide +kernel)
set_option maxRecDepth 65536 in
theorem w_c2 : (Jvm.Cond.code ({ cls := "java/lang/String", name := "<init>", desc := "([C)V" } : Jvm.MethodName) jdk_42_method_3_code (2 : Nat) (Option.none : Option Jvm.ClassFile.FieldType)).before args0 about1 = true := code_word (m := ⟨7, 1⟩) (meth := k7m1) (c := k7c1) (by decide +kernel) rfl rfl rfl (by decide +kernel)
set_option maxRecDepth 65536 in
theorem w_c3 : (Jvm.Cond.code ({ cls := "java/lang/String", name := "<init>", desc := "([CIILjava/lang/Void;)V" } : Jvm.MethodName) jdk_42_method_149_code (6 : Nat) (Option.none : Option Jvm.ClassFile.FieldType)).before args0 about1 = true := code_word (m := ⟨7, 2⟩) (meth := k7m2) (c := k7c2) (by decide +kernel) rfl rfl rfl (by decide +kernel)
set_option maxRecDepth 65536 in
theorem w_c4 : (Jvm.Cond.code ({ cls := "java/lang/Object", name := "<init>", desc := "()V" } : Jvm.MethodName) object_method_1_code (1 : Nat) (Option.none : Option Jvm.ClassFile.FieldType)).before args0 about1 = true := code_word (m := ⟨0, 0⟩) (meth := k0m0) (c := k0c0) (by decide +kernel) rfl rfl rfl (by decide +kernel)
set_option maxRecDepth 65536 in
theorem w_c5 : (Jvm.Cond.code ({ cls := "java/lang/StringUTF16", name := "compress", desc := "([CII)[B" } : Jvm.MethodName) jdk_52_method_16_code (6 : Nat) (Option.some (Jvm.ClassFile.FieldType.array Jvm.ClassFile.FieldType.byte))).before args0 about1 = true := code_word (m := ⟨8, 2⟩) (meth := k8m2) (c := k8c2) (by decide +kernel) rfl rfl rfl (by decide +kernel)
set_option maxRecDepth 65536 in
theorem w_c6 : (Jvm.Cond.code ({ cls := "java/lang/StringUTF16", name := "compress", desc := "([CI[BII)I" } : Jvm.MethodName) jdk_52_method_21_code (7 : Nat) (Option.some Jvm.ClassFile.FieldType.int)).before args0 about1 = true := code_word (m := ⟨8, 3⟩) (meth := k8m3) (c := k8c3) (by decide +kernel) rfl rfl rfl (by decide +kernel)
set_option maxRecDepth 65536 in
theorem w_c7 : (Jvm.Cond.code ({ cls := "java/lang/StringUTF16", name := "coderFromArrayLen", desc := "([BI)B" } : Jvm.MethodName) jdk_52_method_15_code (2 : Nat) (Option.some Jvm.ClassFile.FieldType.byte)).before args0 about1 = true := code_word (m := ⟨8, 1⟩) (meth := k8m1) (c := k8c1) (by decide +kernel) rfl rfl rfl (by decide +kernel)
set_option maxRecDepth 65536 in
theorem w_c8 : (Jvm.Cond.code ({ cls := "com/example/skuld/skuld/htn/Pattern", name := "<init>", desc := "(Ljava/lang/String;[Ljava/lang/String;[II)V" } : Jvm.MethodName) prog_53_method_1_code (5 : Nat) (Option.none : Option Jvm.ClassFile.FieldType)).before args0 about1 = true := code_word (m := ⟨9, 0⟩) (meth := k9m0) (c := k9c0) (by decide +kernel) rfl rfl rfl (by decide +kernel)
set_option maxRecDepth 65536 in
theorem w_c9 : (Jvm.Cond.code ({ cls := "com/example/skuld/skuld/htn/Pattern", name := "firstArgument", desc := "([Ljava/lang/String;)Ljava/lang/String;" } : Jvm.MethodName) prog_53_method_9_code (2 : Nat) (Option.some (Jvm.ClassFile.FieldType.object "java/lang/String"))).before args0 about1 = true := code_word (m := ⟨9, 1⟩) (meth := k9m1) (c := k9c1) (by decide +kernel) rfl rfl rfl (by decide +kernel)
def codes1 : List Jvm.Cond := [Jvm.Cond.code x code maxLocals ret, Jvm.Cond.code ({ cls := "com/example/skuld/skuld/htn/PatternFirstArgumentPinLaw", name := "one", desc := "(I)Ljava/lang/String;" } : Jvm.MethodName) method_2_code (1 : Nat) (Option.some (Jvm.ClassFile.FieldType.object "java/lang/String")), Jvm.Cond.code ({ cls := "java/lang/String", name := "<init>", desc := "([C)V" } : Jvm.MethodName) jdk_42_method_3_code (2 : Nat) (Option.none : Option Jvm.ClassFile.FieldType), Jvm.Cond.code ({ cls := "java/lang/String", name := "<init>", desc := "([CIILjava/lang/Void;)V" } : Jvm.MethodName) jdk_42_method_149_code (6 : Nat) (Option.none : Option Jvm.ClassFile.FieldType), Jvm.Cond.code ({ cls := "java/lang/Object", name := "<init>", desc := "()V" } : Jvm.MethodName) object_method_1_code (1 : Nat) (Option.none : Option Jvm.ClassFile.FieldType), Jvm.Cond.code ({ cls := "java/lang/StringUTF16", name := "compress", desc := "([CII)[B" } : Jvm.MethodName) jdk_52_method_16_code (6 : Nat) (Option.some (Jvm.ClassFile.FieldType.array Jvm.ClassFile.FieldType.byte)), Jvm.Cond.code ({ cls := "java/lang/StringUTF16", name := "compress", desc := "([CI[BII)I" } : Jvm.MethodName) jdk_52_method_21_code (7 : Nat) (Option.some Jvm.ClassFile.FieldType.int), Jvm.Cond.code ({ cls := "java/lang/StringUTF16", name := "coderFromArrayLen", desc := "([BI)B" } : Jvm.MethodName) jdk_52_method_15_code (2 : Nat) (Option.some Jvm.ClassFile.FieldType.byte), Jvm.Cond.code ({ cls := "com/example/skuld/skuld/htn/Pattern", name := "<init>", desc := "(Ljava/lang/String;[Ljava/lang/String;[II)V" } : Jvm.MethodName) prog_53_method_1_code (5 : Nat) (Option.none : Option Jvm.ClassFile.FieldType), Jvm.Cond.code ({ cls := "com/example/skuld/skuld/htn/Pattern", name := "firstArgument", desc := "([Ljava/lang/String;)Ljava/lang/String;" } : Jvm.MethodName) prog_53_method_9_code (2 : Nat) (Option.some (Jvm.ClassFile.FieldType.object "java/lang/String"))]
set_option maxRecDepth 65536 in
theorem codes_eq : words1.filter isCode = codes1 := rfl
theorem w_codes : ∀ c ∈ words1.filter isCode, c.before args0 about1 = true := by
  rw [codes_eq]
  intro c hc
  simp only [codes1, List.mem_cons, List.not_mem_nil, or_false] at hc
  rcases hc with rfl | rfl | rfl | rfl | rfl | rfl | rfl | rfl | rfl | rfl
  · exact w_c0
  · exact w_c1
  · exact w_c2
  · exact w_c3
  · exact w_c4
  · exact w_c5
  · exact w_c6
  · exact w_c7
  · exact w_c8
  · exact w_c9
set_option maxRecDepth 65536 in
theorem w_t1 : (words1.take 24).all (fun c => isCode c || c.before args0 about1) = true := by decide +kernel
set_option maxRecDepth 65536 in
theorem w_t2 : ((words1.drop 24).take 24).all (fun c => isCode c || c.before args0 about1) = true := by decide +kernel
set_option maxRecDepth 65536 in
theorem w_t3 : ((words1.drop 24).drop 24).all (fun c => isCode c || c.before args0 about1) = true := by decide +kernel
theorem w_tables : (allAtoms (Jvm.Cond.code x code maxLocals ret :: tables_1)).before args0 about1 = true := by
  rw [allAtoms_all]
  show words1.all (fun c => c.before args0 about1) = true
  refine all_split ?_ w_codes
  rw [← List.take_append_drop 24 words1, List.all_append, w_t1, ← List.take_append_drop 24 (words1.drop 24), List.all_append, w_t2, w_t3]
  rfl
set_option maxRecDepth 65536 in
theorem w_rest : rest_1_c.before args0 about1 = true := by decide +kernel
set_option maxRecDepth 65536 in
theorem w_case : (Jvm.Cond.and given_1 narrow_1).before args0 about1 = true := by decide +kernel
theorem w_applies : (headSpec (Jvm.Cond.code x code maxLocals ret :: tables_1) room_1).applies x e0.platform about1 = true :=
  (Spec.applies_iff w_frames).mpr ⟨w_running, w_runnable, w_alone, w_named, w_hears, w_ripe, w_room, w_tables⟩
theorem atStart : AtStart classFile x code maxLocals ret World_1 tables_1 room_1 Calls_1 rest_1 Pre_1 launch0 p0 e0 about1 theMethod args0 below0 :=
  ⟨lists_1, trivial, launch0.admits_env _ _ _, launch0.least_env, fairChoices_fair.cas, fairChoices_fair.clock, w_frames, w_args, w_heap, w_applies, trivial, w_rest, w_case⟩
end start1
theorem witness_1 : WitnessClaimed_1 := ⟨start1.p0, start1.e0, start1.about1, start1.theMethod, start1.args0, start1.below0, start1.atStart⟩
end Jvm.Pilot.@@N@@
