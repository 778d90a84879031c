import JvmDerived
import JvmDerived.Pilot.@@N@@Statement
import JvmDerived.Pilot.@@N@@Code
set_option linter.unusedVariables false
set_option linter.unusedSimpArgs false
namespace Jvm.Own
open Jvm Sem ClassFile Op Lib Jvm.Stand Jvm.Free Jvm.LawKit Jvm.RoadKit Bundle
/-- from the state U on the body comes to its end, and what it leaves answers to Q -/
def Ends (tb : Tables) (e : Env) (below : List Frame) (Q : Option Value → Heap → List Loc → Prop) (F : Outcome → State → List Loc → Prop) (U : State) : Prop :=
  ∃ s₂ o, Steps tb e below U s₂ ∧ s₂.status = .running ∧ Ended s₂ below o ∧ ∃ v L, o = .returned v ∧ Q v s₂.heap L ∧ F o s₂ L
/-- the frame that a body keeps; the wide one of a body that may load a String constant -/
abbrev FE (s : State) (C S : Nat) : Outcome → State → List Loc → Prop := fun o t L => FrameEnd s o t L C S
abbrev FW (s : State) (C S : Nat) : Outcome → State → List Loc → Prop := fun o t L => ReturnedEndW s o t L C S
section Walk
variable {p : Program} {l : Launch} {e : Env} {R : Room} {s : State} {m : MethodId} {args : Array Value} {below : List Frame} {meth : Method} {c : Code} {T : State} {locs : List Loc} {cells slots : Nat} {Q : Option Value → Heap → List Loc → Prop} {F : Outcome → State → List Loc → Prop} {C S : Nat} {pc : Nat} {Ls : Array Slot} {st : List Value} {Z : State} {a0 : Array Value} {h : Heap}
theorem Ends.step {tb : Tables} {U V : State} (k : Ends tb e below Q F V) (hs : ∀ t, Steps tb e below V t → Steps tb e below U t) : Ends tb e below Q F U := by
  obtain ⟨s₂, o, h1, r⟩ := k
  exact ⟨s₂, o, hs _ h1, r⟩
theorem Ends.mono {tb : Tables} {U : State} {Q' : Option Value → Heap → List Loc → Prop} (k : Ends tb e below Q' F U) (hq : ∀ v h L, Q' v h L → Q v h L) : Ends tb e below Q F U := by
  obtain ⟨s₂, o, h1, h2, h3, v, L, h4, h5, h6⟩ := k
  exact ⟨s₂, o, h1, h2, h3, v, L, h4, hq _ _ _ h5, h6⟩
theorem iload (n : Nat) (X : Stand p l e R s m args below meth c T locs cells slots) (hx : p.tables.exec = Jvm.exec) {k : Nat} {v : Int32} (hd : decode c.code pc = .ok (.iload k, 2)) (hn : pc + 2 = n) (hl : Ls[k]? = some (.val (.int v))) (K : Ends p.tables e below Q F (T.setTop (mkF m n Ls (.int v :: st)))) : Ends p.tables e below Q F (T.setTop (mkF m pc Ls (st))) := by
  subst hn; exact K.step fun t k => XS.iload (g := mkF m pc Ls (st)) X.here hx rfl hd hl k
theorem iloadN (n : Nat) (X : Stand p l e R s m args below meth c T locs cells slots) (hx : p.tables.exec = Jvm.exec) {k : Fin 4} {v : Int32} (hd : decode c.code pc = .ok (.iload_n k, 1)) (hn : pc + 1 = n) (hl : Ls[k.val]? = some (.val (.int v))) (K : Ends p.tables e below Q F (T.setTop (mkF m n Ls (.int v :: st)))) : Ends p.tables e below Q F (T.setTop (mkF m pc Ls (st))) := by
  subst hn; exact K.step fun t k => XS.iloadN (g := mkF m pc Ls (st)) X.here hx rfl hd hl k
theorem lload (n : Nat) (X : Stand p l e R s m args below meth c T locs cells slots) (hx : p.tables.exec = Jvm.exec) {k : Nat} {v : Int64} (hd : decode c.code pc = .ok (.lload k, 2)) (hn : pc + 2 = n) (hl : Ls[k]? = some (.val (.long v))) (K : Ends p.tables e below Q F (T.setTop (mkF m n Ls (.long v :: st)))) : Ends p.tables e below Q F (T.setTop (mkF m pc Ls (st))) := by
  subst hn; exact K.step fun t k => XS.lload (g := mkF m pc Ls (st)) X.here hx rfl hd hl k
theorem lloadN (n : Nat) (X : Stand p l e R s m args below meth c T locs cells slots) (hx : p.tables.exec = Jvm.exec) {k : Fin 4} {v : Int64} (hd : decode c.code pc = .ok (.lload_n k, 1)) (hn : pc + 1 = n) (hl : Ls[k.val]? = some (.val (.long v))) (K : Ends p.tables e below Q F (T.setTop (mkF m n Ls (.long v :: st)))) : Ends p.tables e below Q F (T.setTop (mkF m pc Ls (st))) := by
  subst hn; exact K.step fun t k => XS.lloadN (g := mkF m pc Ls (st)) X.here hx rfl hd hl k
theorem aload (n : Nat) (X : Stand p l e R s m args below meth c T locs cells slots) (hx : p.tables.exec = Jvm.exec) {k : Nat} {v : Value} (hd : decode c.code pc = .ok (.aload k, 2)) (hn : pc + 2 = n) (hl : Ls[k]? = some (.val v)) (hv : v.isRef = true) (K : Ends p.tables e below Q F (T.setTop (mkF m n Ls (v :: st)))) : Ends p.tables e below Q F (T.setTop (mkF m pc Ls (st))) := by
  subst hn; exact K.step fun t k => XS.aload (g := mkF m pc Ls (st)) X.here hx rfl hd hl hv k
theorem aloadN (n : Nat) (X : Stand p l e R s m args below meth c T locs cells slots) (hx : p.tables.exec = Jvm.exec) {k : Fin 4} {v : Value} (hd : decode c.code pc = .ok (.aload_n k, 1)) (hn : pc + 1 = n) (hl : Ls[k.val]? = some (.val v)) (hv : v.isRef = true) (K : Ends p.tables e below Q F (T.setTop (mkF m n Ls (v :: st)))) : Ends p.tables e below Q F (T.setTop (mkF m pc Ls (st))) := by
  subst hn; exact K.step fun t k => XS.aloadN (g := mkF m pc Ls (st)) X.here hx rfl hd hl hv k
theorem iconst (n : Nat) (X : Stand p l e R s m args below meth c T locs cells slots) (hx : p.tables.exec = Jvm.exec) {i : Int} (v : Int32) (hd : decode c.code pc = .ok (.iconst i, 1)) (hn : pc + 1 = n) (hv : Int32.ofInt i = v) (K : Ends p.tables e below Q F (T.setTop (mkF m n Ls (.int v :: st)))) : Ends p.tables e below Q F (T.setTop (mkF m pc Ls (st))) := by
  subst hn; exact K.step fun t k => XS.iconst (g := mkF m pc Ls (st)) X.here hx rfl hd (hv ▸ k)
theorem bipush (n : Nat) (X : Stand p l e R s m args below meth c T locs cells slots) (hx : p.tables.exec = Jvm.exec) {i : Int} (v : Int32) (hd : decode c.code pc = .ok (.bipush i, 2)) (hn : pc + 2 = n) (hv : (Int8.ofInt i).toInt32 = v) (K : Ends p.tables e below Q F (T.setTop (mkF m n Ls (.int v :: st)))) : Ends p.tables e below Q F (T.setTop (mkF m pc Ls (st))) := by
  subst hn; exact K.step fun t k => XS.bipush (g := mkF m pc Ls (st)) X.here hx rfl hd (hv ▸ k)
theorem sipush (n : Nat) (X : Stand p l e R s m args below meth c T locs cells slots) (hx : p.tables.exec = Jvm.exec) {i : Int} (v : Int32) (hd : decode c.code pc = .ok (.sipush i, 3)) (hn : pc + 3 = n) (hv : (Int16.ofInt i).toInt32 = v) (K : Ends p.tables e below Q F (T.setTop (mkF m n Ls (.int v :: st)))) : Ends p.tables e below Q F (T.setTop (mkF m pc Ls (st))) := by
  subst hn; exact K.step fun t k => XS.sipush (g := mkF m pc Ls (st)) X.here hx rfl hd (hv ▸ k)
theorem lconst (n : Nat) (X : Stand p l e R s m args below meth c T locs cells slots) (hx : p.tables.exec = Jvm.exec) {i : Fin 2} (v : Int64) (hd : decode c.code pc = .ok (.lconst i, 1)) (hn : pc + 1 = n) (hv : Int64.ofNat i = v) (K : Ends p.tables e below Q F (T.setTop (mkF m n Ls (.long v :: st)))) : Ends p.tables e below Q F (T.setTop (mkF m pc Ls (st))) := by
  subst hn; exact K.step fun t k => XS.lconst (g := mkF m pc Ls (st)) X.here hx rfl hd (hv ▸ k)
theorem aconstNull (n : Nat) (X : Stand p l e R s m args below meth c T locs cells slots) (hx : p.tables.exec = Jvm.exec)  (hd : decode c.code pc = .ok (.aconst_null, 1)) (hn : pc + 1 = n)  (K : Ends p.tables e below Q F (T.setTop (mkF m n Ls (.null :: st)))) : Ends p.tables e below Q F (T.setTop (mkF m pc Ls (st))) := by
  subst hn; exact K.step fun t k => XS.aconstNull (g := mkF m pc Ls (st)) X.here hx rfl hd k
theorem iadd (n : Nat) (X : Stand p l e R s m args below meth c T locs cells slots) (hx : p.tables.exec = Jvm.exec) {x y r : Int32} {rest : List Value} (hd : decode c.code pc = .ok (.iadd, 1)) (hn : pc + 1 = n) (hr : x + y = r) (K : Ends p.tables e below Q F (T.setTop (mkF m n Ls (.int r :: rest)))) : Ends p.tables e below Q F (T.setTop (mkF m pc Ls (.int y :: .int x :: rest))) := by
  subst hn; exact K.step fun t k => XS.iadd (g := mkF m pc Ls (.int y :: .int x :: rest)) X.here hx rfl hd rfl (hr ▸ k)
theorem isub (n : Nat) (X : Stand p l e R s m args below meth c T locs cells slots) (hx : p.tables.exec = Jvm.exec) {x y r : Int32} {rest : List Value} (hd : decode c.code pc = .ok (.isub, 1)) (hn : pc + 1 = n) (hr : x - y = r) (K : Ends p.tables e below Q F (T.setTop (mkF m n Ls (.int r :: rest)))) : Ends p.tables e below Q F (T.setTop (mkF m pc Ls (.int y :: .int x :: rest))) := by
  subst hn; exact K.step fun t k => XS.isub (g := mkF m pc Ls (.int y :: .int x :: rest)) X.here hx rfl hd rfl (hr ▸ k)
theorem iand (n : Nat) (X : Stand p l e R s m args below meth c T locs cells slots) (hx : p.tables.exec = Jvm.exec) {x y r : Int32} {rest : List Value} (hd : decode c.code pc = .ok (.iand, 1)) (hn : pc + 1 = n) (hr : x &&& y = r) (K : Ends p.tables e below Q F (T.setTop (mkF m n Ls (.int r :: rest)))) : Ends p.tables e below Q F (T.setTop (mkF m pc Ls (.int y :: .int x :: rest))) := by
  subst hn; exact K.step fun t k => XS.iand (g := mkF m pc Ls (.int y :: .int x :: rest)) X.here hx rfl hd rfl (hr ▸ k)
theorem imul (n : Nat) (X : Stand p l e R s m args below meth c T locs cells slots) (hx : p.tables.exec = Jvm.exec) {x y r : Int32} {rest : List Value} (hd : decode c.code pc = .ok (.imul, 1)) (hn : pc + 1 = n) (hr : x * y = r) (K : Ends p.tables e below Q F (T.setTop (mkF m n Ls (.int r :: rest)))) : Ends p.tables e below Q F (T.setTop (mkF m pc Ls (.int y :: .int x :: rest))) := by
  subst hn; exact K.step fun t k => XS.imul (g := mkF m pc Ls (.int y :: .int x :: rest)) X.here hx rfl hd rfl (hr ▸ k)
theorem ior (n : Nat) (X : Stand p l e R s m args below meth c T locs cells slots) (hx : p.tables.exec = Jvm.exec) {x y r : Int32} {rest : List Value} (hd : decode c.code pc = .ok (.ior, 1)) (hn : pc + 1 = n) (hr : x ||| y = r) (K : Ends p.tables e below Q F (T.setTop (mkF m n Ls (.int r :: rest)))) : Ends p.tables e below Q F (T.setTop (mkF m pc Ls (.int y :: .int x :: rest))) := by
  subst hn; exact K.step fun t k => XS.ior (g := mkF m pc Ls (.int y :: .int x :: rest)) X.here hx rfl hd rfl (hr ▸ k)
theorem ixor (n : Nat) (X : Stand p l e R s m args below meth c T locs cells slots) (hx : p.tables.exec = Jvm.exec) {x y r : Int32} {rest : List Value} (hd : decode c.code pc = .ok (.ixor, 1)) (hn : pc + 1 = n) (hr : x ^^^ y = r) (K : Ends p.tables e below Q F (T.setTop (mkF m n Ls (.int r :: rest)))) : Ends p.tables e below Q F (T.setTop (mkF m pc Ls (.int y :: .int x :: rest))) := by
  subst hn; exact K.step fun t k => XS.ixor (g := mkF m pc Ls (.int y :: .int x :: rest)) X.here hx rfl hd rfl (hr ▸ k)
theorem ishl (n : Nat) (X : Stand p l e R s m args below meth c T locs cells slots) (hx : p.tables.exec = Jvm.exec) {x y r : Int32} {rest : List Value} (hd : decode c.code pc = .ok (.ishl, 1)) (hn : pc + 1 = n) (hr : x <<< (y &&& 31) = r) (K : Ends p.tables e below Q F (T.setTop (mkF m n Ls (.int r :: rest)))) : Ends p.tables e below Q F (T.setTop (mkF m pc Ls (.int y :: .int x :: rest))) := by
  subst hn; exact K.step fun t k => XS.ishl (g := mkF m pc Ls (.int y :: .int x :: rest)) X.here hx rfl hd rfl (hr ▸ k)
theorem ishr (n : Nat) (X : Stand p l e R s m args below meth c T locs cells slots) (hx : p.tables.exec = Jvm.exec) {x y r : Int32} {rest : List Value} (hd : decode c.code pc = .ok (.ishr, 1)) (hn : pc + 1 = n) (hr : x >>> (y &&& 31) = r) (K : Ends p.tables e below Q F (T.setTop (mkF m n Ls (.int r :: rest)))) : Ends p.tables e below Q F (T.setTop (mkF m pc Ls (.int y :: .int x :: rest))) := by
  subst hn; exact K.step fun t k => XS.ishr (g := mkF m pc Ls (.int y :: .int x :: rest)) X.here hx rfl hd rfl (hr ▸ k)
theorem iushr (n : Nat) (X : Stand p l e R s m args below meth c T locs cells slots) (hx : p.tables.exec = Jvm.exec) {x y r : Int32} {rest : List Value} (hd : decode c.code pc = .ok (.iushr, 1)) (hn : pc + 1 = n) (hr : (x.toUInt32 >>> (y &&& 31).toUInt32).toInt32 = r) (K : Ends p.tables e below Q F (T.setTop (mkF m n Ls (.int r :: rest)))) : Ends p.tables e below Q F (T.setTop (mkF m pc Ls (.int y :: .int x :: rest))) := by
  subst hn; exact K.step fun t k => XS.iushr (g := mkF m pc Ls (.int y :: .int x :: rest)) X.here hx rfl hd rfl (hr ▸ k)
theorem ladd (n : Nat) (X : Stand p l e R s m args below meth c T locs cells slots) (hx : p.tables.exec = Jvm.exec) {x y r : Int64} {rest : List Value} (hd : decode c.code pc = .ok (.ladd, 1)) (hn : pc + 1 = n) (hr : x + y = r) (K : Ends p.tables e below Q F (T.setTop (mkF m n Ls (.long r :: rest)))) : Ends p.tables e below Q F (T.setTop (mkF m pc Ls (.long y :: .long x :: rest))) := by
  subst hn; exact K.step fun t k => XS.ladd (g := mkF m pc Ls (.long y :: .long x :: rest)) X.here hx rfl hd rfl (hr ▸ k)
theorem lsub (n : Nat) (X : Stand p l e R s m args below meth c T locs cells slots) (hx : p.tables.exec = Jvm.exec) {x y r : Int64} {rest : List Value} (hd : decode c.code pc = .ok (.lsub, 1)) (hn : pc + 1 = n) (hr : x - y = r) (K : Ends p.tables e below Q F (T.setTop (mkF m n Ls (.long r :: rest)))) : Ends p.tables e below Q F (T.setTop (mkF m pc Ls (.long y :: .long x :: rest))) := by
  subst hn; exact K.step fun t k => XS.lsub (g := mkF m pc Ls (.long y :: .long x :: rest)) X.here hx rfl hd rfl (hr ▸ k)
theorem land (n : Nat) (X : Stand p l e R s m args below meth c T locs cells slots) (hx : p.tables.exec = Jvm.exec) {x y r : Int64} {rest : List Value} (hd : decode c.code pc = .ok (.land, 1)) (hn : pc + 1 = n) (hr : x &&& y = r) (K : Ends p.tables e below Q F (T.setTop (mkF m n Ls (.long r :: rest)))) : Ends p.tables e below Q F (T.setTop (mkF m pc Ls (.long y :: .long x :: rest))) := by
  subst hn; exact K.step fun t k => XS.land (g := mkF m pc Ls (.long y :: .long x :: rest)) X.here hx rfl hd rfl (hr ▸ k)
theorem lmul (n : Nat) (X : Stand p l e R s m args below meth c T locs cells slots) (hx : p.tables.exec = Jvm.exec) {x y r : Int64} {rest : List Value} (hd : decode c.code pc = .ok (.lmul, 1)) (hn : pc + 1 = n) (hr : x * y = r) (K : Ends p.tables e below Q F (T.setTop (mkF m n Ls (.long r :: rest)))) : Ends p.tables e below Q F (T.setTop (mkF m pc Ls (.long y :: .long x :: rest))) := by
  subst hn; exact K.step fun t k => XS.lmul (g := mkF m pc Ls (.long y :: .long x :: rest)) X.here hx rfl hd rfl (hr ▸ k)
theorem lor (n : Nat) (X : Stand p l e R s m args below meth c T locs cells slots) (hx : p.tables.exec = Jvm.exec) {x y r : Int64} {rest : List Value} (hd : decode c.code pc = .ok (.lor, 1)) (hn : pc + 1 = n) (hr : x ||| y = r) (K : Ends p.tables e below Q F (T.setTop (mkF m n Ls (.long r :: rest)))) : Ends p.tables e below Q F (T.setTop (mkF m pc Ls (.long y :: .long x :: rest))) := by
  subst hn; exact K.step fun t k => XS.lor (g := mkF m pc Ls (.long y :: .long x :: rest)) X.here hx rfl hd rfl (hr ▸ k)
theorem lxor (n : Nat) (X : Stand p l e R s m args below meth c T locs cells slots) (hx : p.tables.exec = Jvm.exec) {x y r : Int64} {rest : List Value} (hd : decode c.code pc = .ok (.lxor, 1)) (hn : pc + 1 = n) (hr : x ^^^ y = r) (K : Ends p.tables e below Q F (T.setTop (mkF m n Ls (.long r :: rest)))) : Ends p.tables e below Q F (T.setTop (mkF m pc Ls (.long y :: .long x :: rest))) := by
  subst hn; exact K.step fun t k => XS.lxor (g := mkF m pc Ls (.long y :: .long x :: rest)) X.here hx rfl hd rfl (hr ▸ k)
theorem lshl (n : Nat) (X : Stand p l e R s m args below meth c T locs cells slots) (hx : p.tables.exec = Jvm.exec) {x r : Int64} {y : Int32} {rest : List Value} (hd : decode c.code pc = .ok (.lshl, 1)) (hn : pc + 1 = n) (hr : x <<< (y &&& 0x3f).toInt64 = r) (K : Ends p.tables e below Q F (T.setTop (mkF m n Ls (.long r :: rest)))) : Ends p.tables e below Q F (T.setTop (mkF m pc Ls (.int y :: .long x :: rest))) := by
  subst hn; exact K.step fun t k => XS.lshl (g := mkF m pc Ls (.int y :: .long x :: rest)) X.here hx rfl hd rfl (hr ▸ k)
theorem lshr (n : Nat) (X : Stand p l e R s m args below meth c T locs cells slots) (hx : p.tables.exec = Jvm.exec) {x r : Int64} {y : Int32} {rest : List Value} (hd : decode c.code pc = .ok (.lshr, 1)) (hn : pc + 1 = n) (hr : x >>> (y &&& 0x3f).toInt64 = r) (K : Ends p.tables e below Q F (T.setTop (mkF m n Ls (.long r :: rest)))) : Ends p.tables e below Q F (T.setTop (mkF m pc Ls (.int y :: .long x :: rest))) := by
  subst hn; exact K.step fun t k => XS.lshr (g := mkF m pc Ls (.int y :: .long x :: rest)) X.here hx rfl hd rfl (hr ▸ k)
theorem lushr (n : Nat) (X : Stand p l e R s m args below meth c T locs cells slots) (hx : p.tables.exec = Jvm.exec) {x r : Int64} {y : Int32} {rest : List Value} (hd : decode c.code pc = .ok (.lushr, 1)) (hn : pc + 1 = n) (hr : (x.toUInt64 >>> (y &&& 0x3f).toInt64.toUInt64).toInt64 = r) (K : Ends p.tables e below Q F (T.setTop (mkF m n Ls (.long r :: rest)))) : Ends p.tables e below Q F (T.setTop (mkF m pc Ls (.int y :: .long x :: rest))) := by
  subst hn; exact K.step fun t k => XS.lushr (g := mkF m pc Ls (.int y :: .long x :: rest)) X.here hx rfl hd rfl (hr ▸ k)
theorem idiv (n : Nat) (X : Stand p l e R s m args below meth c T locs cells slots) (hx : p.tables.exec = Jvm.exec) {x y r : Int32} {rest : List Value} (hd : decode c.code pc = .ok (.idiv, 1)) (hn : pc + 1 = n) (hy : y ≠ 0) (hr : x / y = r) (K : Ends p.tables e below Q F (T.setTop (mkF m n Ls (.int r :: rest)))) : Ends p.tables e below Q F (T.setTop (mkF m pc Ls (.int y :: .int x :: rest))) := by
  subst hn; exact K.step fun t k => XS.idiv (g := mkF m pc Ls (.int y :: .int x :: rest)) X.here hx rfl hd rfl hy (hr ▸ k)
theorem irem (n : Nat) (X : Stand p l e R s m args below meth c T locs cells slots) (hx : p.tables.exec = Jvm.exec) {x y r : Int32} {rest : List Value} (hd : decode c.code pc = .ok (.irem, 1)) (hn : pc + 1 = n) (hy : y ≠ 0) (hr : x % y = r) (K : Ends p.tables e below Q F (T.setTop (mkF m n Ls (.int r :: rest)))) : Ends p.tables e below Q F (T.setTop (mkF m pc Ls (.int y :: .int x :: rest))) := by
  subst hn; exact K.step fun t k => iremM (g := mkF m pc Ls (.int y :: .int x :: rest)) X hx rfl hd rfl hy (hr ▸ k)
theorem ldiv (n : Nat) (X : Stand p l e R s m args below meth c T locs cells slots) (hx : p.tables.exec = Jvm.exec) {x y r : Int64} {rest : List Value} (hd : decode c.code pc = .ok (.ldiv, 1)) (hn : pc + 1 = n) (hy : y ≠ 0) (hr : x / y = r) (K : Ends p.tables e below Q F (T.setTop (mkF m n Ls (.long r :: rest)))) : Ends p.tables e below Q F (T.setTop (mkF m pc Ls (.long y :: .long x :: rest))) := by
  subst hn; exact K.step fun t k => XS.ldiv (g := mkF m pc Ls (.long y :: .long x :: rest)) X.here hx rfl hd rfl hy (hr ▸ k)
theorem lrem (n : Nat) (X : Stand p l e R s m args below meth c T locs cells slots) (hx : p.tables.exec = Jvm.exec) {x y r : Int64} {rest : List Value} (hd : decode c.code pc = .ok (.lrem, 1)) (hn : pc + 1 = n) (hy : y ≠ 0) (hr : x % y = r) (K : Ends p.tables e below Q F (T.setTop (mkF m n Ls (.long r :: rest)))) : Ends p.tables e below Q F (T.setTop (mkF m pc Ls (.long y :: .long x :: rest))) := by
  subst hn; exact K.step fun t k => XS.lrem (g := mkF m pc Ls (.long y :: .long x :: rest)) X.here hx rfl hd rfl hy (by rw [lrem_mod, hr]; exact k)
theorem ineg (n : Nat) (X : Stand p l e R s m args below meth c T locs cells slots) (hx : p.tables.exec = Jvm.exec) {x : Int32} {r : Int32} {rest : List Value} (hd : decode c.code pc = .ok (.ineg, 1)) (hn : pc + 1 = n) (hr : -x = r) (K : Ends p.tables e below Q F (T.setTop (mkF m n Ls (.int r :: rest)))) : Ends p.tables e below Q F (T.setTop (mkF m pc Ls (.int x :: rest))) := by
  subst hn; exact K.step fun t k => XS.ineg (g := mkF m pc Ls (.int x :: rest)) X.here hx rfl hd rfl (hr ▸ k)
theorem lneg (n : Nat) (X : Stand p l e R s m args below meth c T locs cells slots) (hx : p.tables.exec = Jvm.exec) {x : Int64} {r : Int64} {rest : List Value} (hd : decode c.code pc = .ok (.lneg, 1)) (hn : pc + 1 = n) (hr : -x = r) (K : Ends p.tables e below Q F (T.setTop (mkF m n Ls (.long r :: rest)))) : Ends p.tables e below Q F (T.setTop (mkF m pc Ls (.long x :: rest))) := by
  subst hn; exact K.step fun t k => XS.lneg (g := mkF m pc Ls (.long x :: rest)) X.here hx rfl hd rfl (hr ▸ k)
theorem i2l (n : Nat) (X : Stand p l e R s m args below meth c T locs cells slots) (hx : p.tables.exec = Jvm.exec) {x : Int32} {r : Int64} {rest : List Value} (hd : decode c.code pc = .ok (.i2l, 1)) (hn : pc + 1 = n) (hr : x.toInt64 = r) (K : Ends p.tables e below Q F (T.setTop (mkF m n Ls (.long r :: rest)))) : Ends p.tables e below Q F (T.setTop (mkF m pc Ls (.int x :: rest))) := by
  subst hn; exact K.step fun t k => XS.i2l (g := mkF m pc Ls (.int x :: rest)) X.here hx rfl hd rfl (hr ▸ k)
theorem l2i (n : Nat) (X : Stand p l e R s m args below meth c T locs cells slots) (hx : p.tables.exec = Jvm.exec) {x : Int64} {r : Int32} {rest : List Value} (hd : decode c.code pc = .ok (.l2i, 1)) (hn : pc + 1 = n) (hr : x.toInt32 = r) (K : Ends p.tables e below Q F (T.setTop (mkF m n Ls (.int r :: rest)))) : Ends p.tables e below Q F (T.setTop (mkF m pc Ls (.long x :: rest))) := by
  subst hn; exact K.step fun t k => XS.l2i (g := mkF m pc Ls (.long x :: rest)) X.here hx rfl hd rfl (hr ▸ k)
theorem i2b (n : Nat) (X : Stand p l e R s m args below meth c T locs cells slots) (hx : p.tables.exec = Jvm.exec) {x : Int32} {r : Int32} {rest : List Value} (hd : decode c.code pc = .ok (.i2b, 1)) (hn : pc + 1 = n) (hr : x.toInt8.toInt32 = r) (K : Ends p.tables e below Q F (T.setTop (mkF m n Ls (.int r :: rest)))) : Ends p.tables e below Q F (T.setTop (mkF m pc Ls (.int x :: rest))) := by
  subst hn; exact K.step fun t k => XS.i2b (g := mkF m pc Ls (.int x :: rest)) X.here hx rfl hd rfl (hr ▸ k)
theorem i2c (n : Nat) (X : Stand p l e R s m args below meth c T locs cells slots) (hx : p.tables.exec = Jvm.exec) {x : Int32} {r : Int32} {rest : List Value} (hd : decode c.code pc = .ok (.i2c, 1)) (hn : pc + 1 = n) (hr : x.toUInt32.toUInt16.toUInt32.toInt32 = r) (K : Ends p.tables e below Q F (T.setTop (mkF m n Ls (.int r :: rest)))) : Ends p.tables e below Q F (T.setTop (mkF m pc Ls (.int x :: rest))) := by
  subst hn; exact K.step fun t k => XS.i2c (g := mkF m pc Ls (.int x :: rest)) X.here hx rfl hd rfl (hr ▸ k)
theorem i2s (n : Nat) (X : Stand p l e R s m args below meth c T locs cells slots) (hx : p.tables.exec = Jvm.exec) {x : Int32} {r : Int32} {rest : List Value} (hd : decode c.code pc = .ok (.i2s, 1)) (hn : pc + 1 = n) (hr : x.toInt16.toInt32 = r) (K : Ends p.tables e below Q F (T.setTop (mkF m n Ls (.int r :: rest)))) : Ends p.tables e below Q F (T.setTop (mkF m pc Ls (.int x :: rest))) := by
  subst hn; exact K.step fun t k => XS.i2s (g := mkF m pc Ls (.int x :: rest)) X.here hx rfl hd rfl (hr ▸ k)
theorem dup (n : Nat) (X : Stand p l e R s m args below meth c T locs cells slots) (hx : p.tables.exec = Jvm.exec) {x : Value} {rest : List Value} (hd : decode c.code pc = .ok (.dup, 1)) (hn : pc + 1 = n) (hc : x.category = 1) (K : Ends p.tables e below Q F (T.setTop (mkF m n Ls (x :: x :: rest)))) : Ends p.tables e below Q F (T.setTop (mkF m pc Ls (x :: rest))) := by
  subst hn; exact K.step fun t k => XS.dup (g := mkF m pc Ls (x :: rest)) X.here hx rfl hd rfl hc k
theorem pop (n : Nat) (X : Stand p l e R s m args below meth c T locs cells slots) (hx : p.tables.exec = Jvm.exec) {x : Value} {rest : List Value} (hd : decode c.code pc = .ok (.pop, 1)) (hn : pc + 1 = n) (hc : x.category = 1) (K : Ends p.tables e below Q F (T.setTop (mkF m n Ls (rest)))) : Ends p.tables e below Q F (T.setTop (mkF m pc Ls (x :: rest))) := by
  subst hn; exact K.step fun t k => XS.pop (g := mkF m pc Ls (x :: rest)) X.here hx rfl hd rfl hc k
theorem dupX1 (n : Nat) (X : Stand p l e R s m args below meth c T locs cells slots) (hx : p.tables.exec = Jvm.exec) {x y : Value} {rest : List Value} (hd : decode c.code pc = .ok (.dup_x1, 1)) (hn : pc + 1 = n) (hc : x.category = 1) (hc2 : y.category = 1) (K : Ends p.tables e below Q F (T.setTop (mkF m n Ls (x :: y :: x :: rest)))) : Ends p.tables e below Q F (T.setTop (mkF m pc Ls (x :: y :: rest))) := by
  subst hn; exact K.step fun t k => XS.dupX1 (g := mkF m pc Ls (x :: y :: rest)) X.here hx rfl hd rfl hc hc2 k
theorem istore (n : Nat) (Fs : Int32 → Array Slot) (X : Stand p l e R s m args below meth c T locs cells slots) (hx : p.tables.exec = Jvm.exec) {k : Nat} {x : Int32} {rest : List Value} (hd : decode c.code pc = .ok (.istore k, 2)) (hn : pc + 2 = n) (hl : ∀ z, storeLocals Ls k (.int z) = some (Fs z)) (K : ∀ z, z = x → Ends p.tables e below Q F (T.setTop (mkF m n (Fs z) (rest)))) : Ends p.tables e below Q F (T.setTop (mkF m pc Ls (.int x :: rest))) := by
  subst hn; exact (K x rfl).step fun t k => XS.istore (g := mkF m pc Ls (.int x :: rest)) X.here hx rfl hd rfl (hl x) k
theorem istoreV (n : Nat) (L1 : Array Slot) (X : Stand p l e R s m args below meth c T locs cells slots) (hx : p.tables.exec = Jvm.exec) {k : Nat} {x : Int32} {rest : List Value} (hd : decode c.code pc = .ok (.istore k, 2)) (hn : pc + 2 = n) (hl : storeLocals Ls k (.int x) = some L1) (K : Ends p.tables e below Q F (T.setTop (mkF m n L1 (rest)))) : Ends p.tables e below Q F (T.setTop (mkF m pc Ls (.int x :: rest))) := by
  subst hn; exact K.step fun t k => XS.istore (g := mkF m pc Ls (.int x :: rest)) X.here hx rfl hd rfl hl k
theorem istoreN (n : Nat) (Fs : Int32 → Array Slot) (X : Stand p l e R s m args below meth c T locs cells slots) (hx : p.tables.exec = Jvm.exec) {k : Fin 4} {x : Int32} {rest : List Value} (hd : decode c.code pc = .ok (.istore_n k, 1)) (hn : pc + 1 = n) (hl : ∀ z, storeLocals Ls k.val (.int z) = some (Fs z)) (K : ∀ z, z = x → Ends p.tables e below Q F (T.setTop (mkF m n (Fs z) (rest)))) : Ends p.tables e below Q F (T.setTop (mkF m pc Ls (.int x :: rest))) := by
  subst hn; exact (K x rfl).step fun t k => XS.istoreN (g := mkF m pc Ls (.int x :: rest)) X.here hx rfl hd rfl (hl x) k
theorem istoreNV (n : Nat) (L1 : Array Slot) (X : Stand p l e R s m args below meth c T locs cells slots) (hx : p.tables.exec = Jvm.exec) {k : Fin 4} {x : Int32} {rest : List Value} (hd : decode c.code pc = .ok (.istore_n k, 1)) (hn : pc + 1 = n) (hl : storeLocals Ls k.val (.int x) = some L1) (K : Ends p.tables e below Q F (T.setTop (mkF m n L1 (rest)))) : Ends p.tables e below Q F (T.setTop (mkF m pc Ls (.int x :: rest))) := by
  subst hn; exact K.step fun t k => XS.istoreN (g := mkF m pc Ls (.int x :: rest)) X.here hx rfl hd rfl hl k
theorem lstore (n : Nat) (Fs : Int64 → Array Slot) (X : Stand p l e R s m args below meth c T locs cells slots) (hx : p.tables.exec = Jvm.exec) {k : Nat} {x : Int64} {rest : List Value} (hd : decode c.code pc = .ok (.lstore k, 2)) (hn : pc + 2 = n) (hl : ∀ z, storeLocals Ls k (.long z) = some (Fs z)) (K : ∀ z, z = x → Ends p.tables e below Q F (T.setTop (mkF m n (Fs z) (rest)))) : Ends p.tables e below Q F (T.setTop (mkF m pc Ls (.long x :: rest))) := by
  subst hn; exact (K x rfl).step fun t k => XS.lstore (g := mkF m pc Ls (.long x :: rest)) X.here hx rfl hd rfl (hl x) k
theorem lstoreV (n : Nat) (L1 : Array Slot) (X : Stand p l e R s m args below meth c T locs cells slots) (hx : p.tables.exec = Jvm.exec) {k : Nat} {x : Int64} {rest : List Value} (hd : decode c.code pc = .ok (.lstore k, 2)) (hn : pc + 2 = n) (hl : storeLocals Ls k (.long x) = some L1) (K : Ends p.tables e below Q F (T.setTop (mkF m n L1 (rest)))) : Ends p.tables e below Q F (T.setTop (mkF m pc Ls (.long x :: rest))) := by
  subst hn; exact K.step fun t k => XS.lstore (g := mkF m pc Ls (.long x :: rest)) X.here hx rfl hd rfl hl k
theorem lstoreN (n : Nat) (Fs : Int64 → Array Slot) (X : Stand p l e R s m args below meth c T locs cells slots) (hx : p.tables.exec = Jvm.exec) {k : Fin 4} {x : Int64} {rest : List Value} (hd : decode c.code pc = .ok (.lstore_n k, 1)) (hn : pc + 1 = n) (hl : ∀ z, storeLocals Ls k.val (.long z) = some (Fs z)) (K : ∀ z, z = x → Ends p.tables e below Q F (T.setTop (mkF m n (Fs z) (rest)))) : Ends p.tables e below Q F (T.setTop (mkF m pc Ls (.long x :: rest))) := by
  subst hn; exact (K x rfl).step fun t k => XS.lstoreN (g := mkF m pc Ls (.long x :: rest)) X.here hx rfl hd rfl (hl x) k
theorem lstoreNV (n : Nat) (L1 : Array Slot) (X : Stand p l e R s m args below meth c T locs cells slots) (hx : p.tables.exec = Jvm.exec) {k : Fin 4} {x : Int64} {rest : List Value} (hd : decode c.code pc = .ok (.lstore_n k, 1)) (hn : pc + 1 = n) (hl : storeLocals Ls k.val (.long x) = some L1) (K : Ends p.tables e below Q F (T.setTop (mkF m n L1 (rest)))) : Ends p.tables e below Q F (T.setTop (mkF m pc Ls (.long x :: rest))) := by
  subst hn; exact K.step fun t k => XS.lstoreN (g := mkF m pc Ls (.long x :: rest)) X.here hx rfl hd rfl hl k
theorem astore (n : Nat) (L1 : Array Slot) (X : Stand p l e R s m args below meth c T locs cells slots) (hx : p.tables.exec = Jvm.exec) {k : Nat} {x : Value} {rest : List Value} (hd : decode c.code pc = .ok (.astore k, 2)) (hn : pc + 2 = n) (hv : x.isRef = true) (hl : storeLocals Ls k x = some L1) (K : Ends p.tables e below Q F (T.setTop (mkF m n L1 (rest)))) : Ends p.tables e below Q F (T.setTop (mkF m pc Ls (x :: rest))) := by
  subst hn; exact K.step fun t k => XS.astore (g := mkF m pc Ls (x :: rest)) X.here hx rfl hd rfl hv hl k
theorem astoreN (n : Nat) (L1 : Array Slot) (X : Stand p l e R s m args below meth c T locs cells slots) (hx : p.tables.exec = Jvm.exec) {k : Fin 4} {x : Value} {rest : List Value} (hd : decode c.code pc = .ok (.astore_n k, 1)) (hn : pc + 1 = n) (hv : x.isRef = true) (hl : storeLocals Ls k.val x = some L1) (K : Ends p.tables e below Q F (T.setTop (mkF m n L1 (rest)))) : Ends p.tables e below Q F (T.setTop (mkF m pc Ls (x :: rest))) := by
  subst hn; exact K.step fun t k => XS.astoreN (g := mkF m pc Ls (x :: rest)) X.here hx rfl hd rfl hv hl k
theorem iinc (n : Nat) (Fs : Int32 → Array Slot) (X : Stand p l e R s m args below meth c T locs cells slots) (hx : p.tables.exec = Jvm.exec) {k : Nat} {cst : Int} {x : Int32} (d : Int32) (hd : decode c.code pc = .ok (.iinc k cst, 3)) (hn : pc + 3 = n) (hc : Int32.ofInt cst = d) (hl : Ls[k]? = some (.val (.int x))) (hl2 : ∀ z, storeLocals Ls k (.int z) = some (Fs z)) (K : ∀ z, z = x + d → Ends p.tables e below Q F (T.setTop (mkF m n (Fs z) (st)))) : Ends p.tables e below Q F (T.setTop (mkF m pc Ls (st))) := by
  subst hn hc; exact (K _ rfl).step fun t k => XS.iinc (g := mkF m pc Ls st) X.here hx rfl hd hl (hl2 _) k
theorem goto (n : Nat) (X : Stand p l e R s m args below meth c T locs cells slots) (hx : p.tables.exec = Jvm.exec) {o : Int} (hd : decode c.code pc = .ok (.goto o, 3)) (hn : 0 ≤ (pc : Int) + o ∧ ((pc : Int) + o).toNat = n) (K : Ends p.tables e below Q F (T.setTop (mkF m n Ls (st)))) : Ends p.tables e below Q F (T.setTop (mkF m pc Ls (st))) :=
  K.step fun t k => XS.goto (g := mkF m pc Ls st) X.here hx rfl (pc0 := pc) (pc' := n) rfl hd hn.1 hn.2 k
theorem icmpB (nY nN : Nat) (X : Stand p l e R s m args below meth c T locs cells slots) (hx : p.tables.exec = Jvm.exec) {cd : ClassFile.Cond} {o : Int} {x y : Int32} {rest : List Value} (hd : decode c.code pc = .ok (.if_icmp cd o, 3)) (hY : 0 ≤ (pc : Int) + o ∧ ((pc : Int) + o).toNat = nY) (hN : pc + 3 = nN) (KY : if_icmp.holds cd x y = true → Ends p.tables e below Q F (T.setTop (mkF m nY Ls (rest)))) (KN : if_icmp.holds cd x y = false → Ends p.tables e below Q F (T.setTop (mkF m nN Ls (rest)))) : Ends p.tables e below Q F (T.setTop (mkF m pc Ls (.int y :: .int x :: rest))) := by
  subst hN
  cases hb : if_icmp.holds cd x y with
  | true => exact (KY hb).step fun t k => XS.icmpYes (g := mkF m pc Ls (.int y :: .int x :: rest)) X.here hx rfl (pc0 := pc) (pc' := nY) rfl hd rfl hb hY.1 hY.2 k
  | false => exact (KN hb).step fun t k => XS.icmpNo (g := mkF m pc Ls (.int y :: .int x :: rest)) X.here hx rfl hd rfl hb k
theorem ifB (nY nN : Nat) (X : Stand p l e R s m args below meth c T locs cells slots) (hx : p.tables.exec = Jvm.exec) {cd : ClassFile.Cond} {o : Int} {x : Int32} {rest : List Value} (hd : decode c.code pc = .ok (.ifCond cd o, 3)) (hY : 0 ≤ (pc : Int) + o ∧ ((pc : Int) + o).toNat = nY) (hN : pc + 3 = nN) (KY : if_icmp.holds cd x 0 = true → Ends p.tables e below Q F (T.setTop (mkF m nY Ls (rest)))) (KN : if_icmp.holds cd x 0 = false → Ends p.tables e below Q F (T.setTop (mkF m nN Ls (rest)))) : Ends p.tables e below Q F (T.setTop (mkF m pc Ls (.int x :: rest))) := by
  subst hN
  cases hb : if_icmp.holds cd x 0 with
  | true => exact (KY hb).step fun t k => XS.ifYes (g := mkF m pc Ls (.int x :: rest)) X.here hx rfl (pc0 := pc) (pc' := nY) rfl hd rfl ((if0 _ _).trans hb) hY.1 hY.2 k
  | false => exact (KN hb).step fun t k => XS.ifNo (g := mkF m pc Ls (.int x :: rest)) X.here hx rfl hd rfl ((if0 _ _).trans hb) k
theorem h_lt {x y : Int32} : (if_icmp.holds .lt x y = true → x < y) ∧ (if_icmp.holds .lt x y = false → ¬ x < y) := by simp [if_icmp.holds]
theorem h_ge {x y : Int32} : (if_icmp.holds .ge x y = true → ¬ x < y) ∧ (if_icmp.holds .ge x y = false → x < y) := by simp [if_icmp.holds, Int32.not_lt, Int32.not_le]
theorem h_gt {x y : Int32} : (if_icmp.holds .gt x y = true → y < x) ∧ (if_icmp.holds .gt x y = false → ¬ y < x) := by simp [if_icmp.holds, Int32.not_lt, Int32.not_le]
theorem h_le {x y : Int32} : (if_icmp.holds .le x y = true → ¬ y < x) ∧ (if_icmp.holds .le x y = false → y < x) := by simp [if_icmp.holds, Int32.not_lt, Int32.not_le]
theorem h_eq {x y : Int32} : (if_icmp.holds .eq x y = true → x = y) ∧ (if_icmp.holds .eq x y = false → ¬ x = y) := by simp [if_icmp.holds]
theorem h_ne {x y : Int32} : (if_icmp.holds .ne x y = true → ¬ x = y) ∧ (if_icmp.holds .ne x y = false → x = y) := by simp [if_icmp.holds]
theorem icmp_lt (nY nN : Nat) (X : Stand p l e R s m args below meth c T locs cells slots) (hx : p.tables.exec = Jvm.exec) {o : Int} {x y : Int32} {rest : List Value} (hd : decode c.code pc = .ok (.if_icmp .lt o, 3)) (hY : 0 ≤ (pc : Int) + o ∧ ((pc : Int) + o).toNat = nY) (hN : pc + 3 = nN) (KY : x < y → Ends p.tables e below Q F (T.setTop (mkF m nY Ls (rest)))) (KN : ¬ x < y → Ends p.tables e below Q F (T.setTop (mkF m nN Ls (rest)))) : Ends p.tables e below Q F (T.setTop (mkF m pc Ls (.int y :: .int x :: rest))) :=
  icmpB nY nN X hx hd hY hN (fun hb => KY (h_lt.1 hb)) (fun hb => KN (h_lt.2 hb))
theorem if_lt (nY nN : Nat) (X : Stand p l e R s m args below meth c T locs cells slots) (hx : p.tables.exec = Jvm.exec) {o : Int} {x : Int32} {rest : List Value} (hd : decode c.code pc = .ok (.ifCond .lt o, 3)) (hY : 0 ≤ (pc : Int) + o ∧ ((pc : Int) + o).toNat = nY) (hN : pc + 3 = nN) (KY : x < 0 → Ends p.tables e below Q F (T.setTop (mkF m nY Ls (rest)))) (KN : ¬ x < 0 → Ends p.tables e below Q F (T.setTop (mkF m nN Ls (rest)))) : Ends p.tables e below Q F (T.setTop (mkF m pc Ls (.int x :: rest))) :=
  ifB nY nN X hx hd hY hN (fun hb => KY (h_lt.1 hb)) (fun hb => KN (h_lt.2 hb))
theorem icmp_ge (nY nN : Nat) (X : Stand p l e R s m args below meth c T locs cells slots) (hx : p.tables.exec = Jvm.exec) {o : Int} {x y : Int32} {rest : List Value} (hd : decode c.code pc = .ok (.if_icmp .ge o, 3)) (hY : 0 ≤ (pc : Int) + o ∧ ((pc : Int) + o).toNat = nY) (hN : pc + 3 = nN) (KY : ¬ x < y → Ends p.tables e below Q F (T.setTop (mkF m nY Ls (rest)))) (KN : x < y → Ends p.tables e below Q F (T.setTop (mkF m nN Ls (rest)))) : Ends p.tables e below Q F (T.setTop (mkF m pc Ls (.int y :: .int x :: rest))) :=
  icmpB nY nN X hx hd hY hN (fun hb => KY (h_ge.1 hb)) (fun hb => KN (h_ge.2 hb))
theorem if_ge (nY nN : Nat) (X : Stand p l e R s m args below meth c T locs cells slots) (hx : p.tables.exec = Jvm.exec) {o : Int} {x : Int32} {rest : List Value} (hd : decode c.code pc = .ok (.ifCond .ge o, 3)) (hY : 0 ≤ (pc : Int) + o ∧ ((pc : Int) + o).toNat = nY) (hN : pc + 3 = nN) (KY : ¬ x < 0 → Ends p.tables e below Q F (T.setTop (mkF m nY Ls (rest)))) (KN : x < 0 → Ends p.tables e below Q F (T.setTop (mkF m nN Ls (rest)))) : Ends p.tables e below Q F (T.setTop (mkF m pc Ls (.int x :: rest))) :=
  ifB nY nN X hx hd hY hN (fun hb => KY (h_ge.1 hb)) (fun hb => KN (h_ge.2 hb))
theorem icmp_gt (nY nN : Nat) (X : Stand p l e R s m args below meth c T locs cells slots) (hx : p.tables.exec = Jvm.exec) {o : Int} {x y : Int32} {rest : List Value} (hd : decode c.code pc = .ok (.if_icmp .gt o, 3)) (hY : 0 ≤ (pc : Int) + o ∧ ((pc : Int) + o).toNat = nY) (hN : pc + 3 = nN) (KY : y < x → Ends p.tables e below Q F (T.setTop (mkF m nY Ls (rest)))) (KN : ¬ y < x → Ends p.tables e below Q F (T.setTop (mkF m nN Ls (rest)))) : Ends p.tables e below Q F (T.setTop (mkF m pc Ls (.int y :: .int x :: rest))) :=
  icmpB nY nN X hx hd hY hN (fun hb => KY (h_gt.1 hb)) (fun hb => KN (h_gt.2 hb))
theorem if_gt (nY nN : Nat) (X : Stand p l e R s m args below meth c T locs cells slots) (hx : p.tables.exec = Jvm.exec) {o : Int} {x : Int32} {rest : List Value} (hd : decode c.code pc = .ok (.ifCond .gt o, 3)) (hY : 0 ≤ (pc : Int) + o ∧ ((pc : Int) + o).toNat = nY) (hN : pc + 3 = nN) (KY : 0 < x → Ends p.tables e below Q F (T.setTop (mkF m nY Ls (rest)))) (KN : ¬ 0 < x → Ends p.tables e below Q F (T.setTop (mkF m nN Ls (rest)))) : Ends p.tables e below Q F (T.setTop (mkF m pc Ls (.int x :: rest))) :=
  ifB nY nN X hx hd hY hN (fun hb => KY (h_gt.1 hb)) (fun hb => KN (h_gt.2 hb))
theorem icmp_le (nY nN : Nat) (X : Stand p l e R s m args below meth c T locs cells slots) (hx : p.tables.exec = Jvm.exec) {o : Int} {x y : Int32} {rest : List Value} (hd : decode c.code pc = .ok (.if_icmp .le o, 3)) (hY : 0 ≤ (pc : Int) + o ∧ ((pc : Int) + o).toNat = nY) (hN : pc + 3 = nN) (KY : ¬ y < x → Ends p.tables e below Q F (T.setTop (mkF m nY Ls (rest)))) (KN : y < x → Ends p.tables e below Q F (T.setTop (mkF m nN Ls (rest)))) : Ends p.tables e below Q F (T.setTop (mkF m pc Ls (.int y :: .int x :: rest))) :=
  icmpB nY nN X hx hd hY hN (fun hb => KY (h_le.1 hb)) (fun hb => KN (h_le.2 hb))
theorem if_le (nY nN : Nat) (X : Stand p l e R s m args below meth c T locs cells slots) (hx : p.tables.exec = Jvm.exec) {o : Int} {x : Int32} {rest : List Value} (hd : decode c.code pc = .ok (.ifCond .le o, 3)) (hY : 0 ≤ (pc : Int) + o ∧ ((pc : Int) + o).toNat = nY) (hN : pc + 3 = nN) (KY : ¬ 0 < x → Ends p.tables e below Q F (T.setTop (mkF m nY Ls (rest)))) (KN : 0 < x → Ends p.tables e below Q F (T.setTop (mkF m nN Ls (rest)))) : Ends p.tables e below Q F (T.setTop (mkF m pc Ls (.int x :: rest))) :=
  ifB nY nN X hx hd hY hN (fun hb => KY (h_le.1 hb)) (fun hb => KN (h_le.2 hb))
theorem icmp_eq (nY nN : Nat) (X : Stand p l e R s m args below meth c T locs cells slots) (hx : p.tables.exec = Jvm.exec) {o : Int} {x y : Int32} {rest : List Value} (hd : decode c.code pc = .ok (.if_icmp .eq o, 3)) (hY : 0 ≤ (pc : Int) + o ∧ ((pc : Int) + o).toNat = nY) (hN : pc + 3 = nN) (KY : x = y → Ends p.tables e below Q F (T.setTop (mkF m nY Ls (rest)))) (KN : ¬ x = y → Ends p.tables e below Q F (T.setTop (mkF m nN Ls (rest)))) : Ends p.tables e below Q F (T.setTop (mkF m pc Ls (.int y :: .int x :: rest))) :=
  icmpB nY nN X hx hd hY hN (fun hb => KY (h_eq.1 hb)) (fun hb => KN (h_eq.2 hb))
theorem if_eq (nY nN : Nat) (X : Stand p l e R s m args below meth c T locs cells slots) (hx : p.tables.exec = Jvm.exec) {o : Int} {x : Int32} {rest : List Value} (hd : decode c.code pc = .ok (.ifCond .eq o, 3)) (hY : 0 ≤ (pc : Int) + o ∧ ((pc : Int) + o).toNat = nY) (hN : pc + 3 = nN) (KY : x = 0 → Ends p.tables e below Q F (T.setTop (mkF m nY Ls (rest)))) (KN : ¬ x = 0 → Ends p.tables e below Q F (T.setTop (mkF m nN Ls (rest)))) : Ends p.tables e below Q F (T.setTop (mkF m pc Ls (.int x :: rest))) :=
  ifB nY nN X hx hd hY hN (fun hb => KY (h_eq.1 hb)) (fun hb => KN (h_eq.2 hb))
theorem icmp_ne (nY nN : Nat) (X : Stand p l e R s m args below meth c T locs cells slots) (hx : p.tables.exec = Jvm.exec) {o : Int} {x y : Int32} {rest : List Value} (hd : decode c.code pc = .ok (.if_icmp .ne o, 3)) (hY : 0 ≤ (pc : Int) + o ∧ ((pc : Int) + o).toNat = nY) (hN : pc + 3 = nN) (KY : ¬ x = y → Ends p.tables e below Q F (T.setTop (mkF m nY Ls (rest)))) (KN : x = y → Ends p.tables e below Q F (T.setTop (mkF m nN Ls (rest)))) : Ends p.tables e below Q F (T.setTop (mkF m pc Ls (.int y :: .int x :: rest))) :=
  icmpB nY nN X hx hd hY hN (fun hb => KY (h_ne.1 hb)) (fun hb => KN (h_ne.2 hb))
theorem if_ne (nY nN : Nat) (X : Stand p l e R s m args below meth c T locs cells slots) (hx : p.tables.exec = Jvm.exec) {o : Int} {x : Int32} {rest : List Value} (hd : decode c.code pc = .ok (.ifCond .ne o, 3)) (hY : 0 ≤ (pc : Int) + o ∧ ((pc : Int) + o).toNat = nY) (hN : pc + 3 = nN) (KY : ¬ x = 0 → Ends p.tables e below Q F (T.setTop (mkF m nY Ls (rest)))) (KN : x = 0 → Ends p.tables e below Q F (T.setTop (mkF m nN Ls (rest)))) : Ends p.tables e below Q F (T.setTop (mkF m pc Ls (.int x :: rest))) :=
  ifB nY nN X hx hd hY hN (fun hb => KY (h_ne.1 hb)) (fun hb => KN (h_ne.2 hb))
theorem w_lt {x y : Int64} : lcmpW x y < 0 → x < y := (lw_lt x y).mp
theorem w_nlt {x y : Int64} : ¬ lcmpW x y < 0 → ¬ x < y := fun q r => q ((lw_lt x y).mpr r)
theorem w_gt {x y : Int64} : 0 < lcmpW x y → y < x := (lw_gt x y).mp
theorem w_ngt {x y : Int64} : ¬ 0 < lcmpW x y → ¬ y < x := fun q r => q ((lw_gt x y).mpr r)
theorem w_eq {x y : Int64} : lcmpW x y = 0 → x = y := (lw_eq x y).mp
theorem w_neq {x y : Int64} : ¬ lcmpW x y = 0 → ¬ x = y := fun q r => q ((lw_eq x y).mpr r)
theorem lif_lt (nY nN : Nat) (X : Stand p l e R s m args below meth c T locs cells slots) (hx : p.tables.exec = Jvm.exec) {o : Int} {x y : Int64} {rest : List Value} (hd0 : decode c.code pc = .ok (.lcmp, 1)) {pc1 : Nat} (hp : pc + 1 = pc1) (hd : decode c.code pc1 = .ok (.ifCond .lt o, 3)) (hY : 0 ≤ (pc1 : Int) + o ∧ ((pc1 : Int) + o).toNat = nY) (hN : pc1 + 3 = nN) (KY : x < y → Ends p.tables e below Q F (T.setTop (mkF m nY Ls (rest)))) (KN : ¬ x < y → Ends p.tables e below Q F (T.setTop (mkF m nN Ls (rest)))) : Ends p.tables e below Q F (T.setTop (mkF m pc Ls (.long y :: .long x :: rest))) := by
  subst hp
  refine Ends.step ?_ fun t k => XS.lcmp (g := mkF m pc Ls (.long y :: .long x :: rest)) X.here hx rfl hd0 rfl k
  exact if_lt nY nN X hx hd hY hN (fun hb => KY (w_lt hb)) (fun hb => KN (w_nlt hb))
theorem lif_ge (nY nN : Nat) (X : Stand p l e R s m args below meth c T locs cells slots) (hx : p.tables.exec = Jvm.exec) {o : Int} {x y : Int64} {rest : List Value} (hd0 : decode c.code pc = .ok (.lcmp, 1)) {pc1 : Nat} (hp : pc + 1 = pc1) (hd : decode c.code pc1 = .ok (.ifCond .ge o, 3)) (hY : 0 ≤ (pc1 : Int) + o ∧ ((pc1 : Int) + o).toNat = nY) (hN : pc1 + 3 = nN) (KY : ¬ x < y → Ends p.tables e below Q F (T.setTop (mkF m nY Ls (rest)))) (KN : x < y → Ends p.tables e below Q F (T.setTop (mkF m nN Ls (rest)))) : Ends p.tables e below Q F (T.setTop (mkF m pc Ls (.long y :: .long x :: rest))) := by
  subst hp
  refine Ends.step ?_ fun t k => XS.lcmp (g := mkF m pc Ls (.long y :: .long x :: rest)) X.here hx rfl hd0 rfl k
  exact if_ge nY nN X hx hd hY hN (fun hb => KY (w_nlt hb)) (fun hb => KN (w_lt hb))
theorem lif_gt (nY nN : Nat) (X : Stand p l e R s m args below meth c T locs cells slots) (hx : p.tables.exec = Jvm.exec) {o : Int} {x y : Int64} {rest : List Value} (hd0 : decode c.code pc = .ok (.lcmp, 1)) {pc1 : Nat} (hp : pc + 1 = pc1) (hd : decode c.code pc1 = .ok (.ifCond .gt o, 3)) (hY : 0 ≤ (pc1 : Int) + o ∧ ((pc1 : Int) + o).toNat = nY) (hN : pc1 + 3 = nN) (KY : y < x → Ends p.tables e below Q F (T.setTop (mkF m nY Ls (rest)))) (KN : ¬ y < x → Ends p.tables e below Q F (T.setTop (mkF m nN Ls (rest)))) : Ends p.tables e below Q F (T.setTop (mkF m pc Ls (.long y :: .long x :: rest))) := by
  subst hp
  refine Ends.step ?_ fun t k => XS.lcmp (g := mkF m pc Ls (.long y :: .long x :: rest)) X.here hx rfl hd0 rfl k
  exact if_gt nY nN X hx hd hY hN (fun hb => KY (w_gt hb)) (fun hb => KN (w_ngt hb))
theorem lif_le (nY nN : Nat) (X : Stand p l e R s m args below meth c T locs cells slots) (hx : p.tables.exec = Jvm.exec) {o : Int} {x y : Int64} {rest : List Value} (hd0 : decode c.code pc = .ok (.lcmp, 1)) {pc1 : Nat} (hp : pc + 1 = pc1) (hd : decode c.code pc1 = .ok (.ifCond .le o, 3)) (hY : 0 ≤ (pc1 : Int) + o ∧ ((pc1 : Int) + o).toNat = nY) (hN : pc1 + 3 = nN) (KY : ¬ y < x → Ends p.tables e below Q F (T.setTop (mkF m nY Ls (rest)))) (KN : y < x → Ends p.tables e below Q F (T.setTop (mkF m nN Ls (rest)))) : Ends p.tables e below Q F (T.setTop (mkF m pc Ls (.long y :: .long x :: rest))) := by
  subst hp
  refine Ends.step ?_ fun t k => XS.lcmp (g := mkF m pc Ls (.long y :: .long x :: rest)) X.here hx rfl hd0 rfl k
  exact if_le nY nN X hx hd hY hN (fun hb => KY (w_ngt hb)) (fun hb => KN (w_gt hb))
theorem lif_eq (nY nN : Nat) (X : Stand p l e R s m args below meth c T locs cells slots) (hx : p.tables.exec = Jvm.exec) {o : Int} {x y : Int64} {rest : List Value} (hd0 : decode c.code pc = .ok (.lcmp, 1)) {pc1 : Nat} (hp : pc + 1 = pc1) (hd : decode c.code pc1 = .ok (.ifCond .eq o, 3)) (hY : 0 ≤ (pc1 : Int) + o ∧ ((pc1 : Int) + o).toNat = nY) (hN : pc1 + 3 = nN) (KY : x = y → Ends p.tables e below Q F (T.setTop (mkF m nY Ls (rest)))) (KN : ¬ x = y → Ends p.tables e below Q F (T.setTop (mkF m nN Ls (rest)))) : Ends p.tables e below Q F (T.setTop (mkF m pc Ls (.long y :: .long x :: rest))) := by
  subst hp
  refine Ends.step ?_ fun t k => XS.lcmp (g := mkF m pc Ls (.long y :: .long x :: rest)) X.here hx rfl hd0 rfl k
  exact if_eq nY nN X hx hd hY hN (fun hb => KY (w_eq hb)) (fun hb => KN (w_neq hb))
theorem lif_ne (nY nN : Nat) (X : Stand p l e R s m args below meth c T locs cells slots) (hx : p.tables.exec = Jvm.exec) {o : Int} {x y : Int64} {rest : List Value} (hd0 : decode c.code pc = .ok (.lcmp, 1)) {pc1 : Nat} (hp : pc + 1 = pc1) (hd : decode c.code pc1 = .ok (.ifCond .ne o, 3)) (hY : 0 ≤ (pc1 : Int) + o ∧ ((pc1 : Int) + o).toNat = nY) (hN : pc1 + 3 = nN) (KY : ¬ x = y → Ends p.tables e below Q F (T.setTop (mkF m nY Ls (rest)))) (KN : x = y → Ends p.tables e below Q F (T.setTop (mkF m nN Ls (rest)))) : Ends p.tables e below Q F (T.setTop (mkF m pc Ls (.long y :: .long x :: rest))) := by
  subst hp
  refine Ends.step ?_ fun t k => XS.lcmp (g := mkF m pc Ls (.long y :: .long x :: rest)) X.here hx rfl hd0 rfl k
  exact if_ne nY nN X hx hd hY hN (fun hb => KY (w_neq hb)) (fun hb => KN (w_eq hb))
theorem ifnull (nY nN : Nat) (X : Stand p l e R s m args below meth c T locs cells slots) (hx : p.tables.exec = Jvm.exec) {o : Int} {v : Value} {rest : List Value} (hd : decode c.code pc = .ok (.ifnull o, 3)) (hv : v.isRef = true) (hY : 0 ≤ (pc : Int) + o ∧ ((pc : Int) + o).toNat = nY) (hN : pc + 3 = nN) (KY : v = .null → Ends p.tables e below Q F (T.setTop (mkF m nY Ls (rest)))) (KN : ∀ a, v = .ref a → Ends p.tables e below Q F (T.setTop (mkF m nN Ls (rest)))) : Ends p.tables e below Q F (T.setTop (mkF m pc Ls (v :: rest))) := by
  subst hN
  rcases ref_cases hv with rfl | ⟨a, rfl⟩
  · exact (KY rfl).step fun t k => XS.ifnullYes (g := mkF m pc Ls (.null :: rest)) X.here hx rfl (pc0 := pc) (pc' := nY) rfl hd rfl hY.1 hY.2 k
  · exact (KN a rfl).step fun t k => XS.ifnullNo (g := mkF m pc Ls (.ref a :: rest)) X.here hx rfl hd rfl k
theorem ifnonnull (nY nN : Nat) (X : Stand p l e R s m args below meth c T locs cells slots) (hx : p.tables.exec = Jvm.exec) {o : Int} {v : Value} {rest : List Value} (hd : decode c.code pc = .ok (.ifnonnull o, 3)) (hv : v.isRef = true) (hY : 0 ≤ (pc : Int) + o ∧ ((pc : Int) + o).toNat = nY) (hN : pc + 3 = nN) (KY : ∀ a, v = .ref a → Ends p.tables e below Q F (T.setTop (mkF m nY Ls (rest)))) (KN : v = .null → Ends p.tables e below Q F (T.setTop (mkF m nN Ls (rest)))) : Ends p.tables e below Q F (T.setTop (mkF m pc Ls (v :: rest))) := by
  subst hN
  rcases ref_cases hv with rfl | ⟨a, rfl⟩
  · exact (KN rfl).step fun t k => XS.ifnonnullNo (g := mkF m pc Ls (.null :: rest)) X.here hx rfl hd rfl k
  · exact (KY a rfl).step fun t k => XS.ifnonnullYes (g := mkF m pc Ls (.ref a :: rest)) X.here hx rfl (pc0 := pc) (pc' := nY) rfl hd rfl hY.1 hY.2 k
theorem retI (X : Stand p l e R s m args below meth c T locs cells slots) (hx : p.tables.exec = Jvm.exec) {pc : Nat} {Ls : Array Slot} {z : Int32} {rest : List Value} (hret : meth.sig.returnType = some .int) (hd : decode c.code pc = .ok (.ireturn, 1)) {fs : List Frame}
    (hl : ∀ (f : JFrame) (acts : List Action), f.method = m → f.locked = none → f.entered = [] → (doReturn e (T.setTop f) acts (some (.int z))).1 = T.setFrames fs) : Steps p.tables e below (T.setTop (mkF m pc Ls (.int z :: rest))) (T.setFrames fs) := by
  have hm' : T.vm.method? m = some meth := X.method'
  have hn : narrow .int (.int z) = .int z := rfl
  show Steps p.tables e below (T.setTop { method := m, pc := pc, locals := Ls, stack := _ :: rest, locked := none }) _
  jvm_step X.here [X.here.top, hx, hd, hm', hret, hn]
  first | (intro acts; rw [hl _ acts rfl rfl rfl]) | rw [hl _ _ rfl rfl rfl]
  exact Steps.refl _
theorem fin {fs : List Frame} {v : Option Value} {U : State} (X : Stand p l e R s m args below meth c T locs cells slots) (hst : Steps p.tables e below U (T.setFrames fs)) (hrun : (T.setFrames fs).status = .running) (hend : Ended (T.setFrames fs) below (.returned v)) (hW : s.WarmedH (T.setFrames fs).vm) (hsame : s.sameButNew ({ T.setFrames fs with vm := s.vm } : State) locs cells slots) (q : Q v T.heap locs) (hC : cells ≤ C) (hS : slots ≤ S) : Ends p.tables e below Q (FE s C S) U :=
  ⟨_, _, hst, hrun, hend, _, _, rfl, q, ⟨_, rfl⟩, hW, hsame.mono hC hS⟩
theorem retInt (X : Stand p l e R s m args below meth c T locs cells slots) (hx : p.tables.exec = Jvm.exec) {z : Int32} {rest : List Value} (hlk : meth.locks = false) (hret : meth.sig.returnType = some .int) (hd : decode c.code pc = .ok (.ireturn, 1)) (hC : cells ≤ C) (hS : slots ≤ S) (q : Q (some (.int z)) T.heap locs) : Ends p.tables e below Q (FE s C S) (T.setTop (mkF m pc Ls (.int z :: rest))) := by
  obtain ⟨fs, hr, hrun, hended, hW, hsame⟩ := X.leave (v := some (.int z)) (fun h => by rw [hret] at h; cases h) hlk
  exact fin X (retI X hx hret hd hr) hrun hended hW hsame q hC hS
theorem retBool (X : Stand p l e R s m args below meth c T locs cells slots) (hx : p.tables.exec = Jvm.exec) {z : Int32} {rest : List Value} (hlk : meth.locks = false) (hret : meth.sig.returnType = some .boolean) (hd : decode c.code pc = .ok (.ireturn, 1)) (hC : cells ≤ C) (hS : slots ≤ S) (q : Q (some (.int (nar .boolean z))) T.heap locs) : Ends p.tables e below Q (FE s C S) (T.setTop (mkF m pc Ls (.int z :: rest))) := by
  obtain ⟨fs, hr, hrun, hended, hW, hsame⟩ := X.leave (v := some (.int (nar .boolean z))) (fun h => by rw [hret] at h; cases h) hlk
  exact fin X (retN X hx hret (Or.inl rfl) hd hr) hrun hended hW hsame q hC hS
theorem retLong (X : Stand p l e R s m args below meth c T locs cells slots) (hx : p.tables.exec = Jvm.exec) {z : Int64} (hlk : meth.locks = false) (hret : meth.sig.returnType = some .long) (hd : decode c.code pc = .ok (.lreturn, 1)) (hC : cells ≤ C) (hS : slots ≤ S) (q : Q (some (.long z)) T.heap locs) : Ends p.tables e below Q (FE s C S) (T.setTop (mkF m pc Ls ([.long z]))) := by
  obtain ⟨fs, hr, hrun, hended, hW, hsame⟩ := X.leave (v := some (.long z)) (fun h => by rw [hret] at h; cases h) hlk
  exact fin X (X.lreturnOut hx hret hd hr) hrun hended hW hsame q hC hS
theorem retRef (X : Stand p l e R s m args below meth c T locs cells slots) (hx : p.tables.exec = Jvm.exec) {v : Value} {t : FieldType} (hlk : meth.locks = false) (hv : v.isRef = true) (hret : meth.sig.returnType = some t) (ht : t.isReference = true) (hd : decode c.code pc = .ok (.areturn, 1)) (hC : cells ≤ C) (hS : slots ≤ S) (q : Q (some v) T.heap locs) : Ends p.tables e below Q (FE s C S) (T.setTop (mkF m pc Ls ([v]))) := by
  obtain ⟨fs, hr, hrun, hended, hW, hsame⟩ := X.leave (v := some v) (fun h => by rw [hret] at h; cases h) hlk
  exact fin X (X.areturnOut hx hv hret ht hd hr) hrun hended hW hsame q hC hS
theorem retVoid (X : Stand p l e R s m args below meth c T locs cells slots) (hx : p.tables.exec = Jvm.exec) (hlk : meth.locks = false) (hret : meth.sig.returnType = none) (hd : decode c.code pc = .ok (.return_, 1)) (hC : cells ≤ C) (hS : slots ≤ S) (q : Q none T.heap locs) : Ends p.tables e below Q (FE s C S) (T.setTop (mkF m pc Ls ([]))) := by
  obtain ⟨fs, hr, hrun, hended, hW, hsame⟩ := X.leave (v := none) (fun _ => rfl) hlk
  exact fin X (X.returnOut hx hret hd hr) hrun hended hW hsame q hC hS
theorem ldcInt (n : Nat) (X : Stand p l e R s m args below meth c T locs cells slots) (hx : p.tables.exec = Jvm.exec) (hZ : Z.Warmed39 s.vm) {own : String} {index : Nat} (v : Int32) (hown : s.vm.findClass own = some m.cls) (w : (Cond.constant own index v).before a0 Z = true) (hd : decode c.code pc = .ok (.ldc index, 2)) (hn : pc + 2 = n) (K : Ends p.tables e below Q F (T.setTop (mkF m n Ls (.int v :: st)))) : Ends p.tables e below Q F (T.setTop (mkF m pc Ls (st))) := by
  subst hn; exact K.step fun t k => X.ldcInt hx hown (mvT hZ w) (g := mkF m pc Ls st) rfl hd _ k
theorem ldcwInt (n : Nat) (X : Stand p l e R s m args below meth c T locs cells slots) (hx : p.tables.exec = Jvm.exec) (hZ : Z.Warmed39 s.vm) {own : String} {index : Nat} (v : Int32) (hown : s.vm.findClass own = some m.cls) (w : (Cond.constant own index v).before a0 Z = true) (hd : decode c.code pc = .ok (.ldc_w index, 3)) (hn : pc + 3 = n) (K : Ends p.tables e below Q F (T.setTop (mkF m n Ls (.int v :: st)))) : Ends p.tables e below Q F (T.setTop (mkF m pc Ls (st))) := by
  subst hn; exact K.step fun t k => X.ldcwInt hx hown (mvT hZ w) (g := mkF m pc Ls st) rfl hd _ k
theorem ldc2Long (n : Nat) (X : Stand p l e R s m args below meth c T locs cells slots) (hx : p.tables.exec = Jvm.exec) (hZ : Z.Warmed39 s.vm) {own : String} {index : Nat} (v : Int64) (hown : s.vm.findClass own = some m.cls) (w : (Cond.constantLong own index v).before a0 Z = true) (hd : decode c.code pc = .ok (.ldc2_w index, 3)) (hn : pc + 3 = n) (K : Ends p.tables e below Q F (T.setTop (mkF m n Ls (.long v :: st)))) : Ends p.tables e below Q F (T.setTop (mkF m pc Ls (st))) := by
  subst hn; exact K.step fun t k => X.ldc2Long hx hown (mvT hZ w) (g := mkF m pc Ls st) rfl hd _ k
theorem getFld (n : Nat) (X : Stand p l e R s m args below meth c T locs cells slots) (hx : p.tables.exec = Jvm.exec) (hZ : Z.Warmed39 s.vm) {own R0 O nm d host : String} {index : Nat} (hown : s.vm.findClass own = some m.cls) (w : (Cond.fieldLink own index R0 nm d).before a0 Z = true ∨ (Cond.fieldLinkNest own index R0 nm d host).before a0 Z = true) (via : Via Z R0 O nm d) (eT : T.heap = h) {a : Addr} {v : Value} (Fd : Fld Z h a O nm d v) {rest : List Value} (hd : decode c.code pc = .ok (.getfield index, 3)) (hn : pc + 3 = n) (K : ∀ T', Stand p l e R s m args below meth c T' locs cells slots → T'.heap = h → Ends p.tables e below Q F (T'.setTop (mkF m n Ls (v :: rest)))) : Ends p.tables e below Q F (T.setTop (mkF m pc Ls (.ref a :: rest))) := by
  subst hn
  obtain ⟨T1, X1, e1, st1⟩ := getF X hx hZ hown w via eT Fd (g := mkF m pc Ls (.ref a :: rest)) rfl rfl hd
  exact (K T1 X1 e1).step st1
theorem getSta (n : Nat) (X : Stand p l e R s m args below meth c T locs cells slots) (hx : p.tables.exec = Jvm.exec) (hZ : Z.Warmed39 s.vm) {own R0 O nm d host : String} {index : Nat} (hown : s.vm.findClass own = some m.cls) (w : (Cond.fieldLink own index R0 nm d).before a0 Z = true ∨ (Cond.fieldLinkNest own index R0 nm d host).before a0 Z = true) (via : Via Z R0 O nm d) (eT : T.heap = h) {v : Value} (Fd : Sta Z h O nm d v) (hd : decode c.code pc = .ok (.getstatic index, 3)) (hn : pc + 3 = n) (K : ∀ T', Stand p l e R s m args below meth c T' locs cells slots → T'.heap = h → Ends p.tables e below Q F (T'.setTop (mkF m n Ls (v :: st)))) : Ends p.tables e below Q F (T.setTop (mkF m pc Ls (st))) := by
  subst hn
  obtain ⟨T1, X1, e1, st1⟩ := getS2 X hx hZ hown w via eT Fd (g := mkF m pc Ls st) rfl hd
  exact (K T1 X1 e1).step st1
theorem putFld (n : Nat) (X : Stand p l e R s m args below meth c T locs cells slots) (hx : p.tables.exec = Jvm.exec) (hZ : Z.Warmed39 s.vm) {own R0 O nm d host CC : String} {index kk : Nat} {ty : FieldType} (hown : s.vm.findClass own = some m.cls) (w : (Cond.fieldLink own index R0 nm d).before a0 Z = true ∨ (Cond.fieldLinkNest own index R0 nm d host).before a0 Z = true) (via : Via Z R0 O nm d) (eT : T.heap = h) {a : Addr} {v old : Value} (Fd : Fld Z h a O nm d old) (E : Exa Z h a CC) (L : (Cond.lays CC O nm d).before a0 Z = true ∨ ((Cond.laysFinal CC O nm d).before a0 Z = true ∧ own = O ∧ meth.name = "<init>")) (wi : (Cond.instantiable CC kk).before a0 Z = true) (hty : parseFieldDescriptor d = some ty) (hnw : narrow ty v = v) (hf : fits ty v = true) {rest : List Value} (hd : decode c.code pc = .ok (.putfield index, 3)) (hn : pc + 3 = n) (K : ∀ T' h', Stand p l e R s m args below meth c T' (locs ++ [⟨a, Jvm.RoadKit.slotOf Z O nm d⟩]) cells slots → T'.heap = h' → Wr h h' a (Jvm.RoadKit.slotOf Z O nm d) v → Ends p.tables e below Q F (T'.setTop (mkF m n Ls (rest)))) : Ends p.tables e below Q F (T.setTop (mkF m pc Ls (v :: .ref a :: rest))) := by
  subst hn
  obtain ⟨T1, h1, X1, e1, W1, st1⟩ := putF X hx hZ hown w via eT Fd E L wi hty hnw hf (g := mkF m pc Ls (v :: .ref a :: rest)) rfl rfl hd
  exact (K T1 h1 X1 e1 W1).step st1
theorem newObj (n : Nat) (X : Stand p l e R s m args below meth c T locs cells slots) (hx : p.tables.exec = Jvm.exec) (hZ : Z.Warmed39 s.vm) {own CC : String} {index sz : Nat} (hown : s.vm.findClass own = some m.cls) (w : (Cond.classLink own index CC).before a0 Z = true) (wi : (Cond.instantiable CC sz).before a0 Z = true) (wz : (Cond.initialized CC).before a0 Z = true) (eT : T.heap = h) (hd : decode c.code pc = .ok (.new index, 3)) (hn : pc + 3 = n) (hc : cells + 1 ≤ R.cells) (hl : slots + sz ≤ R.slots) (K : ∀ T' h' a, a = h.size → Stand p l e R s m args below meth c T' locs (cells + 1) (slots + sz) → T'.heap = h' → Ext h h' → Exa Z h' a CC → (∀ {O nm d : String} {ty : FieldType}, Laid Z a0 CC O nm d → parseFieldDescriptor d = some ty → Fld Z h' a O nm d (defaultValue ty)) → Ends p.tables e below Q F (T'.setTop (mkF m n Ls (.ref a :: st)))) : Ends p.tables e below Q F (T.setTop (mkF m pc Ls (st))) := by
  subst hn
  obtain ⟨T1, h1, X1, e1, E1, A1, D1, -, st1⟩ := newO X hx hZ hown w wi wz eT (g := mkF m pc Ls st) rfl hd hc hl
  exact (K T1 h1 _ rfl X1 e1 E1 A1 (fun L q => D1 L q)).step st1
theorem initObj (n W : Nat) (X : Stand p l e R s m args below meth c T locs cells slots) (hx : p.tables.exec = Jvm.exec) (hZ : Z.Warmed39 s.vm) {own : String} {index : Nat} (hown : s.vm.findClass own = some m.cls) (w1 : (Cond.methodLink own index Lib.objectInit).before a0 Z = true) (w2 : (Cond.instanceMethod Lib.objectInit).before a0 Z = true) (w3 : (Cond.code Lib.objectInit ⟨#[0xb1]⟩ 1 none).before a0 Z = true) (eT : T.heap = h) {a : Addr} {rest : List Value} (hsz : Ls.size = c.maxLocals) (hd : decode c.code pc = .ok (.invokespecial index, 3)) (hn : pc + 3 = n) (hf : 1 ≤ R.frames) (hW : (rest.map fun v => v.category).sum ≤ W) (hl : W + 12 ≤ R.locals) (K : ∀ T', Stand p l e R s m args below meth c T' locs cells slots → T'.heap = h → Ends p.tables e below Q F (T'.setTop (mkF m n Ls (rest)))) : Ends p.tables e below Q F (T.setTop (mkF m pc Ls (.ref a :: rest))) := by
  subst hn
  obtain ⟨T1, X1, e1, st1⟩ := initO X hx hZ hown w1 w2 w3 eT (g := mkF m pc Ls (.ref a :: rest)) rfl hsz rfl hd hf (W := W) (by show 2 * 0 + _ ≤ _; omega) hl
  exact (K T1 X1 e1).step st1
/-- the contract of a body: entered with these arguments at this heap it returns, and what it leaves answers to QQ -/
def Met (l : Launch) (Z : State) (y : MethodName) (bytes : ByteArray) (maxL : Nat) (ret : Option FieldType) (ws : List Cond) (rm : Room) (as : Array Value) (h : Heap) (QQ : Option Value → Heap → List Loc → Prop) : Prop :=
  MetFree l y (head1 (Cond.code y bytes maxL ret :: ws) rm) (fun a U => a = as ∧ Z.Warmed39 U.vm ∧ U.heap = h) (fun _ _ _ _ _ => True) (fun _ U o U' => ∃ v L, o = .returned v ∧ QQ v U'.heap L ∧ FrameEnd U o U' L rm.cells rm.slots)
theorem Met.of {y : MethodName} {bytes : ByteArray} {maxL : Nat} {ret : Option FieldType} {ws : List Cond} {rm : Room} {as : Array Value} {QQ : Option Value → Heap → List Loc → Prop} (hp : plainFor y = true)
    (body : ∀ (p : Program) (e : Env) (s : State) (m : MethodId) (below : List Frame) (meth : Method) (c : Code) (T : State), p.tables.exec = Jvm.exec → c.code = bytes → c.maxLocals = maxL → s.vm.findClass y.cls = some m.cls → meth.name = y.name → meth.sig.returnType = ret → meth.locks = false → Z.Warmed39 s.vm → Stand p l e rm s m as below meth c T [] 0 0 → T.heap = h → Ends p.tables e below QQ (FE s rm.cells rm.slots) (T.setTop (entryFrame m as maxL))) :
    Met l Z y bytes maxL ret ws rm as h QQ := by
  refine MetFree.of_bodySF hp hisR ?_
  intro p e s m args below meth c s₁ Bd hml0 hP hK
  obtain ⟨rfl, hZ, hh⟩ := hP
  exact body p e s m below meth c s₁ Bd.exec Bd.bytes hml0 (findClass_of_methodNamed Bd.named) (name_of_methodNamed Bd.named Bd.method).1 Bd.returns Bd.notSynchronized hZ (Stand.of_body Bd) (by rw [← hh, Bd.state]; rfl)
theorem callSt (n W : Nat) (argsL rest : List Value) (X : Stand p l e R s m args below meth c T locs cells slots) (hx : p.tables.exec = Jvm.exec) (hZ : Z.Warmed39 s.vm) {own : String} {index : Nat} {y : MethodName} {bytes : ByteArray} {maxL : Nat} {ret : Option FieldType} {rm : Room} {QQ : Option Value → Heap → List Loc → Prop} (hown : s.vm.findClass own = some m.cls) (hM : Met l Z y bytes maxL ret [] rm argsL.toArray h QQ) (wl : (Cond.methodLink own index y).before a0 Z = true) (ws : (Cond.static y).before a0 Z = true) (wi : (Cond.initialized y.cls).before a0 Z = true) (wc : (Cond.code y bytes maxL ret).before a0 Z = true) (hy : y.cls ≠ "java/lang/invoke/MethodHandle" ∧ y.cls ≠ "java/lang/invoke/VarHandle") (eT : T.heap = h) (hfr : rm.frames + 1 ≤ R.frames) (hlc : W + (maxL + 11) + rm.locals ≤ R.locals) (hc : cells + rm.cells ≤ R.cells) (hs : slots + rm.slots ≤ R.slots) (hsz : Ls.size = c.maxLocals) (hlen : ∀ sig, parseMethodDescriptor y.desc = some sig → argsL.length = sig.parameters.length) (hst : st = argsL.reverse ++ rest) (hW : (rest.map fun v => v.category).sum ≤ W) (hd : decode c.code pc = .ok (.invokestatic index, 3)) (hn : pc + 3 = n) (K : ∀ v T' L', Stand p l e R s m args below meth c T' (locs ++ L') (cells + rm.cells) (slots + rm.slots) → QQ v T'.heap L' → Ends p.tables e below Q F (T'.setTop (mkF m n Ls (v.toList ++ rest)))) : Ends p.tables e below Q F (T.setTop (mkF m pc Ls (st))) := by
  subst hn
  obtain ⟨v, vm1, ⟨T1, L1, k1, n1⟩, -, X1, ⟨Lc, hQ, l1, y1, z1⟩, st1⟩ := Jvm.LawKit.callS X hx (y := y) hown (mvT hZ wl) (mvT hZ ws) (mvT hZ wi) (mvT hZ wc) hy (backOf (W := W) hM hZ wc wi hfr hlc) (g := mkF m pc Ls st) rfl hsz (argsL := argsL) (rest := rest) hlen hst (by show 2 * 0 + _ ≤ _; omega) hd (fun _ _ => ⟨rfl, eT, hc, hs⟩)
  dsimp only [Pt.U, Pt.locs, Pt.cells, Pt.slots] at X1 l1 y1 z1 st1 hQ
  subst l1 y1 z1
  exact (K v T1 Lc X1 hQ).step st1
theorem callInit (n W : Nat) (a : Addr) (argsL rest : List Value) (X : Stand p l e R s m args below meth c T locs cells slots) (hx : p.tables.exec = Jvm.exec) (hZ : Z.Warmed39 s.vm) {own : String} {index : Nat} {y : MethodName} {bytes : ByteArray} {maxL : Nat} {rm : Room} {QQ : Option Value → Heap → List Loc → Prop} (hown : s.vm.findClass own = some m.cls) (hM : Met l Z y bytes maxL none [] rm (.ref a :: argsL).toArray h QQ) (hy1 : y.name = "<init>") (wl : (Cond.methodLink own index y).before a0 Z = true) (ws : (Cond.instanceMethod y).before a0 Z = true) (wi : (Cond.initialized y.cls).before a0 Z = true) (wc : (Cond.code y bytes maxL none).before a0 Z = true) (hy : y.cls ≠ "java/lang/invoke/MethodHandle" ∧ y.cls ≠ "java/lang/invoke/VarHandle") (eT : T.heap = h) (hfr : rm.frames + 1 ≤ R.frames) (hlc : W + (maxL + 11) + rm.locals ≤ R.locals) (hc : cells + rm.cells ≤ R.cells) (hs : slots + rm.slots ≤ R.slots) (hsz : Ls.size = c.maxLocals) (hlen : ∀ sig, parseMethodDescriptor y.desc = some sig → argsL.length = sig.parameters.length) (hst : st = argsL.reverse ++ .ref a :: rest) (hW : (rest.map fun v => v.category).sum ≤ W) (hd : decode c.code pc = .ok (.invokespecial index, 3)) (hn : pc + 3 = n) (K : ∀ v T' L', Stand p l e R s m args below meth c T' (locs ++ L') (cells + rm.cells) (slots + rm.slots) → QQ v T'.heap L' → Ends p.tables e below Q F (T'.setTop (mkF m n Ls (v.toList ++ rest)))) : Ends p.tables e below Q F (T.setTop (mkF m pc Ls (st))) := by
  subst hn
  obtain ⟨v, vm1, ⟨T1, L1, k1, n1⟩, -, X1, ⟨Lc, hQ, l1, y1, z1⟩, st1⟩ := X.specialBack hx (y := y) hy1 hown (mvT hZ wl) (mvT hZ ws) (mvT hZ wc) hy (backOf (W := W) hM hZ wc wi hfr hlc) (g := mkF m pc Ls st) rfl hsz (Steps.refl _) (a := a) (argsL := argsL) (rest := rest) hlen hst (by show 2 * 0 + _ ≤ _; omega) hd (fun _ _ => ⟨rfl, eT, hc, hs⟩)
  dsimp only [Pt.U, Pt.locs, Pt.cells, Pt.slots] at X1 l1 y1 z1 st1 hQ
  subst l1 y1 z1
  exact (K v T1 Lc X1 hQ).step fun t k => st1.trans k
theorem callVt (n W : Nat) (a : Addr) (argsL rest : List Value) (X : Stand p l e R s m args below meth c T locs cells slots) (hx : p.tables.exec = Jvm.exec) (hZ : Z.Warmed39 s.vm) {own CC : String} {index : Nat} {y z : MethodName} {bytes : ByteArray} {maxL : Nat} {ret : Option FieldType} {rm : Room} {QQ : Option Value → Heap → List Loc → Prop} (hown : s.vm.findClass own = some m.cls) (hM : Met l Z z bytes maxL ret [] rm (.ref a :: argsL).toArray h QQ) (E : Exa Z h a CC) (hnf : NotFace s y) (wl : (Cond.methodLink own index y).before a0 Z = true) (wd : (Cond.declares y).before a0 Z = true) (wsel : (Cond.selects CC y z).before a0 Z = true) (ws : (Cond.instanceMethod z).before a0 Z = true) (wi : (Cond.initialized z.cls).before a0 Z = true) (wc : (Cond.code z bytes maxL ret).before a0 Z = true) (hy : y.cls ≠ "java/lang/invoke/MethodHandle" ∧ y.cls ≠ "java/lang/invoke/VarHandle") (eT : T.heap = h) (hfr : rm.frames + 1 ≤ R.frames) (hlc : W + (maxL + 11) + rm.locals ≤ R.locals) (hc : cells + rm.cells ≤ R.cells) (hs : slots + rm.slots ≤ R.slots) (hsz : Ls.size = c.maxLocals) (hlen : ∀ sig, parseMethodDescriptor y.desc = some sig → argsL.length = sig.parameters.length) (hst : st = argsL.reverse ++ .ref a :: rest) (hW : (rest.map fun v => v.category).sum ≤ W) (hd : decode c.code pc = .ok (.invokevirtual index, 3)) (hn : pc + 3 = n) (K : ∀ v T' L', Stand p l e R s m args below meth c T' (locs ++ L') (cells + rm.cells) (slots + rm.slots) → QQ v T'.heap L' → Ends p.tables e below Q F (T'.setTop (mkF m n Ls (v.toList ++ rest)))) : Ends p.tables e below Q F (T.setTop (mkF m pc Ls (st))) := by
  subst hn
  obtain ⟨cq, kq, qa, qb, qc⟩ := isOf hZ eT E
  obtain ⟨v, vm1, ⟨T1, L1, k1, n1⟩, -, X1, ⟨Lc, hQ, l1, y1, z1⟩, st1⟩ := X.virtualBack hx (y := y) (z := z) hown (mvT hZ wl) (mvT hZ wd) hnf (mvT hZ wsel) (mvT hZ ws) hy (backOf (W := W) hM hZ wc wi hfr hlc) qa qc (g := mkF m pc Ls st) rfl hsz (Steps.refl _) (argsL := argsL) (rest := rest) hlen hst (by show 2 * 0 + _ ≤ _; omega) hd (fun _ _ => ⟨rfl, eT, hc, hs⟩)
  dsimp only [Pt.U, Pt.locs, Pt.cells, Pt.slots] at X1 l1 y1 z1 st1 hQ
  subst l1 y1 z1
  exact (K v T1 Lc X1 hQ).step fun t k => st1.trans k
theorem callPr (n W : Nat) (a : Addr) (argsL rest : List Value) (X : Stand p l e R s m args below meth c T locs cells slots) (hx : p.tables.exec = Jvm.exec) (hZ : Z.Warmed39 s.vm) {own CC : String} {index : Nat} {y : MethodName} {bytes : ByteArray} {maxL : Nat} {ret : Option FieldType} {rm : Room} {QQ : Option Value → Heap → List Loc → Prop} (hown : s.vm.findClass own = some m.cls) (hM : Met l Z y bytes maxL ret [] rm (.ref a :: argsL).toArray h QQ) (E : Exa Z h a CC) (wl : (Cond.methodLink own index y).before a0 Z = true) (wp : (Cond.privateMethod y).before a0 Z = true) {kk : Nat} (wk : (Cond.instantiable y.cls kk).before a0 Z = true) (ws : (Cond.instanceMethod y).before a0 Z = true) (wi : (Cond.initialized y.cls).before a0 Z = true) (wc : (Cond.code y bytes maxL ret).before a0 Z = true) (hy : y.cls ≠ "java/lang/invoke/MethodHandle" ∧ y.cls ≠ "java/lang/invoke/VarHandle") (eT : T.heap = h) (hfr : rm.frames + 1 ≤ R.frames) (hlc : W + (maxL + 11) + rm.locals ≤ R.locals) (hc : cells + rm.cells ≤ R.cells) (hs : slots + rm.slots ≤ R.slots) (hsz : Ls.size = c.maxLocals) (hlen : ∀ sig, parseMethodDescriptor y.desc = some sig → argsL.length = sig.parameters.length) (hst : st = argsL.reverse ++ .ref a :: rest) (hW : (rest.map fun v => v.category).sum ≤ W) (hd : decode c.code pc = .ok (.invokevirtual index, 3)) (hn : pc + 3 = n) (K : ∀ v T' L', Stand p l e R s m args below meth c T' (locs ++ L') (cells + rm.cells) (slots + rm.slots) → QQ v T'.heap L' → Ends p.tables e below Q F (T'.setTop (mkF m n Ls (v.toList ++ rest)))) : Ends p.tables e below Q F (T.setTop (mkF m pc Ls (st))) := by
  subst hn
  obtain ⟨cq, qa, qb⟩ := E.cell
  obtain ⟨cI, kI, i1, i2, -, i4, -⟩ := Cond.instantiable_spec (mvT (args := args) hZ wk)
  obtain ⟨v, vm1, ⟨T1, L1, k1, n1⟩, -, X1, ⟨Lc, hQ, l1, y1, z1⟩, st1⟩ := X.privateBack hx (y := y) hown (mvT hZ wl) (mvT hZ ws) (selects_self_of_private i1 i2 (by simpa using (Bool.or_eq_false_iff.mp i4).1) (Cond.privateMethod_at (mvP hZ wp (args := #[]))) (mvT hZ ws) hy) (Cond.privateMethod_at (mvP hZ wp (args := #[]))) (mvT hZ wc) hy (backOf (W := W) hM hZ wc wi hfr hlc) (g := mkF m pc Ls st) rfl hsz (Steps.refl _) (a := a) (by rw [eT]; exact qa) qb (argsL := argsL) (rest := rest) hlen hst (by show 2 * 0 + _ ≤ _; omega) hd (fun _ _ => ⟨rfl, eT, hc, hs⟩)
  dsimp only [Pt.U, Pt.locs, Pt.cells, Pt.slots] at X1 l1 y1 z1 st1 hQ
  subst l1 y1 z1
  exact (K v T1 Lc X1 hQ).step fun t k => st1.trans k
theorem arrLen (n : Nat) (X : Stand p l e R s m args below meth c T locs cells slots) (hx : p.tables.exec = Jvm.exec) (hZ : Z.Warmed39 s.vm) (eT : T.heap = h) {a : Addr} {k : ClassId} {ty : FieldType} {z : Int32} {vs : List Value} {dv : Value} {rest : List Value} (A : Arv Z h a k ty z vs dv) (hd : decode c.code pc = .ok (.arraylength, 1)) (hn : pc + 1 = n) (K : Ends p.tables e below Q F (T.setTop (mkF m n Ls (.int z :: rest)))) : Ends p.tables e below Q F (T.setTop (mkF m pc Ls (.ref a :: rest))) := by
  subst hn
  obtain ⟨cl, Ar, -, Sz, Nz, -, -⟩ := A
  refine K.step fun t kk => X.arraylength hx (by rw [eT]; exact Ar.1) (State.isArrayOf_alike hZ.alike Ar.2.1) (g := mkF m pc Ls (.ref a :: rest)) rfl rfl hd _ ?_
  rw [len_of Sz Nz]; exact kk
theorem iaload (n : Nat) (X : Stand p l e R s m args below meth c T locs cells slots) (hx : p.tables.exec = Jvm.exec) (hZ : Z.Warmed39 s.vm) (eT : T.heap = h) {a : Addr} {k : ClassId} {z j : Int32} (v : Int32) {vs : List Value} {dv : Value} {rest : List Value} (A : Arv Z h a k .int z vs dv) (hj : ¬ j < 0 ∧ j < z) (hv : vs.getD j.toNatClampNeg dv = .int v) (hd : decode c.code pc = .ok (.iaload, 1)) (hn : pc + 1 = n) (K : Ends p.tables e below Q F (T.setTop (mkF m n Ls (.int v :: rest)))) : Ends p.tables e below Q F (T.setTop (mkF m pc Ls (.int j :: .ref a :: rest))) := by
  subst hn
  obtain ⟨cl, Ar, -, Sz, Nz, Hs, -⟩ := A
  have hin := inb_of Sz hj
  exact K.step fun t kk => X.iaload hx (j := j) (v := .int v) (by rw [eT]; exact Ar.1) (State.isArrayOf_alike hZ.alike Ar.2.1) Ar.2.2 hin (Hs.at hin hv) (g := mkF m pc Ls (.int j :: .ref a :: rest)) rfl rfl hd _ kk
theorem laload (n : Nat) (X : Stand p l e R s m args below meth c T locs cells slots) (hx : p.tables.exec = Jvm.exec) (hZ : Z.Warmed39 s.vm) (eT : T.heap = h) {a : Addr} {k : ClassId} {z j : Int32} (v : Int64) {vs : List Value} {dv : Value} {rest : List Value} (A : Arv Z h a k .long z vs dv) (hj : ¬ j < 0 ∧ j < z) (hv : vs.getD j.toNatClampNeg dv = .long v) (hd : decode c.code pc = .ok (.laload, 1)) (hn : pc + 1 = n) (K : Ends p.tables e below Q F (T.setTop (mkF m n Ls (.long v :: rest)))) : Ends p.tables e below Q F (T.setTop (mkF m pc Ls (.int j :: .ref a :: rest))) := by
  subst hn
  obtain ⟨cl, Ar, -, Sz, Nz, Hs, -⟩ := A
  have hin := inb_of Sz hj
  exact K.step fun t kk => X.laload hx (j := j) (v := .long v) (by rw [eT]; exact Ar.1) (State.isArrayOf_alike hZ.alike Ar.2.1) Ar.2.2 hin (Hs.at hin hv) (g := mkF m pc Ls (.int j :: .ref a :: rest)) rfl rfl hd _ kk
theorem baload (n : Nat) (X : Stand p l e R s m args below meth c T locs cells slots) (hx : p.tables.exec = Jvm.exec) (hZ : Z.Warmed39 s.vm) (eT : T.heap = h) {a : Addr} {k : ClassId} {z j : Int32} (v : Int32) {vs : List Value} {dv : Value} {rest : List Value} (A : Arv Z h a k .byte z vs dv) (hj : ¬ j < 0 ∧ j < z) (hv : vs.getD j.toNatClampNeg dv = .int v) (hd : decode c.code pc = .ok (.baload, 1)) (hn : pc + 1 = n) (K : Ends p.tables e below Q F (T.setTop (mkF m n Ls (.int v :: rest)))) : Ends p.tables e below Q F (T.setTop (mkF m pc Ls (.int j :: .ref a :: rest))) := by
  subst hn
  obtain ⟨cl, Ar, -, Sz, Nz, Hs, -⟩ := A
  have hin := inb_of Sz hj
  exact K.step fun t kk => X.baloadBytes hx (j := j) (v := .int v) (by rw [eT]; exact Ar.1) (State.isArrayOf_alike hZ.alike Ar.2.1) Ar.2.2 hin (Hs.at hin hv) (g := mkF m pc Ls (.int j :: .ref a :: rest)) rfl rfl hd _ kk
theorem caload (n : Nat) (X : Stand p l e R s m args below meth c T locs cells slots) (hx : p.tables.exec = Jvm.exec) (hZ : Z.Warmed39 s.vm) (eT : T.heap = h) {a : Addr} {k : ClassId} {z j : Int32} (v : Int32) {vs : List Value} {dv : Value} {rest : List Value} (A : Arv Z h a k .char z vs dv) (hj : ¬ j < 0 ∧ j < z) (hv : vs.getD j.toNatClampNeg dv = .int v) (hd : decode c.code pc = .ok (.caload, 1)) (hn : pc + 1 = n) (K : Ends p.tables e below Q F (T.setTop (mkF m n Ls (.int v :: rest)))) : Ends p.tables e below Q F (T.setTop (mkF m pc Ls (.int j :: .ref a :: rest))) := by
  subst hn
  obtain ⟨cl, Ar, -, Sz, Nz, Hs, -⟩ := A
  have hin := inb_of Sz hj
  exact K.step fun t kk => X.caload hx (j := j) (v := .int v) (by rw [eT]; exact Ar.1) (State.isArrayOf_alike hZ.alike Ar.2.1) Ar.2.2 hin (Hs.at hin hv) (g := mkF m pc Ls (.int j :: .ref a :: rest)) rfl rfl hd _ kk
theorem aaload (n : Nat) (X : Stand p l e R s m args below meth c T locs cells slots) (hx : p.tables.exec = Jvm.exec) (hZ : Z.Warmed39 s.vm) (eT : T.heap = h) {a : Addr} {k : ClassId} {z j : Int32} {ty : FieldType} (v : Value) {vs : List Value} {dv : Value} {rest : List Value} (A : Arv Z h a k ty z vs dv) (hty : ty.isReference = true) (hj : ¬ j < 0 ∧ j < z) (hv : vs.getD j.toNatClampNeg dv = v) (hd : decode c.code pc = .ok (.aaload, 1)) (hn : pc + 1 = n) (K : Ends p.tables e below Q F (T.setTop (mkF m n Ls (v :: rest)))) : Ends p.tables e below Q F (T.setTop (mkF m pc Ls (.int j :: .ref a :: rest))) := by
  subst hn
  obtain ⟨cl, Ar, -, Sz, Nz, Hs, -⟩ := A
  have hin := inb_of Sz hj
  exact K.step fun t kk => X.aaload hx (j := j) (v := v) (by rw [eT]; exact Ar.1) (State.isArrayOf_alike hZ.alike Ar.2.1) hty Ar.2.2 hin (Hs.at hin hv) (g := mkF m pc Ls (.int j :: .ref a :: rest)) rfl rfl hd _ kk
theorem iastore (n : Nat) (X : Stand p l e R s m args below meth c T locs cells slots) (hx : p.tables.exec = Jvm.exec) (hZ : Z.Warmed39 s.vm) (eT : T.heap = h) {a : Addr} {k : ClassId} {z j : Int32} {x : Int32} {vs : List Value} {dv : Value} {rest : List Value} (A : Arv Z h a k .int z vs dv) (hj : ¬ j < 0 ∧ j < z) (hlen : j.toNatClampNeg < vs.length) (hd : decode c.code pc = .ok (.iastore, 1)) (hn : pc + 1 = n) (K : ∀ T' h', Stand p l e R s m args below meth c T' (locs ++ [⟨a, j.toNatClampNeg⟩]) cells slots → T'.heap = h' → Wr h h' a j.toNatClampNeg (.int x) → Arv Z h' a k .int z (vs.set j.toNatClampNeg (.int x)) dv → Ends p.tables e below Q F (T'.setTop (mkF m n Ls (rest)))) : Ends p.tables e below Q F (T.setTop (mkF m pc Ls (.int x :: .int j :: .ref a :: rest))) := by
  subst hn
  obtain ⟨cl, Ar, q1, Sz, Nz, Hs, Gs⟩ := A
  obtain ⟨T1, h1, X1, e1, W1, st1⟩ := stI X hx hZ eT Ar (j := j) (inb_of Sz hj) (g := mkF m pc Ls (.int x :: .int j :: .ref a :: rest)) rfl rfl hd
  exact (K T1 h1 X1 e1 W1 (Arv.set Ar q1 Sz Nz Hs Gs rfl W1 _ rfl hlen)).step st1
theorem lastore (n : Nat) (X : Stand p l e R s m args below meth c T locs cells slots) (hx : p.tables.exec = Jvm.exec) (hZ : Z.Warmed39 s.vm) (eT : T.heap = h) {a : Addr} {k : ClassId} {z j : Int32} {x : Int64} {vs : List Value} {dv : Value} {rest : List Value} (A : Arv Z h a k .long z vs dv) (hj : ¬ j < 0 ∧ j < z) (hlen : j.toNatClampNeg < vs.length) (hd : decode c.code pc = .ok (.lastore, 1)) (hn : pc + 1 = n) (K : ∀ T' h', Stand p l e R s m args below meth c T' (locs ++ [⟨a, j.toNatClampNeg⟩]) cells slots → T'.heap = h' → Wr h h' a j.toNatClampNeg (.long x) → Arv Z h' a k .long z (vs.set j.toNatClampNeg (.long x)) dv → Ends p.tables e below Q F (T'.setTop (mkF m n Ls (rest)))) : Ends p.tables e below Q F (T.setTop (mkF m pc Ls (.long x :: .int j :: .ref a :: rest))) := by
  subst hn
  obtain ⟨cl, Ar, q1, Sz, Nz, Hs, Gs⟩ := A
  obtain ⟨T1, h1, X1, e1, W1, st1⟩ := stJ X hx hZ eT Ar (j := j) (inb_of Sz hj) (g := mkF m pc Ls (.long x :: .int j :: .ref a :: rest)) rfl rfl hd
  exact (K T1 h1 X1 e1 W1 (Arv.set Ar q1 Sz Nz Hs Gs rfl W1 _ rfl hlen)).step st1
theorem bastore (n : Nat) (X : Stand p l e R s m args below meth c T locs cells slots) (hx : p.tables.exec = Jvm.exec) (hZ : Z.Warmed39 s.vm) (eT : T.heap = h) {a : Addr} {k : ClassId} {z j : Int32} {x : Int32} {vs : List Value} {dv : Value} {rest : List Value} (A : Arv Z h a k .byte z vs dv) (hj : ¬ j < 0 ∧ j < z) (hlen : j.toNatClampNeg < vs.length) (hd : decode c.code pc = .ok (.bastore, 1)) (hn : pc + 1 = n) (K : ∀ T' h', Stand p l e R s m args below meth c T' (locs ++ [⟨a, j.toNatClampNeg⟩]) cells slots → T'.heap = h' → Wr h h' a j.toNatClampNeg (.int x.toInt8.toInt32) → Arv Z h' a k .byte z (vs.set j.toNatClampNeg (.int x.toInt8.toInt32)) dv → Ends p.tables e below Q F (T'.setTop (mkF m n Ls (rest)))) : Ends p.tables e below Q F (T.setTop (mkF m pc Ls (.int x :: .int j :: .ref a :: rest))) := by
  subst hn
  obtain ⟨cl, Ar, q1, Sz, Nz, Hs, Gs⟩ := A
  obtain ⟨T1, h1, X1, e1, W1, st1⟩ := stB X hx hZ eT Ar (j := j) (inb_of Sz hj) (g := mkF m pc Ls (.int x :: .int j :: .ref a :: rest)) rfl rfl hd
  exact (K T1 h1 X1 e1 W1 (Arv.set Ar q1 Sz Nz Hs Gs (fits_nar_byte _) W1 _ rfl hlen)).step st1
theorem castore (n : Nat) (X : Stand p l e R s m args below meth c T locs cells slots) (hx : p.tables.exec = Jvm.exec) (hZ : Z.Warmed39 s.vm) (eT : T.heap = h) {a : Addr} {k : ClassId} {z j : Int32} {x : Int32} {vs : List Value} {dv : Value} {rest : List Value} (A : Arv Z h a k .char z vs dv) (hj : ¬ j < 0 ∧ j < z) (hlen : j.toNatClampNeg < vs.length) (hd : decode c.code pc = .ok (.castore, 1)) (hn : pc + 1 = n) (K : ∀ T' h', Stand p l e R s m args below meth c T' (locs ++ [⟨a, j.toNatClampNeg⟩]) cells slots → T'.heap = h' → Wr h h' a j.toNatClampNeg (.int (nar .char x)) → Arv Z h' a k .char z (vs.set j.toNatClampNeg (.int (nar .char x))) dv → Ends p.tables e below Q F (T'.setTop (mkF m n Ls (rest)))) : Ends p.tables e below Q F (T.setTop (mkF m pc Ls (.int x :: .int j :: .ref a :: rest))) := by
  subst hn
  obtain ⟨cl, Ar, q1, Sz, Nz, Hs, Gs⟩ := A
  obtain ⟨T1, h1, X1, e1, W1, st1⟩ := stC X hx hZ eT Ar (j := j) (inb_of Sz hj) (g := mkF m pc Ls (.int x :: .int j :: .ref a :: rest)) rfl rfl hd
  exact (K T1 h1 X1 e1 W1 (Arv.set Ar q1 Sz Nz Hs Gs (fits_nar_char _) W1 _ rfl hlen)).step st1
theorem newArr (n cap : Nat) (X : Stand p l e R s m args below meth c T locs cells slots) (hx : p.tables.exec = Jvm.exec) (hZ : Z.Warmed39 s.vm) {aty : ArrayType} (w : (Cond.arrayClass (newarray.typeOf aty)).before a0 Z = true) (eT : T.heap = h) {z : Int32} {rest : List Value} (hz : ¬ z < 0) (hcap : z.toNatClampNeg ≤ cap) (hb : cap * 8 ≤ 536870912) (hd : decode c.code pc = .ok (.newarray aty, 2)) (hn : pc + 2 = n) (hc : cells + 1 ≤ R.cells) (hl : slots + cap ≤ R.slots) (K : ∀ T' h' a k, a = h.size → Stand p l e R s m args below meth c T' locs (cells + 1) (slots + cap) → T'.heap = h' → Ext h h' → Arv Z h' a k (newarray.typeOf aty) z (List.replicate z.toNatClampNeg (defaultValue (newarray.typeOf aty))) (defaultValue (newarray.typeOf aty)) → Ends p.tables e below Q F (T'.setTop (mkF m n Ls (.ref a :: rest)))) : Ends p.tables e below Q F (T.setTop (mkF m pc Ls (.int z :: rest))) := by
  subst hn
  obtain ⟨T1, h1, k1, X1, e1, E1, A1, st1⟩ := newP X hx hZ w eT (g := mkF m pc Ls (.int z :: rest)) rfl hd rfl hz (cap := cap) hcap hb hc hl
  exact (K T1 h1 _ k1 rfl X1 e1 E1 ((Arv.new A1 hz).pad (pad_rep [] _ _))).step st1
theorem arrCopy (n W : Nat) (X : Stand p l e R s m args below meth c T locs cells slots) (hx : p.tables.exec = Jvm.exec) (hZ : Z.Warmed39 s.vm) {own : String} {index : Nat} (hown : s.vm.findClass own = some m.cls) (w1 : (Cond.methodLink own index Jvm.Stand.acN).before a0 Z = true) (w2 : (Cond.native Jvm.Stand.acN).before a0 Z = true) (w3 : (Cond.static Jvm.Stand.acN).before a0 Z = true) (w4 : (Cond.initialized "java/lang/System").before a0 Z = true) (eT : T.heap = h) {a b : Addr} {k k2 : ClassId} {ty : FieldType} {z z2 sp dp nn : Int32} {vs vd : List Value} {dv dd : Value} (A : Arv Z h a k ty z vs dv) (B : Arv Z h b k2 ty z2 vd dd) (hty : refKind ty = false) (h1 : ¬ sp < 0) (h2 : ¬ dp < 0) (h3 : ¬ nn < 0) (h4 : sp.toNatClampNeg + nn.toNatClampNeg ≤ z.toNatClampNeg) (h5 : dp.toNatClampNeg + nn.toNatClampNeg ≤ z2.toNatClampNeg) (hl : dp.toNatClampNeg + nn.toNatClampNeg ≤ vd.length) {n0 : Nat} (N : Fr n0 locs) (ge : n0 ≤ b) (hsz : Ls.size = c.maxLocals) {rest : List Value} (hd : decode c.code pc = .ok (.invokestatic index, 3)) (hn : pc + 3 = n) (hf : 1 ≤ R.frames) (hW : (rest.map fun v => v.category).sum ≤ W) (hlo : W + (nativeFrameWords "java/lang/System" "arraycopy" 5 + 11) ≤ R.locals) (K : ∀ T' h' L vs', Stand p l e R s m args below meth c T' L cells slots → T'.heap = h' → Fr n0 L → Keep h h' [b] → vs' = vd.take dp.toNatClampNeg ++ ((List.range nn.toNatClampNeg).map fun i => vs.getD (sp.toNatClampNeg + i) dv) ++ vd.drop (dp.toNatClampNeg + nn.toNatClampNeg) → vs'.length = vd.length → Arv Z h' b k2 ty z2 vs' dd → Ends p.tables e below Q F (T'.setTop (mkF m n Ls (rest)))) : Ends p.tables e below Q F (T.setTop (mkF m pc Ls (.int nn :: .int dp :: .ref b :: .int sp :: .ref a :: rest))) := by
  subst hn
  obtain ⟨T1, hh1, L1, X1, e1, N1, K1, V1, st1⟩ := cpA X hx hZ hown w1 w2 w3 w4 eT A B (Or.inl ⟨rfl, hty⟩) h1 h2 h3 h4 h5 rfl hl N ge (g := mkF m pc Ls (.int nn :: .int dp :: .ref b :: .int sp :: .ref a :: rest)) rfl hsz rfl hd hf (W := W) (by show 2 * 0 + _ ≤ _; omega) hlo
  exact (K T1 hh1 L1 _ X1 e1 N1 K1 rfl (by simp; omega) V1).step st1
/-- an array of this kind and length, whatever it holds -/
def Ax (Z : State) (h : Heap) (a : Addr) (ty : FieldType) (z : Int32) : Prop := ∃ (k : ClassId) (vs : List Value), vs.length = z.toNatClampNeg ∧ Arv Z h a k ty z vs (defaultValue ty)
theorem Ax.lt {a : Addr} {ty : FieldType} {z : Int32} (F : Ax Z h a ty z) : a < h.size := by obtain ⟨k, vs, -, A⟩ := F; exact A.lt
theorem Ax.ext {h' : Heap} {a : Addr} {ty : FieldType} {z : Int32} (F : Ax Z h a ty z) (E : Ext h h') : Ax Z h' a ty z := by obtain ⟨k, vs, q, A⟩ := F; exact ⟨k, vs, q, A.ext E⟩
theorem Ax.keep {h' : Heap} {a : Addr} {ty : FieldType} {z : Int32} {ws : List Addr} (F : Ax Z h a ty z) (K : Keep h h' ws) (q : a ∉ ws) : Ax Z h' a ty z := by obtain ⟨k, vs, r, A⟩ := F; exact ⟨k, vs, r, A.keep K q⟩
theorem Ax.other {h' : Heap} {a b : Addr} {sl : Nat} {v : Value} {ty : FieldType} {z : Int32} (F : Ax Z h a ty z) (W : Wr h h' b sl v) (q : a ≠ b) : Ax Z h' a ty z := by obtain ⟨k, vs, r, A⟩ := F; exact ⟨k, vs, r, A.other W q⟩
theorem Ax.nn {a : Addr} {ty : FieldType} {z : Int32} (F : Ax Z h a ty z) : ¬ z < 0 := by obtain ⟨k, vs, -, c, -, -, -, N, -⟩ := F; exact N
theorem axLen (n : Nat) (X : Stand p l e R s m args below meth c T locs cells slots) (hx : p.tables.exec = Jvm.exec) (hZ : Z.Warmed39 s.vm) (eT : T.heap = h) {a : Addr} {ty : FieldType} {z : Int32} {rest : List Value} (A : Ax Z h a ty z) (hd : decode c.code pc = .ok (.arraylength, 1)) (hn : pc + 1 = n) (K : Ends p.tables e below Q F (T.setTop (mkF m n Ls (.int z :: rest)))) : Ends p.tables e below Q F (T.setTop (mkF m pc Ls (.ref a :: rest))) := by
  obtain ⟨k, vs, -, A⟩ := A
  exact arrLen n X hx hZ eT A hd hn K
theorem axLoadI (n : Nat) (X : Stand p l e R s m args below meth c T locs cells slots) (hx : p.tables.exec = Jvm.exec) (hZ : Z.Warmed39 s.vm) (eT : T.heap = h) {a : Addr} {z j : Int32} {rest : List Value} (A : Ax Z h a .int z) (hj : ¬ j < 0 ∧ j < z) (hd : decode c.code pc = .ok (.iaload, 1)) (hn : pc + 1 = n) (K : ∀ v : Int32, Ends p.tables e below Q F (T.setTop (mkF m n Ls (.int v :: rest)))) : Ends p.tables e below Q F (T.setTop (mkF m pc Ls (.int j :: .ref a :: rest))) := by
  obtain ⟨k, vs, -, A⟩ := A
  have A1 := A
  obtain ⟨cl, Ar, -, Sz, Nz, Hs, Gs⟩ := A1
  have hin := inb_of Sz hj
  have G := Gs j.toNatClampNeg (Nat.lt_of_not_le fun y => hin (Or.inr y))
  obtain ⟨v, hv⟩ := fit_I G (Or.inl rfl)
  exact iaload n X hx hZ eT v A hj hv hd hn (K v)
theorem axLoadJ (n : Nat) (X : Stand p l e R s m args below meth c T locs cells slots) (hx : p.tables.exec = Jvm.exec) (hZ : Z.Warmed39 s.vm) (eT : T.heap = h) {a : Addr} {z j : Int32} {rest : List Value} (A : Ax Z h a .long z) (hj : ¬ j < 0 ∧ j < z) (hd : decode c.code pc = .ok (.laload, 1)) (hn : pc + 1 = n) (K : ∀ v : Int64, Ends p.tables e below Q F (T.setTop (mkF m n Ls (.long v :: rest)))) : Ends p.tables e below Q F (T.setTop (mkF m pc Ls (.int j :: .ref a :: rest))) := by
  obtain ⟨k, vs, -, A⟩ := A
  have A1 := A
  obtain ⟨cl, Ar, -, Sz, Nz, Hs, Gs⟩ := A1
  have hin := inb_of Sz hj
  have G := Gs j.toNatClampNeg (Nat.lt_of_not_le fun y => hin (Or.inr y))
  obtain ⟨v, hv⟩ := fit_J G
  exact laload n X hx hZ eT v A hj hv hd hn (K v)
theorem axLoadB (n : Nat) (X : Stand p l e R s m args below meth c T locs cells slots) (hx : p.tables.exec = Jvm.exec) (hZ : Z.Warmed39 s.vm) (eT : T.heap = h) {a : Addr} {z j : Int32} {rest : List Value} (A : Ax Z h a .byte z) (hj : ¬ j < 0 ∧ j < z) (hd : decode c.code pc = .ok (.baload, 1)) (hn : pc + 1 = n) (K : ∀ v : Int32, Ends p.tables e below Q F (T.setTop (mkF m n Ls (.int v :: rest)))) : Ends p.tables e below Q F (T.setTop (mkF m pc Ls (.int j :: .ref a :: rest))) := by
  obtain ⟨k, vs, -, A⟩ := A
  have A1 := A
  obtain ⟨cl, Ar, -, Sz, Nz, Hs, Gs⟩ := A1
  have hin := inb_of Sz hj
  have G := Gs j.toNatClampNeg (Nat.lt_of_not_le fun y => hin (Or.inr y))
  obtain ⟨v, hv⟩ := fit_I G (Or.inr (Or.inr (Or.inl rfl)))
  exact baload n X hx hZ eT v A hj hv hd hn (K v)
theorem axStoreI (n : Nat) (X : Stand p l e R s m args below meth c T locs cells slots) (hx : p.tables.exec = Jvm.exec) (hZ : Z.Warmed39 s.vm) (eT : T.heap = h) {a : Addr} {z j : Int32} {x : Int32} {rest : List Value} (A : Ax Z h a .int z) (hj : ¬ j < 0 ∧ j < z) (hd : decode c.code pc = .ok (.iastore, 1)) (hn : pc + 1 = n) (K : ∀ T' h', Stand p l e R s m args below meth c T' (locs ++ [⟨a, j.toNatClampNeg⟩]) cells slots → T'.heap = h' → Wr h h' a j.toNatClampNeg (.int x) → Ax Z h' a .int z → Ends p.tables e below Q F (T'.setTop (mkF m n Ls (rest)))) : Ends p.tables e below Q F (T.setTop (mkF m pc Ls (.int x :: .int j :: .ref a :: rest))) := by
  obtain ⟨k, vs, hl, A⟩ := A
  have hjz : j.toNatClampNeg < z.toNatClampNeg := by
    have h1 := nat_of hj.1
    have h2 := hj.2
    have h3 := nat_of (Ax.nn ⟨k, vs, hl, A⟩)
    rw [Int32.lt_iff_toInt_lt] at h2
    omega
  exact iastore n X hx hZ eT A hj (by rw [hl]; exact hjz) hd hn (fun T1 h1 X1 e1 W1 A1 => K T1 h1 X1 e1 W1 ⟨k, _, by rw [List.length_set, hl], A1⟩)
theorem axStoreJ (n : Nat) (X : Stand p l e R s m args below meth c T locs cells slots) (hx : p.tables.exec = Jvm.exec) (hZ : Z.Warmed39 s.vm) (eT : T.heap = h) {a : Addr} {z j : Int32} {x : Int64} {rest : List Value} (A : Ax Z h a .long z) (hj : ¬ j < 0 ∧ j < z) (hd : decode c.code pc = .ok (.lastore, 1)) (hn : pc + 1 = n) (K : ∀ T' h', Stand p l e R s m args below meth c T' (locs ++ [⟨a, j.toNatClampNeg⟩]) cells slots → T'.heap = h' → Wr h h' a j.toNatClampNeg (.long x) → Ax Z h' a .long z → Ends p.tables e below Q F (T'.setTop (mkF m n Ls (rest)))) : Ends p.tables e below Q F (T.setTop (mkF m pc Ls (.long x :: .int j :: .ref a :: rest))) := by
  obtain ⟨k, vs, hl, A⟩ := A
  have hjz : j.toNatClampNeg < z.toNatClampNeg := by
    have h1 := nat_of hj.1
    have h2 := hj.2
    have h3 := nat_of (Ax.nn ⟨k, vs, hl, A⟩)
    rw [Int32.lt_iff_toInt_lt] at h2
    omega
  exact lastore n X hx hZ eT A hj (by rw [hl]; exact hjz) hd hn (fun T1 h1 X1 e1 W1 A1 => K T1 h1 X1 e1 W1 ⟨k, _, by rw [List.length_set, hl], A1⟩)
theorem axStoreB (n : Nat) (X : Stand p l e R s m args below meth c T locs cells slots) (hx : p.tables.exec = Jvm.exec) (hZ : Z.Warmed39 s.vm) (eT : T.heap = h) {a : Addr} {z j : Int32} {x : Int32} {rest : List Value} (A : Ax Z h a .byte z) (hj : ¬ j < 0 ∧ j < z) (hd : decode c.code pc = .ok (.bastore, 1)) (hn : pc + 1 = n) (K : ∀ T' h', Stand p l e R s m args below meth c T' (locs ++ [⟨a, j.toNatClampNeg⟩]) cells slots → T'.heap = h' → Wr h h' a j.toNatClampNeg (.int x.toInt8.toInt32) → Ax Z h' a .byte z → Ends p.tables e below Q F (T'.setTop (mkF m n Ls (rest)))) : Ends p.tables e below Q F (T.setTop (mkF m pc Ls (.int x :: .int j :: .ref a :: rest))) := by
  obtain ⟨k, vs, hl, A⟩ := A
  have hjz : j.toNatClampNeg < z.toNatClampNeg := by
    have h1 := nat_of hj.1
    have h2 := hj.2
    have h3 := nat_of (Ax.nn ⟨k, vs, hl, A⟩)
    rw [Int32.lt_iff_toInt_lt] at h2
    omega
  exact bastore n X hx hZ eT A hj (by rw [hl]; exact hjz) hd hn (fun T1 h1 X1 e1 W1 A1 => K T1 h1 X1 e1 W1 ⟨k, _, by rw [List.length_set, hl], A1⟩)
theorem axNew (n cap : Nat) (X : Stand p l e R s m args below meth c T locs cells slots) (hx : p.tables.exec = Jvm.exec) (hZ : Z.Warmed39 s.vm) {aty : ArrayType} (w : (Cond.arrayClass (newarray.typeOf aty)).before a0 Z = true) (eT : T.heap = h) {z : Int32} {rest : List Value} (hz : ¬ z < 0) (hcap : z.toNatClampNeg ≤ cap) (hb : cap * 8 ≤ 536870912) (hd : decode c.code pc = .ok (.newarray aty, 2)) (hn : pc + 2 = n) (hc : cells + 1 ≤ R.cells) (hl : slots + cap ≤ R.slots) (K : ∀ T' h' a, a = h.size → Stand p l e R s m args below meth c T' locs (cells + 1) (slots + cap) → T'.heap = h' → Ext h h' → Ax Z h' a (newarray.typeOf aty) z → Ends p.tables e below Q F (T'.setTop (mkF m n Ls (.ref a :: rest)))) : Ends p.tables e below Q F (T.setTop (mkF m pc Ls (.int z :: rest))) :=
  newArr n cap X hx hZ w eT hz hcap hb hd hn hc hl (fun T1 h1 a k q X1 e1 E1 A1 => K T1 h1 a q X1 e1 E1 ⟨k, _, List.length_replicate, A1⟩)
theorem axCopy (n W : Nat) (X : Stand p l e R s m args below meth c T locs cells slots) (hx : p.tables.exec = Jvm.exec) (hZ : Z.Warmed39 s.vm) {own : String} {index : Nat} (hown : s.vm.findClass own = some m.cls) (w1 : (Cond.methodLink own index Jvm.Stand.acN).before a0 Z = true) (w2 : (Cond.native Jvm.Stand.acN).before a0 Z = true) (w3 : (Cond.static Jvm.Stand.acN).before a0 Z = true) (w4 : (Cond.initialized "java/lang/System").before a0 Z = true) (eT : T.heap = h) {a b : Addr} {ty : FieldType} {z z2 sp dp nn : Int32} (A : Ax Z h a ty z) (B : Ax Z h b ty z2) (hty : refKind ty = false) (h1 : ¬ sp < 0) (h2 : ¬ dp < 0) (h3 : ¬ nn < 0) (h4 : sp.toNatClampNeg + nn.toNatClampNeg ≤ z.toNatClampNeg) (h5 : dp.toNatClampNeg + nn.toNatClampNeg ≤ z2.toNatClampNeg) {n0 : Nat} (N : Fr n0 locs) (ge : n0 ≤ b) (hsz : Ls.size = c.maxLocals) {rest : List Value} (hd : decode c.code pc = .ok (.invokestatic index, 3)) (hn : pc + 3 = n) (hf : 1 ≤ R.frames) (hW : (rest.map fun v => v.category).sum ≤ W) (hlo : W + (nativeFrameWords "java/lang/System" "arraycopy" 5 + 11) ≤ R.locals) (K : ∀ T' h' L, Stand p l e R s m args below meth c T' L cells slots → T'.heap = h' → Fr n0 L → Keep h h' [b] → Ax Z h' b ty z2 → Ends p.tables e below Q F (T'.setTop (mkF m n Ls (rest)))) : Ends p.tables e below Q F (T.setTop (mkF m pc Ls (.int nn :: .int dp :: .ref b :: .int sp :: .ref a :: rest))) := by
  obtain ⟨k, vs, hl, A⟩ := A
  obtain ⟨k2, vd, hl2, B⟩ := B
  exact arrCopy n W X hx hZ hown w1 w2 w3 w4 eT A B hty h1 h2 h3 h4 h5 (by rw [hl2]; exact h5) N ge hsz hd hn hf hW hlo (fun T1 hh1 L1 vs1 X1 e1 N1 K1 _ q V1 => K T1 hh1 L1 X1 e1 N1 K1 ⟨k2, vs1, q.trans hl2, V1⟩)
theorem acmp_ne (nY nN : Nat) (X : Stand p l e R s m args below meth c T locs cells slots) (hx : p.tables.exec = Jvm.exec) {o : Int} {x y : Value} {rest : List Value} (hd : decode c.code pc = .ok (.if_acmp .ne o, 3)) (h1 : x.isRef = true) (h2 : y.isRef = true) (hY : 0 ≤ (pc : Int) + o ∧ ((pc : Int) + o).toNat = nY) (hN : pc + 3 = nN) (KY : ¬ x = y → Ends p.tables e below Q F (T.setTop (mkF m nY Ls (rest)))) (KN : x = y → Ends p.tables e below Q F (T.setTop (mkF m nN Ls (rest)))) : Ends p.tables e below Q F (T.setTop (mkF m pc Ls (y :: x :: rest))) := by
  subst hN
  by_cases q : x = y
  · exact (KN q).step fun t k => acmp (g := mkF m pc Ls (y :: x :: rest)) X hx rfl h1 h2 (pc0 := pc) (pc' := pc + 3) (same := true) rfl hd rfl (decide_eq_true q) hY.1 rfl k
  · exact (KY q).step fun t k => acmp (g := mkF m pc Ls (y :: x :: rest)) X hx rfl h1 h2 (pc0 := pc) (pc' := nY) (same := false) rfl hd rfl (decide_eq_false q) hY.1 hY.2.symm k
theorem acmp_eq (nY nN : Nat) (X : Stand p l e R s m args below meth c T locs cells slots) (hx : p.tables.exec = Jvm.exec) {o : Int} {x y : Value} {rest : List Value} (hd : decode c.code pc = .ok (.if_acmp .eq o, 3)) (h1 : x.isRef = true) (h2 : y.isRef = true) (hY : 0 ≤ (pc : Int) + o ∧ ((pc : Int) + o).toNat = nY) (hN : pc + 3 = nN) (KY : x = y → Ends p.tables e below Q F (T.setTop (mkF m nY Ls (rest)))) (KN : ¬ x = y → Ends p.tables e below Q F (T.setTop (mkF m nN Ls (rest)))) : Ends p.tables e below Q F (T.setTop (mkF m pc Ls (y :: x :: rest))) := by
  subst hN
  by_cases q : x = y
  · exact (KY q).step fun t k => acmp (g := mkF m pc Ls (y :: x :: rest)) X hx rfl h1 h2 (pc0 := pc) (pc' := nY) (same := true) rfl hd rfl (decide_eq_true q) hY.1 hY.2.symm k
  · exact (KN q).step fun t k => acmp (g := mkF m pc Ls (y :: x :: rest)) X hx rfl h1 h2 (pc0 := pc) (pc' := pc + 3) (same := false) rfl hd rfl (decide_eq_false q) hY.1 rfl k
theorem callInitB (n W rc rs : Nat) (a : Addr) (argsL rest : List Value) (X : Stand p l e R s m args below meth c T locs cells slots) (hx : p.tables.exec = Jvm.exec) (hZ : Z.Warmed39 s.vm) {own : String} {index : Nat} {y : MethodName} {bytes : ByteArray} {maxL : Nat} {QQ : Option Value → Heap → List Loc → Prop} (hown : s.vm.findClass own = some m.cls) (hB : Back l R p e below s args y 3 W (fun P a' => a' = (.ref a :: argsL).toArray ∧ P.U.heap = h ∧ P.cells + rc ≤ R.cells ∧ P.slots + rs ≤ R.slots) (fun P _ v B => ∃ L, QQ v B.U.heap L ∧ B.locs = P.locs ++ L ∧ B.cells = P.cells + rc ∧ B.slots = P.slots + rs)) (hy1 : y.name = "<init>") (wl : (Cond.methodLink own index y).before a0 Z = true) (ws : (Cond.instanceMethod y).before a0 Z = true) (wc : (Cond.code y bytes maxL none).before a0 Z = true) (hy : y.cls ≠ "java/lang/invoke/MethodHandle" ∧ y.cls ≠ "java/lang/invoke/VarHandle") (eT : T.heap = h) (hc : cells + rc ≤ R.cells) (hs : slots + rs ≤ R.slots) (hsz : Ls.size = c.maxLocals) (hlen : ∀ sig, parseMethodDescriptor y.desc = some sig → argsL.length = sig.parameters.length) (hst : st = argsL.reverse ++ .ref a :: rest) (hW : (rest.map fun v => v.category).sum ≤ W) (hd : decode c.code pc = .ok (.invokespecial index, 3)) (hn : pc + 3 = n) (K : ∀ v T' L', Stand p l e R s m args below meth c T' (locs ++ L') (cells + rc) (slots + rs) → QQ v T'.heap L' → Ends p.tables e below Q F (T'.setTop (mkF m n Ls (v.toList ++ rest)))) : Ends p.tables e below Q F (T.setTop (mkF m pc Ls (st))) := by
  subst hn
  obtain ⟨v, vm1, ⟨T1, L1, k1, n1⟩, -, X1, ⟨Lc, hQ, l1, y1, z1⟩, st1⟩ := X.specialBack hx (y := y) hy1 hown (mvT hZ wl) (mvT hZ ws) (mvT hZ wc) hy hB (g := mkF m pc Ls st) rfl hsz (Steps.refl _) (a := a) (argsL := argsL) (rest := rest) hlen hst (by show 2 * 0 + _ ≤ _; omega) hd (fun _ _ => ⟨rfl, eT, hc, hs⟩)
  dsimp only [Pt.U, Pt.locs, Pt.cells, Pt.slots] at X1 l1 y1 z1 st1 hQ
  subst l1 y1 z1
  exact (K v T1 Lc X1 hQ).step fun t k => st1.trans k
theorem callVtB (n W rc rs : Nat) (a : Addr) (argsL rest : List Value) (X : Stand p l e R s m args below meth c T locs cells slots) (hx : p.tables.exec = Jvm.exec) (hZ : Z.Warmed39 s.vm) {own CC : String} {index : Nat} {y z : MethodName} {QQ : Option Value → Heap → List Loc → Prop} (hown : s.vm.findClass own = some m.cls) (hB : Back l R p e below s args z 3 W (fun P a' => a' = (.ref a :: argsL).toArray ∧ P.U.heap = h ∧ P.cells + rc ≤ R.cells ∧ P.slots + rs ≤ R.slots) (fun P _ v B => ∃ L, QQ v B.U.heap L ∧ B.locs = P.locs ++ L ∧ B.cells = P.cells + rc ∧ B.slots = P.slots + rs)) (E : Exa Z h a CC) (hnf : NotFace s y) (wl : (Cond.methodLink own index y).before a0 Z = true) (wd : (Cond.declares y).before a0 Z = true) (wsel : (Cond.selects CC y z).before a0 Z = true) (ws : (Cond.instanceMethod z).before a0 Z = true) (hy : y.cls ≠ "java/lang/invoke/MethodHandle" ∧ y.cls ≠ "java/lang/invoke/VarHandle") (eT : T.heap = h) (hc : cells + rc ≤ R.cells) (hs : slots + rs ≤ R.slots) (hsz : Ls.size = c.maxLocals) (hlen : ∀ sig, parseMethodDescriptor y.desc = some sig → argsL.length = sig.parameters.length) (hst : st = argsL.reverse ++ .ref a :: rest) (hW : (rest.map fun v => v.category).sum ≤ W) (hd : decode c.code pc = .ok (.invokevirtual index, 3)) (hn : pc + 3 = n) (K : ∀ v T' L', Stand p l e R s m args below meth c T' (locs ++ L') (cells + rc) (slots + rs) → QQ v T'.heap L' → Ends p.tables e below Q F (T'.setTop (mkF m n Ls (v.toList ++ rest)))) : Ends p.tables e below Q F (T.setTop (mkF m pc Ls (st))) := by
  subst hn
  obtain ⟨cq, kq, qa, qb, qc⟩ := isOf hZ eT E
  obtain ⟨v, vm1, ⟨T1, L1, k1, n1⟩, -, X1, ⟨Lc, hQ, l1, y1, z1⟩, st1⟩ := X.virtualBack hx (y := y) (z := z) hown (mvT hZ wl) (mvT hZ wd) hnf (mvT hZ wsel) (mvT hZ ws) hy hB qa qc (g := mkF m pc Ls st) rfl hsz (Steps.refl _) (argsL := argsL) (rest := rest) hlen hst (by show 2 * 0 + _ ≤ _; omega) hd (fun _ _ => ⟨rfl, eT, hc, hs⟩)
  dsimp only [Pt.U, Pt.locs, Pt.cells, Pt.slots] at X1 l1 y1 z1 st1 hQ
  subst l1 y1 z1
  exact (K v T1 Lc X1 hQ).step fun t k => st1.trans k
theorem eqI_v {t : Term} {k : Int32} {as : Array Value} (q : (Cond.eq t (.int k)).value as s none s [] = some true) : t.eval as s none [] s = some (.int k) := by
  cases ht : t.eval as s none [] s with
  | none => simp [Cond.value, ht] at q
  | some x => cases x <;> simp [Cond.value, Term.eval, ht] at q ⊢; exact q
theorem eqR_v {t u : Term} {b : Addr} {as : Array Value} (hu : u.eval as s none [] s = some (.ref b)) (q : (Cond.eq t u).value as s none s [] = some true) : t.eval as s none [] s = some (.ref b) := by
  cases ht : t.eval as s none [] s with
  | none => simp [Cond.value, ht] at q
  | some x => cases x <;> simp [Cond.value, hu, ht] at q ⊢; exact q
theorem Ends.wide {tb : Tables} {U : State} (k : Ends tb e below Q (FE s C S) U) : Ends tb e below Q (FW s C S) U := by
  obtain ⟨s₂, o, h1, h2, h3, v, L, h4, h5, h6⟩ := k
  exact ⟨s₂, o, h1, h2, h3, v, L, h4, h5, Jvm.RoadKit.wide h6⟩
theorem Ends.since {tb : Tables} {U : State} {vm1 : Vm} {k1 : Nat} (hS : s.Since vm1 k1) (k : Ends tb e below (fun v hh L => Q v hh L ∧ k1 ≤ hh.size) (FE (s.setVm vm1) C S) U) : Ends tb e below Q (FW s C S) U := by
  obtain ⟨s₂, o, h1, h2, h3, v, L, h4, ⟨h5, hk⟩, h6, h7, h8⟩ := k
  obtain ⟨a, b, d⟩ := hS.ended (U := s₂) h7 hk h8
  exact ⟨s₂, o, h1, h2, h3, v, L, h4, h5, h6, a, b, d⟩
theorem ldcStr (n cap : Nat) (X : Stand p l e R s m args below meth c T locs cells slots) (hx : p.tables.exec = Jvm.exec) (hZ : Z.Warmed39 s.vm) {own text : String} {index : Nat} (hown : s.vm.findClass own = some m.cls) (w : (Cond.stringLink own index text).before a0 Z = true) (wS : ∀ a ∈ Bundle.stringAtoms, a.before a0 Z = true) (eT : T.heap = h) (hd : decode c.code pc = .ok (.ldc index, 2)) (hn : pc + 2 = n) (hcap : 4 * text.toList.length ≤ cap) (hbig : cap ≤ 536870912) (hc : cells + 2 ≤ R.cells) (hl : slots + (cap + 4) ≤ R.slots) (K : ∀ (a : Addr) (T' : State) (h' : Heap), Stand p l e R (s.setVm T'.vm) m args below meth c T' locs (cells + 2) (slots + (cap + 4)) → T'.heap = h' → Ext h h' → Z.Warmed39 (s.setVm T'.vm).vm → (s.setVm T'.vm).vm.findClass own = some m.cls → Ends p.tables e below (fun v hh L => Q v hh L ∧ h'.size ≤ hh.size) (FE (s.setVm T'.vm) C S) (T'.setTop (mkF m n Ls (.ref a :: st)))) : Ends p.tables e below Q (FW s C S) (T.setTop (mkF m pc Ls st)) := by
  subst hn
  obtain ⟨a, T1, h1, k1, X1, e1, E1, S1, hk1, Z1, o1, st1⟩ := ldcS (s := s) (vm0 := s.vm) X hx hZ hown w wS eT (k0 := 0) ⟨State.Warmed39.refl s, fun j p hj hp => absurd (Array.getElem?_eq_some_iff.mp hp).1 (Nat.not_lt.mpr hj)⟩ (Nat.zero_le _) (g := mkF m pc Ls st) rfl hd hcap hbig hc hl
  exact Ends.since S1 (Ends.mono ((K a T1 h1 X1 e1 E1 Z1 o1).step st1) (fun v hh L q => ⟨q.1, Nat.le_trans hk1 q.2⟩))
/-- the contract of a body that may load a String constant -/
def MetW (l : Launch) (Z : State) (y : MethodName) (bytes : ByteArray) (maxL : Nat) (ret : Option FieldType) (ws : List Cond) (rm : Room) (as : Array Value) (h : Heap) (QQ : Option Value → Heap → List Loc → Prop) : Prop :=
  MetFree l y (head1 (Cond.code y bytes maxL ret :: ws) rm) (fun a U => a = as ∧ Z.Warmed39 U.vm ∧ U.heap = h) (fun _ _ _ _ _ => True) (fun _ U o U' => ∃ v L, o = .returned v ∧ QQ v U'.heap L ∧ ReturnedEndW U o U' L rm.cells rm.slots)
theorem MetW.of {y : MethodName} {bytes : ByteArray} {maxL : Nat} {ret : Option FieldType} {ws : List Cond} {rm : Room} {as : Array Value} {QQ : Option Value → Heap → List Loc → Prop} (hp : plainFor y = true)
    (body : ∀ (p : Program) (e : Env) (s : State) (m : MethodId) (below : List Frame) (meth : Method) (c : Code) (T : State), p.tables.exec = Jvm.exec → c.code = bytes → c.maxLocals = maxL → s.vm.findClass y.cls = some m.cls → meth.name = y.name → meth.sig.returnType = ret → meth.locks = false → Z.Warmed39 s.vm → Stand p l e rm s m as below meth c T [] 0 0 → T.heap = h → Ends p.tables e below QQ (FW s rm.cells rm.slots) (T.setTop (entryFrame m as maxL))) :
    MetW l Z y bytes maxL ret ws rm as h QQ := by
  refine MetFree.of_bodySF hp hisR ?_
  intro p e s m args below meth c s₁ Bd hml0 hP hK
  obtain ⟨rfl, hZ, hh⟩ := hP
  exact body p e s m below meth c s₁ Bd.exec Bd.bytes hml0 (findClass_of_methodNamed Bd.named) (name_of_methodNamed Bd.named Bd.method).1 Bd.returns Bd.notSynchronized hZ (Stand.of_body Bd) (by rw [← hh, Bd.state]; rfl)
theorem newRefArr (n cap : Nat) (X : Stand p l e R s m args below meth c T locs cells slots) (hx : p.tables.exec = Jvm.exec) (hZ : Z.Warmed39 s.vm) {own CC : String} {index : Nat} (hown : s.vm.findClass own = some m.cls) (w1 : (Cond.classLink own index CC).before a0 Z = true) (w2 : (Cond.arrayOver (.object CC)).before a0 Z = true) (eT : T.heap = h) {z : Int32} {rest : List Value} (hz : ¬ z < 0) (hcap : z.toNatClampNeg ≤ cap) (hb : cap * 8 ≤ 536870912) (hd : decode c.code pc = .ok (.anewarray index, 3)) (hn : pc + 3 = n) (hc : cells + 1 ≤ R.cells) (hl : slots + cap ≤ R.slots) (K : ∀ T' h' a k, a = h.size → Stand p l e R s m args below meth c T' locs (cells + 1) (slots + cap) → T'.heap = h' → Ext h h' → Arv Z h' a k (.object CC) z (List.replicate z.toNatClampNeg .null) .null → Ovr Z k CC → Ends p.tables e below Q F (T'.setTop (mkF m n Ls (.ref a :: rest)))) : Ends p.tables e below Q F (T.setTop (mkF m pc Ls (.int z :: rest))) := by
  subst hn
  obtain ⟨T1, h1, k1, X1, e1, E1, A1, O1, st1⟩ := newR X hx hZ hown w1 w2 eT (g := mkF m pc Ls (.int z :: rest)) rfl hd rfl hz (cap := cap) hcap hb hc hl
  exact (K T1 h1 _ k1 rfl X1 e1 E1 ((Arv.new A1 hz).pad (pad_rep [] _ _)) O1).step st1
theorem aastore (n : Nat) (X : Stand p l e R s m args below meth c T locs cells slots) (hx : p.tables.exec = Jvm.exec) (hZ : Z.Warmed39 s.vm) (eT : T.heap = h) {a : Addr} {k : ClassId} {z j : Int32} {ty : FieldType} {v : Value} {vs : List Value} {dv : Value} {rest : List Value} (A : Arv Z h a k ty z vs dv) (hty : ty.isReference = true) (hv : fits ty v = true) (hS : Sto Z h a v) (hj : ¬ j < 0 ∧ j < z) (hlen : j.toNatClampNeg < vs.length) (hd : decode c.code pc = .ok (.aastore, 1)) (hn : pc + 1 = n) (K : ∀ T' h', Stand p l e R s m args below meth c T' (locs ++ [⟨a, j.toNatClampNeg⟩]) cells slots → T'.heap = h' → Wr h h' a j.toNatClampNeg v → Arv Z h' a k ty z (vs.set j.toNatClampNeg v) dv → Ends p.tables e below Q F (T'.setTop (mkF m n Ls (rest)))) : Ends p.tables e below Q F (T.setTop (mkF m pc Ls (v :: .int j :: .ref a :: rest))) := by
  subst hn
  obtain ⟨cl, Ar, q1, Sz, Nz, Hs, Gs⟩ := A
  obtain ⟨T1, h1, X1, e1, W1, st1⟩ := stR X hx hZ eT Ar (j := j) (inb_of Sz hj) hty hS (g := mkF m pc Ls (v :: .int j :: .ref a :: rest)) rfl rfl hd
  exact (K T1 h1 X1 e1 W1 (Arv.set Ar q1 Sz Nz Hs Gs hv W1 _ rfl hlen)).step st1
theorem cat_ref {v : Value} (hv : v.isRef = true) : v.category = 1 := by rcases ref_cases hv with rfl | ⟨a, rfl⟩ <;> rfl
theorem fits_obj {v : Value} {C : String} (hv : v.isRef = true) : fits (.object C) v = true := by rcases ref_cases hv with rfl | ⟨a, rfl⟩ <;> rfl
/-- a reference that may be null; if not, one of this class -/
def Opt (Z : State) (h : Heap) (v : Value) (C : String) : Prop := v = .null ∨ ∃ a, v = .ref a ∧ Exa Z h a C
theorem Opt.isRef {v : Value} {CC : String} (F : Opt Z h v CC) : v.isRef = true := by rcases F with rfl | ⟨a, rfl, -⟩ <;> rfl
theorem Opt.ext {h' : Heap} {v : Value} {CC : String} (F : Opt Z h v CC) (E : Ext h h') : Opt Z h' v CC := F.imp id fun ⟨a, q, r⟩ => ⟨a, q, r.ext E⟩
theorem Opt.wr {h' : Heap} {v : Value} {CC : String} {a : Addr} {sl : Nat} {u : Value} (F : Opt Z h v CC) (W : Wr h h' a sl u) : Opt Z h' v CC := F.imp id fun ⟨a, q, r⟩ => ⟨a, q, r.wr W⟩
theorem Opt.keep {h' : Heap} {v : Value} {CC : String} {ws : List Addr} (F : Opt Z h v CC) (K : Keep h h' ws) : Opt Z h' v CC := F.imp id fun ⟨a, q, r⟩ => ⟨a, q, r.keep K⟩
theorem Opt.sto {v : Value} {CC : String} {a : Addr} {k : ClassId} {ty : FieldType} {z : Int32} {vs : List Value} {dv : Value} (F : Opt Z h v CC) (A : Arv Z h a k ty z vs dv) (O : Ovr Z k CC) : Sto Z h a v := by
  rcases F with rfl | ⟨y, rfl, E⟩
  · exact Or.inl rfl
  · obtain ⟨cq, Aq, qq, -⟩ := A
    exact Sto.ofV Aq qq O (Ins.self E)
theorem astoreV (n : Nat) (L1 : Array Slot) (X : Stand p l e R s m args below meth c T locs cells slots) (hx : p.tables.exec = Jvm.exec) {k : Nat} {x : Value} {o : Slot} {rest : List Value} (hd : decode c.code pc = .ok (.astore k, 2)) (hn : pc + 2 = n) (hv : x.isRef = true) (hold : Ls[k]? = some o) (ho : One o) (hL : Ls.setIfInBounds k (.val x) = L1) (K : Ends p.tables e below Q F (T.setTop (mkF m n (Ls.setIfInBounds k (.val x)) (rest)))) : Ends p.tables e below Q F (T.setTop (mkF m pc Ls (x :: rest))) := by
  subst hn hL; exact K.step fun t k => XS.astore (g := mkF m pc Ls (x :: rest)) X.here hx rfl hd rfl hv (XS.store1 hold ho (cat_ref hv)) k
theorem astoreNV (n : Nat) (L1 : Array Slot) (X : Stand p l e R s m args below meth c T locs cells slots) (hx : p.tables.exec = Jvm.exec) {k : Fin 4} {x : Value} {o : Slot} {rest : List Value} (hd : decode c.code pc = .ok (.astore_n k, 1)) (hn : pc + 1 = n) (hv : x.isRef = true) (hold : Ls[k.val]? = some o) (ho : One o) (hL : Ls.setIfInBounds k.val (.val x) = L1) (K : Ends p.tables e below Q F (T.setTop (mkF m n (Ls.setIfInBounds k.val (.val x)) (rest)))) : Ends p.tables e below Q F (T.setTop (mkF m pc Ls (x :: rest))) := by
  subst hn hL; exact K.step fun t k => XS.astoreN (g := mkF m pc Ls (x :: rest)) X.here hx rfl hd rfl hv (XS.store1 hold ho (cat_ref hv)) k
end Walk
end Jvm.Own

namespace Jvm.Own
open Jvm Sem ClassFile Op Lib Jvm.Stand Jvm.Free Jvm.LawKit Jvm.RoadKit Bundle
def Zi (x : Int) : Int32 := Int32.ofInt x
def Zl (x : Int) : Int64 := Int64.ofInt x
theorem Zi_add (x y : Int) : Zi x + Zi y = Zi (x + y) := (Int32.ofInt_add ..).symm
theorem Zi_sub (x y : Int) : Zi x - Zi y = Zi (x - y) := (Int32.ofInt_sub ..).symm
theorem Zl_add (x y : Int) : Zl x + Zl y = Zl (x + y) := (Int64.ofInt_add ..).symm
theorem Zl_sub (x y : Int) : Zl x - Zl y = Zl (x - y) := (Int64.ofInt_sub ..).symm
theorem Zl_mul (x y : Int) : Zl x * Zl y = Zl (x * y) := (Int64.ofInt_mul ..).symm
theorem Zi_toInt {x : Int} (h : -2147483648 ≤ x ∧ x < 2147483648) : (Zi x).toInt = x := Int32.toInt_ofInt_of_le (by omega) (by omega)
theorem Zl_toInt {x : Int} (h : -9223372036854775808 ≤ x ∧ x < 9223372036854775808) : (Zl x).toInt = x := Int64.toInt_ofInt_of_le (by omega) (by omega)
theorem Zi_rng (v : Int32) : -2147483648 ≤ v.toInt ∧ v.toInt < 2147483648 := ⟨by have := v.le_toInt; simpa using this, by have := v.toInt_lt; simpa using this⟩
theorem Zi_of (v : Int32) : v = Zi v.toInt := Int32.toInt_inj.mp (Zi_toInt (Zi_rng v)).symm
theorem Zi_l {x : Int} (h : -2147483648 ≤ x ∧ x < 2147483648) : (Zi x).toInt64 = Zl x := by
  rw [← Int64.toInt_inj, Int32.toInt_toInt64, Zi_toInt h, Zl_toInt (by omega)]
theorem Zl_i {x : Int} (h : -2147483648 ≤ x ∧ x < 2147483648) : (Zl x).toInt32 = Zi x := by
  rw [← Int32.toInt_inj, Int64.toInt_toInt32, Zi_toInt h, Zl_toInt (by omega)]
  exact Int.bmod_eq_of_le (by omega) (by omega)
theorem Zl_div {x y : Int} (h : 0 ≤ x ∧ x < 1000000000000) (h' : 0 < y ∧ y < 1000000000000) : Zl x / Zl y = Zl (x / y) := by
  have q0 := Int.ediv_nonneg h.1 (Int.le_of_lt h'.1)
  have q1 := Int.ediv_le_self y h.1
  rw [← Int64.toInt_inj, Int64.toInt_div_of_ne_left _ _ (fun q => by
    have := congrArg Int64.toInt q
    rw [Zl_toInt (by omega)] at this
    have e : (Int64.minValue).toInt = -9223372036854775808 := by decide
    omega), Zl_toInt (by omega), Zl_toInt (by omega), Zl_toInt (by omega)]
  exact Int.tdiv_eq_ediv_of_nonneg h.1
theorem Zl_mod {x y : Int} (h : 0 ≤ x ∧ x < 1000000000000) (h' : 0 < y ∧ y < 1000000000000) : Zl x % Zl y = Zl (x % y) := by
  have q0 := Int.emod_nonneg x (Int.ne_of_gt h'.1)
  have q1 := Int.emod_lt_of_pos x h'.1
  rw [← Int64.toInt_inj, Int64.toInt_mod, Zl_toInt (by omega), Zl_toInt (by omega), Zl_toInt (by omega)]
  exact Int.tmod_eq_emod_of_nonneg h.1
theorem Zi_lt0 {x : Int} (h : -2147483648 ≤ x ∧ x < 2147483648) : Zi x < 0 ↔ x < 0 := by
  rw [Int32.lt_iff_toInt_lt, Zi_toInt h]; exact Iff.rfl
theorem Zl_ne0 {y : Int} (h' : 0 < y ∧ y < 1000000000000) : Zl y ≠ 0 := fun q => by
  have := congrArg Int64.toInt q
  rw [Zl_toInt (by omega)] at this
  have e : (0 : Int64).toInt = 0 := by decide
  omega
section Walk8
variable {p : Program} {l : Launch} {e : Env} {R : Room} {s : State} {m : MethodId} {args : Array Value} {below : List Frame} {meth : Method} {c : Code} {T : State} {locs : List Loc} {cells slots : Nat} {Q : Option Value → Heap → List Loc → Prop} {F : Outcome → State → List Loc → Prop} {C S : Nat} {pc : Nat} {Ls : Array Slot} {st : List Value} {Z : State} {a0 : Array Value} {h : Heap}
theorem dload (n : Nat) (X : Stand p l e R s m args below meth c T locs cells slots) (hx : p.tables.exec = Jvm.exec) {k : Nat} {v : UInt64} (hd : decode c.code pc = .ok (.dload k, 2)) (hn : pc + 2 = n) (hl : Ls[k]? = some (.val (.double v))) (K : Ends p.tables e below Q F (T.setTop (mkF m n Ls (.double v :: st)))) : Ends p.tables e below Q F (T.setTop (mkF m pc Ls (st))) := by
  subst hn; exact K.step fun t k => XS.dload (g := mkF m pc Ls (st)) X.here hx rfl hd hl k
theorem dstore (n : Nat) (Fs : UInt64 → Array Slot) (X : Stand p l e R s m args below meth c T locs cells slots) (hx : p.tables.exec = Jvm.exec) {k : Nat} {x : UInt64} {rest : List Value} (hd : decode c.code pc = .ok (.dstore k, 2)) (hn : pc + 2 = n) (hl : ∀ z, storeLocals Ls k (.double z) = some (Fs z)) (K : ∀ z, z = x → Ends p.tables e below Q F (T.setTop (mkF m n (Fs z) (rest)))) : Ends p.tables e below Q F (T.setTop (mkF m pc Ls (.double x :: rest))) := by
  subst hn; exact (K x rfl).step fun t k => XS.dstore (g := mkF m pc Ls (.double x :: rest)) X.here hx rfl hd rfl (hl x) k
theorem dconst0 (n : Nat) (X : Stand p l e R s m args below meth c T locs cells slots) (hx : p.tables.exec = Jvm.exec) (hd : decode c.code pc = .ok (.dconst 0, 1)) (hn : pc + 1 = n) (K : Ends p.tables e below Q F (T.setTop (mkF m n Ls (.double FP.dconst0 :: st)))) : Ends p.tables e below Q F (T.setTop (mkF m pc Ls (st))) := by
  subst hn; exact K.step fun t k => XS.dconst0 (g := mkF m pc Ls (st)) X.here hx rfl hd rfl k
theorem i2d (n : Nat) (X : Stand p l e R s m args below meth c T locs cells slots) (hx : p.tables.exec = Jvm.exec) {x : Int32} {r : UInt64} {rest : List Value} (hd : decode c.code pc = .ok (.i2d, 1)) (hn : pc + 1 = n) (hr : FP.i2d x = r) (K : Ends p.tables e below Q F (T.setTop (mkF m n Ls (.double r :: rest)))) : Ends p.tables e below Q F (T.setTop (mkF m pc Ls (.int x :: rest))) := by
  subst hn; exact K.step fun t k => XS.i2dS (g := mkF m pc Ls (.int x :: rest)) X.here hx rfl hd rfl hr k
theorem l2d (n : Nat) (X : Stand p l e R s m args below meth c T locs cells slots) (hx : p.tables.exec = Jvm.exec) {x : Int64} {r : UInt64} {rest : List Value} (hd : decode c.code pc = .ok (.l2d, 1)) (hn : pc + 1 = n) (hr : FP.l2d x = r) (K : Ends p.tables e below Q F (T.setTop (mkF m n Ls (.double r :: rest)))) : Ends p.tables e below Q F (T.setTop (mkF m pc Ls (.long x :: rest))) := by
  subst hn; exact K.step fun t k => XS.l2dS (g := mkF m pc Ls (.long x :: rest)) X.here hx rfl hd rfl hr k
theorem dadd (n : Nat) (X : Stand p l e R s m args below meth c T locs cells slots) (hx : p.tables.exec = Jvm.exec) {x y : UInt64} {rest : List Value} (hd : decode c.code pc = .ok (.dadd, 1)) (hn : pc + 1 = n) (hq : Jvm.Free.Fl.NoNaN64 (FP.dadd x y)) (K : Ends p.tables e below Q F (T.setTop (mkF m n Ls (.double (FP.dadd x y) :: rest)))) : Ends p.tables e below Q F (T.setTop (mkF m pc Ls (.double y :: .double x :: rest))) := by
  subst hn; exact K.step fun t k => XS.daddS (g := mkF m pc Ls (.double y :: .double x :: rest)) X.here hx rfl hd rfl hq rfl k
theorem dsub (n : Nat) (X : Stand p l e R s m args below meth c T locs cells slots) (hx : p.tables.exec = Jvm.exec) {x y : UInt64} {rest : List Value} (hd : decode c.code pc = .ok (.dsub, 1)) (hn : pc + 1 = n) (hq : Jvm.Free.Fl.NoNaN64 (FP.dsub x y)) (K : Ends p.tables e below Q F (T.setTop (mkF m n Ls (.double (FP.dsub x y) :: rest)))) : Ends p.tables e below Q F (T.setTop (mkF m pc Ls (.double y :: .double x :: rest))) := by
  subst hn; exact K.step fun t k => XS.dsubS (g := mkF m pc Ls (.double y :: .double x :: rest)) X.here hx rfl hd rfl hq rfl k
theorem dmul (n : Nat) (X : Stand p l e R s m args below meth c T locs cells slots) (hx : p.tables.exec = Jvm.exec) {x y : UInt64} {rest : List Value} (hd : decode c.code pc = .ok (.dmul, 1)) (hn : pc + 1 = n) (hq : Jvm.Free.Fl.NoNaN64 (FP.dmul x y)) (K : Ends p.tables e below Q F (T.setTop (mkF m n Ls (.double (FP.dmul x y) :: rest)))) : Ends p.tables e below Q F (T.setTop (mkF m pc Ls (.double y :: .double x :: rest))) := by
  subst hn; exact K.step fun t k => XS.dmulS (g := mkF m pc Ls (.double y :: .double x :: rest)) X.here hx rfl hd rfl hq rfl k
theorem ddiv (n : Nat) (X : Stand p l e R s m args below meth c T locs cells slots) (hx : p.tables.exec = Jvm.exec) {x y : UInt64} {rest : List Value} (hd : decode c.code pc = .ok (.ddiv, 1)) (hn : pc + 1 = n) (hq : Jvm.Free.Fl.NoNaN64 (FP.ddiv x y)) (K : Ends p.tables e below Q F (T.setTop (mkF m n Ls (.double (FP.ddiv x y) :: rest)))) : Ends p.tables e below Q F (T.setTop (mkF m pc Ls (.double y :: .double x :: rest))) := by
  subst hn; exact K.step fun t k => XS.ddivS (g := mkF m pc Ls (.double y :: .double x :: rest)) X.here hx rfl hd rfl hq rfl k
theorem dcmp (n : Nat) (X : Stand p l e R s m args below meth c T locs cells slots) (hx : p.tables.exec = Jvm.exec) {x y : UInt64} {o : CmpOp} (v : Int32) {rest : List Value} (hd : decode c.code pc = .ok (.dcmp o, 1)) (hn : pc + 1 = n) (hv : cmpValue (FP.dcmp x y) o = v) (K : Ends p.tables e below Q F (T.setTop (mkF m n Ls (.int v :: rest)))) : Ends p.tables e below Q F (T.setTop (mkF m pc Ls (.double y :: .double x :: rest))) := by
  subst hn; exact K.step fun t k => XS.dcmpS (g := mkF m pc Ls (.double y :: .double x :: rest)) X.here hx rfl hd rfl hv k
theorem ldc2Dbl (n : Nat) (X : Stand p l e R s m args below meth c T locs cells slots) (hx : p.tables.exec = Jvm.exec) (hZ : Z.Warmed39 s.vm) {own : String} {index : Nat} (v : UInt64) (hown : s.vm.findClass own = some m.cls) (w : (Cond.constantDouble own index v).before a0 Z = true) (hd : decode c.code pc = .ok (.ldc2_w index, 3)) (hn : pc + 3 = n) (K : Ends p.tables e below Q F (T.setTop (mkF m n Ls (.double v :: st)))) : Ends p.tables e below Q F (T.setTop (mkF m pc Ls (st))) := by
  subst hn; exact K.step fun t k => X.ldc2DoubleC hx hown (mvT hZ w) (g := mkF m pc Ls st) rfl hd _ k
theorem dreturnOut (Y : Stand p l e R s m args below meth c T locs cells slots) (hexec : p.tables.exec = Jvm.exec) {w : UInt64} (hret : meth.sig.returnType = some .double) (hdg : decode c.code pc = .ok (.dreturn, 1)) {fs : List Frame} (hleave : ∀ (f : JFrame) (acts : List Action), f.method = m → f.locked = none → f.entered = [] → (doReturn e (T.setTop f) acts (some (.double w))).1 = T.setFrames fs) :
    Steps p.tables e below (T.setTop { method := m, pc := pc, locals := Ls, stack := [.double w], locked := none }) (T.setFrames fs) := by
  have hm' : T.vm.method? m = some meth := Y.method'
  jvm_step Y.here [Y.here.top, hexec, hdg, hm', hret]
  first | (intro acts; rw [hleave _ acts rfl rfl rfl]) | rw [hleave _ _ rfl rfl rfl]
  exact Steps.refl _
theorem retDbl (X : Stand p l e R s m args below meth c T locs cells slots) (hx : p.tables.exec = Jvm.exec) {z : UInt64} (hlk : meth.locks = false) (hret : meth.sig.returnType = some .double) (hd : decode c.code pc = .ok (.dreturn, 1)) (hC : cells ≤ C) (hS : slots ≤ S) (q : Q (some (.double z)) T.heap locs) : Ends p.tables e below Q (FE s C S) (T.setTop (mkF m pc Ls ([.double z]))) := by
  obtain ⟨fs, hr, hrun, hended, hW, hsame⟩ := X.leave (v := some (.double z)) (fun h => by rw [hret] at h; cases h) hlk
  exact fin X (dreturnOut X hx hret hd hr) hrun hended hW hsame q hC hS
end Walk8
end Jvm.Own

namespace Jvm.Pilot.@@N@@
open Jvm Jvm.ClassFile Sem Op Lib Jvm.Free Jvm.Stand Jvm.LawKit Jvm.RoadKit Bundle Jvm.Pilot.@@N@@.Jvm.D
theorem pd_0 : parseMethodDescriptor "([I)D" = some ⟨[(.array .int)], some .double⟩ := by decide +kernel
theorem pd_1 : parseMethodDescriptor "(IJ)I" = some ⟨[.int, .long], some .int⟩ := by decide +kernel
def own_sc (k : Int) : FP.Core.Datum → FP.Core.Datum
  | .fin s c q => .fin s c (q + k)
  | .nan => .nan
  | .inf s => .inf s
/-- the double a is i / 2^k -/
def own_Dy (k : Nat) (i : Int) (a : UInt64) : Prop := FP.Core.Whole i (own_sc k (FP.Core.val64 a))
theorem own_sc_sum (k : Int) (x y : FP.Core.Datum) : FP.Core.exactSum (own_sc k x) (own_sc k y) = own_sc k (FP.Core.exactSum x y) := by
  cases x <;> cases y <;> try rfl
  · simp only [own_sc, FP.Core.exactSum]; split <;> rfl
  · rename_i s c q t d r
    have e : min (q + k) (r + k) = min q r + k := by omega
    have u : FP.Core.sumUnits s c (q + k) t d (r + k) (min q r + k) = FP.Core.sumUnits s c q t d r (min q r) := by
      unfold FP.Core.sumUnits FP.Core.inUnits
      rw [show q + k - (min q r + k) = q - min q r by omega, show r + k - (min q r + k) = r - min q r by omega]
    simp only [own_sc, FP.Core.exactSum]
    rw [e, u]
theorem own_sc_prod (k l : Int) (x y : FP.Core.Datum) : FP.Core.exactProduct (own_sc k x) (own_sc l y) = own_sc (k + l) (FP.Core.exactProduct x y) := by
  cases x <;> cases y <;> try rfl
  · simp only [own_sc, FP.Core.exactProduct]; split <;> rfl
  · simp only [own_sc, FP.Core.exactProduct]; split <;> rfl
  · rename_i s c q t d r
    simp only [own_sc, FP.Core.exactProduct]
    rw [show q + k + (r + l) = q + r + (k + l) by omega]
theorem own_sc_neg (k : Int) (x : FP.Core.Datum) : FP.Core.negate (own_sc k x) = own_sc k (FP.Core.negate x) := by cases x <;> rfl
theorem own_sc_order (k : Int) (x y : FP.Core.Datum) : FP.Core.order (own_sc k x) (own_sc k y) = FP.Core.order x y := by
  cases x <;> cases y <;> try rfl
  rename_i s c q t d r
  simp only [own_sc, FP.Core.order]
  rw [show min (q + k) (r + k) = min q r + k by omega]
  unfold FP.Core.inUnits
  rw [show q + k - (min q r + k) = q - min q r by omega, show r + k - (min q r + k) = r - min q r by omega]
theorem own_whole_of {i : Int} {c : Nat} {Q : Int} (h : c * 2 ^ Q.toNat = i.natAbs * 2 ^ (-Q).toNat) : FP.Core.Whole i (.fin (decide (i < 0)) c Q) := by
  show FP.Core.signed (decide (i < 0)) (c * 2 ^ Q.toNat) = i * ((2 ^ (-Q).toNat : Nat) : Int)
  rw [h, FP.Core.signed_mul]
  congr 1
  unfold FP.Core.signed
  by_cases h : i < 0 <;> simp [h] <;> omega
theorem own_whole_zero {s : Bool} {Q : Int} : FP.Core.Whole 0 (.fin s 0 Q) := by
  show FP.Core.signed s (0 * 2 ^ Q.toNat) = 0 * _
  rw [Nat.zero_mul, Int.zero_mul]; exact FP.Core.signed_zero s
/-- |i| / 2^k rounds to itself -/
theorem own_rr {i : Int} {k : Nat} (hi : i.natAbs < 9007199254740992) (hk : k ≤ 500) (h0 : i ≠ 0) : FP.Core.Whole i (own_sc k (FP.Core.roundRatio FP.Core.b64 (decide (i < 0)) i.natAbs 1 (-(k : Int)))) := by
  have qm : FP.Core.b64.qmin = -1074 := by decide
  obtain ⟨c', q', h1, h2⟩ := FP.Core.round_exact FP.Core.good_b64 (decide (i < 0)) (c := i.natAbs) (q := -(k : Int)) (by rw [show FP.Core.b64.p = 53 from rfl]; omega) (by rw [qm]; omega) (by rw [show FP.Core.b64.qmax = 971 by decide]; omega)
  have hf := FP.Core.round_fits FP.Core.good_b64 (.fin (decide (i < 0)) i.natAbs (-(k : Int)))
  rw [h1] at hf
  have h1' : FP.Core.roundRatio FP.Core.b64 (decide (i < 0)) i.natAbs 1 (-(k : Int)) = .fin (decide (i < 0)) c' q' := h1
  rw [h1']
  refine own_whole_of ?_
  obtain ⟨-, g, -, -⟩ := hf
  rw [qm] at g
  unfold FP.Core.inUnits at h2
  rw [qm] at h2
  generalize hE : (q' - -1074).toNat = E at h2
  generalize hK : (-(k : Int) - -1074).toNat = K at h2
  by_cases c : K ≤ E
  · rw [show (q' + (k : Int)).toNat = E - K by omega, show (-(q' + (k : Int))).toNat = 0 by omega, Nat.pow_zero, Nat.mul_one]
    refine Nat.eq_of_mul_eq_mul_right (Nat.two_pow_pos K) ?_
    rw [Nat.mul_assoc, ← Nat.pow_add, Nat.sub_add_cancel c]; exact h2
  · rw [show (q' + (k : Int)).toNat = 0 by omega, show (-(q' + (k : Int))).toNat = K - E by omega, Nat.pow_zero, Nat.mul_one]
    refine Nat.eq_of_mul_eq_mul_right (Nat.two_pow_pos E) ?_
    rw [Nat.mul_assoc, ← Nat.pow_add, Nat.sub_add_cancel (by omega)]; exact h2
theorem own_round {i : Int} {k : Nat} {d : FP.Core.Datum} (h : FP.Core.Whole i (own_sc k d)) (hi : i.natAbs < 9007199254740992) (hk : k ≤ 500) : FP.Core.Whole i (own_sc k (FP.Core.round FP.Core.b64 d)) := by
  cases d with
  | nan => exact h.elim
  | inf => exact h.elim
  | fin s c q =>
    have h' : FP.Core.Whole i (.fin s c (q + k)) := h
    by_cases h0 : i = 0
    · subst h0
      have c0 : c = 0 := (FP.Core.whole_zero h').mpr rfl
      subst c0
      exact own_whole_zero
    · have hs := FP.Core.whole_sign h' h0
      have hn := FP.Core.whole_natAbs h'
      have e : FP.Core.round FP.Core.b64 (.fin s c q) = FP.Core.roundRatio FP.Core.b64 (decide (i < 0)) i.natAbs 1 (-(k : Int)) := by
        rw [hs]
        refine FP.Core.roundRatio_congr (by decide) (by decide) ?_
        rw [show (q - -(k : Int)) = q + k by omega, show (-(k : Int) - q) = -(q + k) by omega, Nat.mul_one, Nat.mul_one]; exact hn
      rw [e]
      exact own_rr hi hk h0
theorem own_dy_add {k : Nat} {i j : Int} {a b : UInt64} (ha : own_Dy k i a) (hb : own_Dy k j b) (hi : (i + j).natAbs < 9007199254740992) (hk : k ≤ 500) : own_Dy k (i + j) (FP.dadd a b) := by
  show FP.Core.Whole _ (own_sc k (FP.Core.val64 (FP.Core.dadd a b)))
  rw [FP.Core.val64_dadd]
  refine own_round ?_ hi hk
  rw [← own_sc_sum]; exact FP.Core.whole_sum ha hb
theorem own_dy_sub {k : Nat} {i j : Int} {a b : UInt64} (ha : own_Dy k i a) (hb : own_Dy k j b) (hi : (i - j).natAbs < 9007199254740992) (hk : k ≤ 500) : own_Dy k (i - j) (FP.dsub a b) := by
  show FP.Core.Whole _ (own_sc k (FP.Core.val64 (FP.Core.dsub a b)))
  rw [FP.Core.val64_dsub]
  refine own_round ?_ hi hk
  rw [← own_sc_sum, ← own_sc_neg, Int.sub_eq_add_neg]; exact FP.Core.whole_sum ha (FP.Core.whole_negate hb)
theorem own_dy_mul {k l : Nat} {i j : Int} {a b : UInt64} (ha : own_Dy k i a) (hb : own_Dy l j b) (hi : (i * j).natAbs < 9007199254740992) (hk : k + l ≤ 500) : own_Dy (k + l) (i * j) (FP.dmul a b) := by
  show FP.Core.Whole _ (own_sc ((k + l : Nat) : Int) (FP.Core.val64 (FP.Core.dmul a b)))
  rw [FP.Core.val64_dmul]
  refine own_round ?_ hi hk
  rw [Int.natCast_add, ← own_sc_prod]; exact FP.Core.whole_product ha hb
theorem own_dy_fin {k : Nat} {i : Int} {a : UInt64} (ha : own_Dy k i a) : ∃ s c q, FP.Core.val64 a = .fin s c q ∧ FP.Core.Whole i (.fin s c (q + k)) := by
  unfold own_Dy at ha
  cases h : FP.Core.val64 a with
  | nan => rw [h] at ha; exact ha.elim
  | inf s => rw [h] at ha; exact ha.elim
  | fin s c q => rw [h] at ha; exact ⟨s, c, q, rfl, ha⟩
theorem own_dy_div {k l n : Nat} {i j m : Int} {a b : UInt64} (ha : own_Dy k i a) (hb : own_Dy l j b) (hj : 0 < j) (h : i * ((2 ^ (l + n) : Nat) : Int) = m * j * ((2 ^ k : Nat) : Int)) (hm : m.natAbs < 9007199254740992) (hn : n ≤ 500) : own_Dy n m (FP.ddiv a b) := by
  show FP.Core.Whole _ (own_sc n (FP.Core.val64 (FP.Core.ddiv a b)))
  rw [FP.Core.val64_ddiv]
  obtain ⟨s, c, q, ea, wa⟩ := own_dy_fin ha
  obtain ⟨t, d, r, eb, wb⟩ := own_dy_fin hb
  rw [ea, eb]
  have d0 : ¬ d = 0 := fun z => by have := (FP.Core.whole_zero wb).mp z; omega
  have ht := FP.Core.whole_sign wb (by omega)
  have tf : t = false := by rw [ht]; simp; omega
  simp only [FP.Core.quotient, if_neg d0]
  have pk : (0 : Int) < ((2 ^ k : Nat) : Int) := by have := Nat.two_pow_pos k; omega
  have pl : (0 : Int) < ((2 ^ (l + n) : Nat) : Int) := by have := Nat.two_pow_pos (l + n); omega
  by_cases m0 : m = 0
  · subst m0
    have i0 : i = 0 := by
      rw [Int.zero_mul, Int.zero_mul] at h
      rcases Int.mul_eq_zero.mp h with z | z
      · exact z
      · omega
    have c0 : c = 0 := (FP.Core.whole_zero wa).mpr i0
    subst c0
    exact own_whole_zero
  · have i0 : i ≠ 0 := fun z => by
      rw [z, Int.zero_mul] at h
      rcases Int.mul_eq_zero.mp h.symm with z | z
      · rcases Int.mul_eq_zero.mp z with z | z
        · exact m0 z
        · omega
      · omega
    have hs := FP.Core.whole_sign wa i0
    have sg : (i < 0) ↔ (m < 0) := by
      constructor
      · intro q1
        have x1 := Int.mul_neg_of_neg_of_pos q1 pl
        rw [h] at x1
        refine Int.lt_of_not_ge fun q2 => ?_
        have := Int.mul_nonneg (Int.mul_nonneg q2 (Int.le_of_lt hj)) (Int.le_of_lt pk)
        omega
      · intro q1
        have x1 := Int.mul_neg_of_neg_of_pos (Int.mul_neg_of_neg_of_pos q1 hj) pk
        rw [← h] at x1
        refine Int.lt_of_not_ge fun q2 => ?_
        have := Int.mul_nonneg q2 (Int.le_of_lt pl)
        omega
    have st : (s != t) = decide (m < 0) := by rw [hs, tf]; simp [sg]
    rw [st]
    have na := FP.Core.whole_natAbs wa
    have nb := FP.Core.whole_natAbs wb
    have nh : i.natAbs * 2 ^ (l + n) = m.natAbs * j.natAbs * 2 ^ k := by
      have := congrArg Int.natAbs h
      rw [Int.natAbs_mul, Int.natAbs_mul, Int.natAbs_mul, Int.natAbs_natCast, Int.natAbs_natCast] at this
      exact this
    have e : FP.Core.roundRatio FP.Core.b64 (decide (m < 0)) c d (q - r) = FP.Core.roundRatio FP.Core.b64 (decide (m < 0)) m.natAbs 1 (-(n : Int)) := by
      refine FP.Core.roundRatio_congr (by omega) (by decide) ?_
      rw [Nat.mul_one]
      generalize hu : (q + (k : Int)).toNat = u at na
      generalize hu' : (-(q + (k : Int))).toNat = u' at na
      generalize hv : (r + (l : Int)).toNat = v at nb
      generalize hv' : (-(r + (l : Int))).toNat = v' at nb
      generalize he1 : (q - r - -(n : Int)).toNat = e1
      generalize he2 : (-(n : Int) - (q - r)).toNat = e2
      have ex : k + u' + e1 + v = e2 + u + v' + (l + n) := by omega
      have jp : 0 < j.natAbs := by omega
      refine Nat.eq_of_mul_eq_mul_right (m := 2 ^ u * 2 ^ v' * j.natAbs * 2 ^ (l + n)) (Nat.mul_pos (Nat.mul_pos (Nat.mul_pos (Nat.two_pow_pos _) (Nat.two_pow_pos _)) jp) (Nat.two_pow_pos _)) ?_
      calc c * 2 ^ e1 * (2 ^ u * 2 ^ v' * j.natAbs * 2 ^ (l + n))
          = (c * 2 ^ u) * (j.natAbs * 2 ^ v') * 2 ^ (l + n) * 2 ^ e1 := by ac_rfl
        _ = (i.natAbs * 2 ^ u') * (d * 2 ^ v) * 2 ^ (l + n) * 2 ^ e1 := by rw [na, ← nb]
        _ = (i.natAbs * 2 ^ (l + n)) * d * (2 ^ u' * 2 ^ v * 2 ^ e1) := by ac_rfl
        _ = (m.natAbs * j.natAbs * 2 ^ k) * d * (2 ^ u' * 2 ^ v * 2 ^ e1) := by rw [nh]
        _ = m.natAbs * d * j.natAbs * (2 ^ k * 2 ^ u' * 2 ^ e1 * 2 ^ v) := by ac_rfl
        _ = m.natAbs * d * j.natAbs * (2 ^ e2 * 2 ^ u * 2 ^ v' * 2 ^ (l + n)) := by rw [← Nat.pow_add, ← Nat.pow_add, ← Nat.pow_add, ← Nat.pow_add, ← Nat.pow_add, ← Nat.pow_add, ex]
        _ = m.natAbs * d * 2 ^ e2 * (2 ^ u * 2 ^ v' * j.natAbs * 2 ^ (l + n)) := by ac_rfl
    rw [e]
    exact own_rr hm hn m0
theorem own_dy_cmp {k : Nat} {i j : Int} {a b : UInt64} (ha : own_Dy k i a) (hb : own_Dy k j b) : FP.dcmp a b = some (compare i j) := by
  show FP.Core.order (FP.Core.val64 a) (FP.Core.val64 b) = _
  rw [← own_sc_order k]; exact FP.Core.order_whole ha hb
theorem own_dy_up {k : Nat} {i : Int} {a : UInt64} (ha : own_Dy k i a) (n : Nat) : own_Dy (k + n) (i * ((2 ^ n : Nat) : Int)) a := by
  obtain ⟨s, c, q, ea, wa⟩ := own_dy_fin ha
  unfold own_Dy
  rw [ea]
  show FP.Core.signed s (c * 2 ^ (q + ((k + n : Nat) : Int)).toNat) = i * ((2 ^ n : Nat) : Int) * ((2 ^ (-(q + ((k + n : Nat) : Int))).toNat : Nat) : Int)
  have wa' : FP.Core.signed s (c * 2 ^ (q + (k : Int)).toNat) = i * ((2 ^ (-(q + (k : Int))).toNat : Nat) : Int) := wa
  generalize hu : (q + (k : Int)).toNat = u at wa'
  generalize hu' : (-(q + (k : Int))).toNat = u' at wa'
  generalize hx : (q + ((k + n : Nat) : Int)).toNat = x
  generalize hx' : (-(q + ((k + n : Nat) : Int))).toNat = x'
  have p : (0 : Int) < ((2 ^ u : Nat) : Int) := by have := Nat.two_pow_pos u; omega
  refine Int.eq_of_mul_eq_mul_right (a := ((2 ^ u : Nat) : Int)) (by omega) ?_
  have ex : x + u' = u + n + x' ∨ x + u' = u + n + x' := by omega
  have ex : x + u' = u + n + x' := by omega
  have y1 : FP.Core.signed s (c * 2 ^ x) * ((2 ^ u : Nat) : Int) = FP.Core.signed s (c * 2 ^ u) * ((2 ^ x : Nat) : Int) := by
    rw [← FP.Core.signed_mul, ← FP.Core.signed_mul]; congr 1; ac_rfl
  rw [y1, wa', Int.mul_assoc, Int.mul_assoc, Int.mul_assoc]
  congr 1
  rw [← Int.natCast_mul, ← Int.natCast_mul, ← Int.natCast_mul, ← Nat.pow_add, ← Nat.pow_add, ← Nat.pow_add]
  congr 2
  omega
theorem own_dy_l2d {v : Int64} (h : -9007199254740992 < v.toInt ∧ v.toInt < 9007199254740992) : own_Dy 0 v.toInt (FP.l2d v) := by
  have w := FP.Core.l2d_whole (a := v) h
  unfold own_Dy
  have e : own_sc ((0 : Nat) : Int) (FP.Core.val64 (FP.Core.l2d v)) = FP.Core.val64 (FP.Core.l2d v) := by
    cases FP.Core.val64 (FP.Core.l2d v) <;> simp [own_sc]
  show FP.Core.Whole _ (own_sc ((0 : Nat) : Int) (FP.Core.val64 (FP.Core.l2d v)))
  rw [e]; exact w

theorem own_nn {a : UInt64} (h : FP.Core.val64 a ≠ .nan) : Jvm.Free.Fl.NoNaN64 a := (Jvm.Free.Fl.noNaN64_iff a).mpr ((FP.Core.ne_nan a).mp h)
theorem own_dy_nn {k : Nat} {i : Int} {a : UInt64} (h : own_Dy k i a) : Jvm.Free.Fl.NoNaN64 a := by
  obtain ⟨s, c, q, e, -⟩ := own_dy_fin h
  exact own_nn (by rw [e]; exact fun z => nomatch z)
theorem own_div_fin {k l : Nat} {i j : Int} {a b : UInt64} (ha : own_Dy k i a) (hb : own_Dy l j b) (hj : 0 < j) : ∃ s c q t d r, FP.Core.val64 a = .fin s c q ∧ FP.Core.val64 b = .fin t d r ∧ 0 < d ∧ FP.Core.val64 (FP.ddiv a b) = FP.Core.roundRatio FP.Core.b64 (s != t) c d (q - r) ∧ FP.Core.Whole i (.fin s c (q + k)) := by
  obtain ⟨s, c, q, ea, wa⟩ := own_dy_fin ha
  obtain ⟨t, d, r, eb, wb⟩ := own_dy_fin hb
  have d0 : ¬ d = 0 := fun z => by have := (FP.Core.whole_zero wb).mp z; omega
  refine ⟨s, c, q, t, d, r, ea, eb, by omega, ?_, wa⟩
  show FP.Core.val64 (FP.Core.ddiv a b) = _
  rw [FP.Core.val64_ddiv, ea, eb]
  simp only [FP.Core.quotient, if_neg d0]
theorem own_div_nn {k l : Nat} {i j : Int} {a b : UInt64} (ha : own_Dy k i a) (hb : own_Dy l j b) (hj : 0 < j) : Jvm.Free.Fl.NoNaN64 (FP.ddiv a b) := by
  obtain ⟨s, c, q, t, d, r, -, -, -, e, -⟩ := own_div_fin ha hb hj
  exact own_nn (by rw [e]; exact FP.Core.roundRatio_ne_nan _ _ _ _ _)
theorem own_dy_eq {k : Nat} {i j : Int} {a b : UInt64} (ha : own_Dy k i a) (hb : own_Dy k j b) (h : i = j) (o : CmpOp) : cmpValue (FP.dcmp a b) o = 0 := by
  subst h
  rw [own_dy_cmp ha hb, show compare i i = .eq from by simp [compare, compareOfLessAndEq]]
  rfl
/-- the quotients of two doubles of one value -/
theorem own_div_eq {k l : Nat} {i j : Int} {a a' b : UInt64} (ha : own_Dy k i a) (ha' : own_Dy k i a') (hb : own_Dy l j b) (hj : 0 < j) (o : CmpOp) : cmpValue (FP.dcmp (FP.ddiv a b) (FP.ddiv a' b)) o = 0 := by
  by_cases h0 : i = 0
  · subst h0
    exact own_dy_eq (own_dy_div (n := 0) (m := 0) ha hb hj (by rw [Int.zero_mul, Int.zero_mul, Int.zero_mul]) (by decide) (by decide)) (own_dy_div (n := 0) (m := 0) ha' hb hj (by rw [Int.zero_mul, Int.zero_mul, Int.zero_mul]) (by decide) (by decide)) rfl o
  · obtain ⟨s, c, q, t, d, r, e1, e2, d0, e3, w⟩ := own_div_fin ha hb hj
    obtain ⟨s', c', q', t', d', r', f1, f2, -, f3, w'⟩ := own_div_fin ha' hb hj
    rw [e2] at f2
    injection f2 with g1 g2 g3
    subst g1; subst g2; subst g3
    have hs := FP.Core.whole_sign w h0
    have hs' := FP.Core.whole_sign w' h0
    have n1 := FP.Core.whole_natAbs w
    have n2 := FP.Core.whole_natAbs w'
    have e : FP.Core.val64 (FP.ddiv a b) = FP.Core.val64 (FP.ddiv a' b) := by
      rw [e3, f3, hs, hs']
      refine FP.Core.roundRatio_congr d0 d0 ?_
      generalize hu : (q + (k : Int)).toNat = u at n1
      generalize hv : (-(q + (k : Int))).toNat = v at n1
      generalize hu' : (q' + (k : Int)).toNat = u' at n2
      generalize hv' : (-(q' + (k : Int))).toNat = v' at n2
      generalize hx : (q - r - (q' - r)).toNat = x
      generalize hy : (q' - r - (q - r)).toNat = y
      have ex : x + (v + u') = y + (u + v') := by omega
      have ip : 0 < i.natAbs := by omega
      refine Nat.eq_of_mul_eq_mul_right (m := 2 ^ u * 2 ^ u' * i.natAbs) (Nat.mul_pos (Nat.mul_pos (Nat.two_pow_pos _) (Nat.two_pow_pos _)) ip) ?_
      calc c * d * 2 ^ x * (2 ^ u * 2 ^ u' * i.natAbs)
          = (c * 2 ^ u) * d * i.natAbs * (2 ^ x * 2 ^ u') := by ac_rfl
        _ = (i.natAbs * 2 ^ v) * d * i.natAbs * (2 ^ x * 2 ^ u') := by rw [n1]
        _ = d * i.natAbs * i.natAbs * (2 ^ x * (2 ^ v * 2 ^ u')) := by ac_rfl
        _ = d * i.natAbs * i.natAbs * (2 ^ y * (2 ^ u * 2 ^ v')) := by rw [← Nat.pow_add, ← Nat.pow_add, ← Nat.pow_add, ← Nat.pow_add, ex]
        _ = (i.natAbs * 2 ^ v') * d * i.natAbs * (2 ^ y * 2 ^ u) := by ac_rfl
        _ = (c' * 2 ^ u') * d * i.natAbs * (2 ^ y * 2 ^ u) := by rw [n2]
        _ = c' * d * 2 ^ y * (2 ^ u * 2 ^ u' * i.natAbs) := by ac_rfl
    have nn : FP.Core.val64 (FP.ddiv a b) ≠ .nan := by rw [e3]; exact FP.Core.roundRatio_ne_nan _ _ _ _ _
    have ab := FP.Core.val64_inj nn e
    exact Jvm.RoadKit.dcmpV_eq ab (own_nn nn) o
theorem own_nB {x : Int} (h : -9007199254740992 < x ∧ x < 9007199254740992) : x.natAbs < 9007199254740992 := by omega
theorem own_dyZ {x : Int} (h : -9007199254740992 < x ∧ x < 9007199254740992) : own_Dy 0 x (FP.l2d (Own.Zl x)) := by
  have e := Own.Zl_toInt (x := x) (by omega)
  have := own_dy_l2d (v := Own.Zl x) (by rw [e]; exact h)
  rwa [e] at this
theorem own_dyI (v : Int32) : own_Dy 0 v.toInt (FP.i2d v) := by
  rw [Jvm.RoadKit.i2d_w]
  have r := Own.Zi_rng v
  have := own_dy_l2d (v := v.toInt64) (by rw [Int32.toInt_toInt64]; omega)
  rwa [Int32.toInt_toInt64] at this
theorem own_dyZi {x : Int} (h : -2147483648 ≤ x ∧ x < 2147483648) : own_Dy 0 x (FP.i2d (Own.Zi x)) := by
  have := own_dyI (Own.Zi x)
  rwa [Own.Zi_toInt h] at this
theorem own_dy_up1 {k : Nat} {i : Int} {a : UInt64} (h : own_Dy k i a) : own_Dy (k + 1) (2 * i) a := by
  have := own_dy_up h 1
  rwa [show i * ((2 ^ 1 : Nat) : Int) = 2 * i from by show i * 2 = 2 * i; omega] at this
theorem own_dy_up2 {i : Int} {a : UInt64} (h : own_Dy 0 i a) : own_Dy 2 (4 * i) a := by
  have := own_dy_up h 2
  rwa [show i * ((2 ^ 2 : Nat) : Int) = 4 * i from by show i * 4 = 4 * i; omega] at this
theorem own_dy_0 (k : Nat) : own_Dy k 0 FP.dconst0 := by
  have e : FP.Core.val64 FP.dconst0 = .fin false 0 FP.Core.b64.qmin := FP.Core.val64_dconst0
  unfold own_Dy
  rw [e]; exact own_whole_zero
theorem own_dy_c {v : Int32} {x : Int} {a : UInt64} (h : FP.i2d v = a) (hv : v.toInt = x) : own_Dy 0 x a := by
  subst h; subst hv; exact own_dyI v
theorem own_mz (x : Int32) : ∃ a : Int, x &&& 4194303 = Own.Zi a ∧ 0 ≤ a ∧ a < 4194304 := by
  have h := c_mask x 4194303 22 (by decide) (by decide)
  refine ⟨(x &&& 4194303).toInt, Own.Zi_of _, ?_, ?_⟩
  · rw [h]; exact Int.emod_nonneg _ (by decide)
  · rw [h]; exact Int.emod_lt_of_pos _ (by decide)
theorem own_four (x : Int32) : (x &&& 3) + 1 = 1 ∨ (x &&& 3) + 1 = 2 ∨ (x &&& 3) + 1 = 3 ∨ (x &&& 3) + 1 = 4 := by
  have a := c_mask x 3 2 (by decide) (by decide)
  have k : (x &&& 3) = 0 ∨ (x &&& 3) = 1 ∨ (x &&& 3) = 2 ∨ (x &&& 3) = 3 := by
    simp only [← Int32.toInt_inj, show (0 : Int32).toInt = 0 from by decide, show (1 : Int32).toInt = 1 from by decide, show (2 : Int32).toInt = 2 from by decide, show (3 : Int32).toInt = 3 from by decide]
    omega
  rcases k with q | q | q | q <;> rw [q] <;> decide
theorem own_sq {x B : Int} (h : -B ≤ x ∧ x ≤ B) : 0 ≤ x * x ∧ x * x ≤ B * B := by
  refine ⟨?_, ?_⟩
  · rcases Int.le_total 0 x with q | q
    · exact Int.mul_nonneg q q
    · have := Int.mul_nonneg (show 0 ≤ -x by omega) (show 0 ≤ -x by omega); rwa [Int.neg_mul_neg] at this
  · rcases Int.le_total 0 x with q | q
    · exact Int.mul_le_mul h.2 h.2 q (by omega)
    · have := Int.mul_le_mul (show -x ≤ B by omega) (show -x ≤ B by omega) (by omega) (by omega); rwa [Int.neg_mul_neg] at this
theorem own_subl (v : Int32) (e : Int) : v - Own.Zi e = Own.Zi (v.toInt - e) := by rw [← Own.Zi_sub, ← Own.Zi_of]
theorem own_addl (v : Int32) (e : Int) : v + Own.Zi e = Own.Zi (v.toInt + e) := by rw [← Own.Zi_add, ← Own.Zi_of]
def own_tw (v : Int32) (e : Int) : Int := if v < 0 then v.toInt + e else v.toInt - e
theorem own_tw_s (v : Int32) (e : Int) : (0 ≤ v.toInt ∧ own_tw v e = v.toInt - e) ∨ (v.toInt < 0 ∧ own_tw v e = v.toInt + e) := by
  unfold own_tw
  by_cases h : v < 0
  · rw [if_pos h]
    rw [Int32.lt_iff_toInt_lt, show (0 : Int32).toInt = 0 from by decide] at h
    exact Or.inr ⟨h, rfl⟩
  · rw [if_neg h]
    rw [Int32.lt_iff_toInt_lt, show (0 : Int32).toInt = 0 from by decide] at h
    exact Or.inl ⟨by omega, rfl⟩
theorem own_pm {x y : Int} (h : x = y ∨ x = -y) : x * x = y * y := by
  rcases h with h | h
  · rw [h]
  · rw [h, Int.neg_mul_neg]

theorem d2_0 : decode method_2_code 0 = .ok (.lload_n 1, 1) := by decide +kernel
theorem d2_1 : decode method_2_code 1 = .ok (.l2i, 1) := by decide +kernel
theorem d2_2 : decode method_2_code 2 = .ok (.istore_n 3, 1) := by decide +kernel
theorem d2_3 : decode method_2_code 3 = .ok (.iload_n 0, 1) := by decide +kernel
theorem d2_4 : decode method_2_code 4 = .ok (.ifCond .lt 9, 3) := by decide +kernel
theorem d2_7 : decode method_2_code 7 = .ok (.iload_n 0, 1) := by decide +kernel
theorem d2_8 : decode method_2_code 8 = .ok (.iload_n 3, 1) := by decide +kernel
theorem d2_9 : decode method_2_code 9 = .ok (.isub, 1) := by decide +kernel
theorem d2_10 : decode method_2_code 10 = .ok (.goto 6, 3) := by decide +kernel
theorem d2_13 : decode method_2_code 13 = .ok (.iload_n 0, 1) := by decide +kernel
theorem d2_14 : decode method_2_code 14 = .ok (.iload_n 3, 1) := by decide +kernel
theorem d2_15 : decode method_2_code 15 = .ok (.iadd, 1) := by decide +kernel
theorem d2_16 : decode method_2_code 16 = .ok (.ireturn, 1) := by decide +kernel
set_option maxRecDepth 65536 in
set_option maxHeartbeats 40000000 in
theorem m2 (l : Launch) (Z : State) (a0 : Array Value) (w : ∀ (i : Nat) {d : Jvm.Cond}, tables_1[i]? = some d → d.before a0 Z = true) (kk : Int32) (ee : Int) (h0 : Heap) (he : 0 ≤ ee ∧ ee < 10000000) :
    Own.Met l Z (⟨"com/example/skuld/skuld/team/ParallelismOfPinLaw", "toward", "(IJ)I"⟩ : MethodName) method_2_code 4 (some .int) [] ({ frames := 0, cells := 0, slots := 0, locals := 0 } : Room) #[(.int kk), (.long (Own.Zl (ee)))] h0 (fun v h L => v = some (.int (Own.Zi (own_tw kk ee))) ∧ h = h0 ∧ L = []) := by
  refine Own.Met.of (plainFor_of_name (by first | (simp [plainName, overriddenIn]; done) | decide +kernel)) ?_
  intro p e s m below meth c T0 hx hby hml hown hnm hret hlk hZ X0 e0
  have hown : s.vm.findClass "com/example/skuld/skuld/team/ParallelismOfPinLaw" = some m.cls := hown
  have hml : c.maxLocals = 4 := hml
  have hnm : meth.name = "toward" := hnm
  have ef : entryFrame m #[(.int kk), (.long (Own.Zl (ee)))] 4 = mkF m 0 #[.val (.int kk), .val (.long (Own.Zl (ee))), .second, .unset] [] := by first | (simp [entryFrame, mkF, argsToLocals, Value.category]; done) | rfl
  rw [ef]
  refine Own.lloadN 1 X0 hx (hb hby d2_0) rfl rfl ?_
  refine Own.l2i 2 X0 hx (hb hby d2_1) rfl (Own.Zl_i (by omega)) ?_
  refine Own.istoreNV 3 #[.val (.int kk), .val (.long (Own.Zl (ee))), .second, .val (.int (Own.Zi (ee)))] X0 hx (hb hby d2_2) rfl rfl ?_
  refine Own.iloadN 4 X0 hx (hb hby d2_3) rfl rfl ?_
  refine Own.if_lt 13 7 X0 hx (hb hby d2_4) (by decide) rfl (fun q => ?_) (fun q => ?_)
  ·
    refine Own.iloadN 14 X0 hx (hb hby d2_13) rfl rfl ?_
    refine Own.iloadN 15 X0 hx (hb hby d2_14) rfl rfl ?_
    refine Own.iadd 16 X0 hx (hb hby d2_15) rfl (own_addl kk _) ?_
    refine Own.retInt X0 hx hlk hret (hb hby d2_16) (by decide) (by decide) ?_
    exact ⟨by rw [own_tw, if_pos q], e0, rfl⟩
  ·
    refine Own.iloadN 8 X0 hx (hb hby d2_7) rfl rfl ?_
    refine Own.iloadN 9 X0 hx (hb hby d2_8) rfl rfl ?_
    refine Own.isub 10 X0 hx (hb hby d2_9) rfl (own_subl kk _) ?_
    refine Own.goto 16 X0 hx (hb hby d2_10) (by decide) ?_
    refine Own.retInt X0 hx hlk hret (hb hby d2_16) (by decide) (by decide) ?_
    exact ⟨by rw [own_tw, if_neg q], e0, rfl⟩
theorem d1_0 : decode prog_88_method_2_code 0 = .ok (.aload_n 0, 1) := by decide +kernel
theorem d1_1 : decode prog_88_method_2_code 1 = .ok (.arraylength, 1) := by decide +kernel
theorem d1_2 : decode prog_88_method_2_code 2 = .ok (.istore_n 1, 1) := by decide +kernel
theorem d1_3 : decode prog_88_method_2_code 3 = .ok (.iload_n 1, 1) := by decide +kernel
theorem d1_4 : decode prog_88_method_2_code 4 = .ok (.ifCond .ne 13, 3) := by decide +kernel
theorem d1_17 : decode prog_88_method_2_code 17 = .ok (.iload_n 1, 1) := by decide +kernel
theorem d1_18 : decode prog_88_method_2_code 18 = .ok (.iconst 1, 1) := by decide +kernel
theorem d1_19 : decode prog_88_method_2_code 19 = .ok (.if_icmp .ne 5, 3) := by decide +kernel
theorem d1_22 : decode prog_88_method_2_code 22 = .ok (.dconst 0, 1) := by decide +kernel
theorem d1_23 : decode prog_88_method_2_code 23 = .ok (.dreturn, 1) := by decide +kernel
set_option maxRecDepth 65536 in
set_option maxHeartbeats 40000000 in
theorem m1_1 (l : Launch) (Z : State) (a0 : Array Value) (w : ∀ (i : Nat) {d : Jvm.Cond}, tables_1[i]? = some d → d.before a0 Z = true) (a : Addr) (k9 : ClassId) (v0 : Int32) (h0 : Heap) (V_a : Arv Z h0 a k9 .int (1 : Int32) [(.int v0)] (.int (0 : Int32))) :
    Own.Met l Z (⟨"com/example/skuld/skuld/team/Parallelism", "of", "([I)D"⟩ : MethodName) prog_88_method_2_code 14 (some .double) [] ({ frames := 0, cells := 0, slots := 0, locals := 0 } : Room) #[(.ref a)] h0 (fun v h L => v = some (.double FP.dconst0) ∧ h = h0 ∧ L = []) := by
  refine Own.Met.of (plainFor_of_name (by first | (simp [plainName, overriddenIn]; done) | decide +kernel)) ?_
  intro p e s m below meth c T0 hx hby hml hown hnm hret hlk hZ X0 e0
  have hown : s.vm.findClass "com/example/skuld/skuld/team/Parallelism" = some m.cls := hown
  have hml : c.maxLocals = 14 := hml
  have hnm : meth.name = "of" := hnm
  have ef : entryFrame m #[(.ref a)] 14 = mkF m 0 #[.val (.ref a), .unset, .unset, .unset, .unset, .unset, .unset, .unset, .unset, .unset, .unset, .unset, .unset, .unset] [] := by first | (simp [entryFrame, mkF, argsToLocals, Value.category]; done) | rfl
  rw [ef]
  refine Own.aloadN 1 X0 hx (hb hby d1_0) rfl rfl rfl ?_
  refine Own.arrLen 2 X0 hx hZ e0 V_a (hb hby d1_1) rfl ?_
  refine Own.istoreNV 3 #[.val (.ref a), .val (.int (1 : Int32)), .unset, .unset, .unset, .unset, .unset, .unset, .unset, .unset, .unset, .unset, .unset, .unset] X0 hx (hb hby d1_2) rfl rfl ?_
  refine Own.iloadN 4 X0 hx (hb hby d1_3) rfl rfl ?_
  refine Own.if_ne 17 7 X0 hx (hb hby d1_4) (by decide) rfl (fun tk => ?_) (fun tk => absurd tk (by decide))
  refine Own.iloadN 18 X0 hx (hb hby d1_17) rfl rfl ?_
  refine Own.iconst 19 X0 hx ((1 : Int32)) (hb hby d1_18) rfl rfl ?_
  refine Own.icmp_ne 24 22 X0 hx (hb hby d1_19) (by decide) rfl (fun tk => absurd tk (by decide)) (fun tk => ?_)
  refine Own.dconst0 23 X0 hx (hb hby d1_22) rfl ?_
  refine Own.retDbl X0 hx hlk hret (hb hby d1_23) (by decide) (by decide) ?_
  exact ⟨rfl, e0, rfl⟩
theorem d1_24 : decode prog_88_method_2_code 24 = .ok (.lconst 0, 1) := by decide +kernel
theorem d1_25 : decode prog_88_method_2_code 25 = .ok (.lstore_n 2, 1) := by decide +kernel
theorem d1_26 : decode prog_88_method_2_code 26 = .ok (.aload_n 0, 1) := by decide +kernel
theorem d1_27 : decode prog_88_method_2_code 27 = .ok (.astore 4, 2) := by decide +kernel
theorem d1_29 : decode prog_88_method_2_code 29 = .ok (.aload 4, 2) := by decide +kernel
theorem d1_31 : decode prog_88_method_2_code 31 = .ok (.arraylength, 1) := by decide +kernel
theorem d1_32 : decode prog_88_method_2_code 32 = .ok (.istore 5, 2) := by decide +kernel
theorem d1_34 : decode prog_88_method_2_code 34 = .ok (.iconst 0, 1) := by decide +kernel
theorem d1_35 : decode prog_88_method_2_code 35 = .ok (.istore 6, 2) := by decide +kernel
theorem d1_37 : decode prog_88_method_2_code 37 = .ok (.iload 6, 2) := by decide +kernel
theorem d1_39 : decode prog_88_method_2_code 39 = .ok (.iload 5, 2) := by decide +kernel
theorem d1_41 : decode prog_88_method_2_code 41 = .ok (.if_icmp .ge 22, 3) := by decide +kernel
theorem d1_44 : decode prog_88_method_2_code 44 = .ok (.aload 4, 2) := by decide +kernel
theorem d1_46 : decode prog_88_method_2_code 46 = .ok (.iload 6, 2) := by decide +kernel
theorem d1_48 : decode prog_88_method_2_code 48 = .ok (.iaload, 1) := by decide +kernel
theorem d1_49 : decode prog_88_method_2_code 49 = .ok (.istore 7, 2) := by decide +kernel
theorem d1_51 : decode prog_88_method_2_code 51 = .ok (.lload_n 2, 1) := by decide +kernel
theorem d1_52 : decode prog_88_method_2_code 52 = .ok (.iload 7, 2) := by decide +kernel
theorem d1_54 : decode prog_88_method_2_code 54 = .ok (.i2l, 1) := by decide +kernel
theorem d1_55 : decode prog_88_method_2_code 55 = .ok (.ladd, 1) := by decide +kernel
theorem d1_56 : decode prog_88_method_2_code 56 = .ok (.lstore_n 2, 1) := by decide +kernel
theorem d1_57 : decode prog_88_method_2_code 57 = .ok (.iinc 6 1, 3) := by decide +kernel
theorem d1_60 : decode prog_88_method_2_code 60 = .ok (.goto (-23), 3) := by decide +kernel
theorem d1_63 : decode prog_88_method_2_code 63 = .ok (.lload_n 2, 1) := by decide +kernel
theorem d1_64 : decode prog_88_method_2_code 64 = .ok (.l2d, 1) := by decide +kernel
theorem d1_65 : decode prog_88_method_2_code 65 = .ok (.iload_n 1, 1) := by decide +kernel
theorem d1_66 : decode prog_88_method_2_code 66 = .ok (.i2d, 1) := by decide +kernel
theorem d1_67 : decode prog_88_method_2_code 67 = .ok (.ddiv, 1) := by decide +kernel
theorem d1_68 : decode prog_88_method_2_code 68 = .ok (.dstore 4, 2) := by decide +kernel
theorem d1_70 : decode prog_88_method_2_code 70 = .ok (.dconst 0, 1) := by decide +kernel
theorem d1_71 : decode prog_88_method_2_code 71 = .ok (.dstore 6, 2) := by decide +kernel
theorem d1_73 : decode prog_88_method_2_code 73 = .ok (.aload_n 0, 1) := by decide +kernel
theorem d1_74 : decode prog_88_method_2_code 74 = .ok (.astore 8, 2) := by decide +kernel
theorem d1_76 : decode prog_88_method_2_code 76 = .ok (.aload 8, 2) := by decide +kernel
theorem d1_78 : decode prog_88_method_2_code 78 = .ok (.arraylength, 1) := by decide +kernel
theorem d1_79 : decode prog_88_method_2_code 79 = .ok (.istore 9, 2) := by decide +kernel
theorem d1_81 : decode prog_88_method_2_code 81 = .ok (.iconst 0, 1) := by decide +kernel
theorem d1_82 : decode prog_88_method_2_code 82 = .ok (.istore 10, 2) := by decide +kernel
theorem d1_84 : decode prog_88_method_2_code 84 = .ok (.iload 10, 2) := by decide +kernel
theorem d1_86 : decode prog_88_method_2_code 86 = .ok (.iload 9, 2) := by decide +kernel
theorem d1_88 : decode prog_88_method_2_code 88 = .ok (.if_icmp .ge 34, 3) := by decide +kernel
theorem d1_91 : decode prog_88_method_2_code 91 = .ok (.aload 8, 2) := by decide +kernel
theorem d1_93 : decode prog_88_method_2_code 93 = .ok (.iload 10, 2) := by decide +kernel
theorem d1_95 : decode prog_88_method_2_code 95 = .ok (.iaload, 1) := by decide +kernel
theorem d1_96 : decode prog_88_method_2_code 96 = .ok (.istore 11, 2) := by decide +kernel
theorem d1_98 : decode prog_88_method_2_code 98 = .ok (.iload 11, 2) := by decide +kernel
theorem d1_100 : decode prog_88_method_2_code 100 = .ok (.i2d, 1) := by decide +kernel
theorem d1_101 : decode prog_88_method_2_code 101 = .ok (.dload 4, 2) := by decide +kernel
theorem d1_103 : decode prog_88_method_2_code 103 = .ok (.dsub, 1) := by decide +kernel
theorem d1_104 : decode prog_88_method_2_code 104 = .ok (.dstore 12, 2) := by decide +kernel
theorem d1_106 : decode prog_88_method_2_code 106 = .ok (.dload 6, 2) := by decide +kernel
theorem d1_108 : decode prog_88_method_2_code 108 = .ok (.dload 12, 2) := by decide +kernel
theorem d1_110 : decode prog_88_method_2_code 110 = .ok (.dload 12, 2) := by decide +kernel
theorem d1_112 : decode prog_88_method_2_code 112 = .ok (.dmul, 1) := by decide +kernel
theorem d1_113 : decode prog_88_method_2_code 113 = .ok (.dadd, 1) := by decide +kernel
theorem d1_114 : decode prog_88_method_2_code 114 = .ok (.dstore 6, 2) := by decide +kernel
theorem d1_116 : decode prog_88_method_2_code 116 = .ok (.iinc 10 1, 3) := by decide +kernel
theorem d1_119 : decode prog_88_method_2_code 119 = .ok (.goto (-35), 3) := by decide +kernel
theorem d1_122 : decode prog_88_method_2_code 122 = .ok (.dload 6, 2) := by decide +kernel
theorem d1_124 : decode prog_88_method_2_code 124 = .ok (.iload_n 1, 1) := by decide +kernel
theorem d1_125 : decode prog_88_method_2_code 125 = .ok (.iconst 1, 1) := by decide +kernel
theorem d1_126 : decode prog_88_method_2_code 126 = .ok (.isub, 1) := by decide +kernel
theorem d1_127 : decode prog_88_method_2_code 127 = .ok (.i2d, 1) := by decide +kernel
theorem d1_128 : decode prog_88_method_2_code 128 = .ok (.ddiv, 1) := by decide +kernel
theorem d1_129 : decode prog_88_method_2_code 129 = .ok (.dreturn, 1) := by decide +kernel
set_option maxRecDepth 65536 in
set_option maxHeartbeats 40000000 in
theorem m1_2 (l : Launch) (Z : State) (a0 : Array Value) (w : ∀ (i : Nat) {d : Jvm.Cond}, tables_1[i]? = some d → d.before a0 Z = true) (a : Addr) (k9 : ClassId) (y0 y1 c0 c1 : Int) (h0 : Heap) (V_a : Arv Z h0 a k9 .int (2 : Int32) [(.int (Own.Zi (y0))), (.int (Own.Zi (y1)))] (.int (0 : Int32))) (r0 : -2147483648 ≤ y0 ∧ y0 < 2147483648) (hc0 : 2 * y0 - ((0 + y0) + y1) = c0) (hs0 : 0 ≤ c0 * c0 ∧ c0 * c0 ≤ 1125899906842624) (r1 : -2147483648 ≤ y1 ∧ y1 < 2147483648) (hc1 : 2 * y1 - ((0 + y0) + y1) = c1) (hs1 : 0 ≤ c1 * c1 ∧ c1 * c1 ≤ 1125899906842624) :
    Own.Met l Z (⟨"com/example/skuld/skuld/team/Parallelism", "of", "([I)D"⟩ : MethodName) prog_88_method_2_code 14 (some .double) [] ({ frames := 0, cells := 0, slots := 0, locals := 0 } : Room) #[(.ref a)] h0 (fun v h L => ∃ r, v = some (.double r) ∧ own_Dy 2 ((0 + (c0 * c0)) + (c1 * c1)) r ∧ h = h0 ∧ L = []) := by
  refine Own.Met.of (plainFor_of_name (by first | (simp [plainName, overriddenIn]; done) | decide +kernel)) ?_
  intro p e s m below meth c T0 hx hby hml hown hnm hret hlk hZ X0 e0
  have hown : s.vm.findClass "com/example/skuld/skuld/team/Parallelism" = some m.cls := hown
  have hml : c.maxLocals = 14 := hml
  have hnm : meth.name = "of" := hnm
  have ef : entryFrame m #[(.ref a)] 14 = mkF m 0 #[.val (.ref a), .unset, .unset, .unset, .unset, .unset, .unset, .unset, .unset, .unset, .unset, .unset, .unset, .unset] [] := by first | (simp [entryFrame, mkF, argsToLocals, Value.category]; done) | rfl
  rw [ef]
  refine Own.aloadN 1 X0 hx (hb hby d1_0) rfl rfl rfl ?_
  refine Own.arrLen 2 X0 hx hZ e0 V_a (hb hby d1_1) rfl ?_
  refine Own.istoreNV 3 #[.val (.ref a), .val (.int (2 : Int32)), .unset, .unset, .unset, .unset, .unset, .unset, .unset, .unset, .unset, .unset, .unset, .unset] X0 hx (hb hby d1_2) rfl rfl ?_
  refine Own.iloadN 4 X0 hx (hb hby d1_3) rfl rfl ?_
  refine Own.if_ne 17 7 X0 hx (hb hby d1_4) (by decide) rfl (fun tk => ?_) (fun tk => absurd tk (by decide))
  refine Own.iloadN 18 X0 hx (hb hby d1_17) rfl rfl ?_
  refine Own.iconst 19 X0 hx ((1 : Int32)) (hb hby d1_18) rfl rfl ?_
  refine Own.icmp_ne 24 22 X0 hx (hb hby d1_19) (by decide) rfl (fun tk => ?_) (fun tk => absurd tk (by decide))
  refine Own.lconst 25 X0 hx (Own.Zl 0) (hb hby d1_24) rfl (by decide) ?_
  refine Own.lstoreNV 26 #[.val (.ref a), .val (.int (2 : Int32)), .val (.long (Own.Zl (0))), .second, .unset, .unset, .unset, .unset, .unset, .unset, .unset, .unset, .unset, .unset] X0 hx (hb hby d1_25) rfl rfl ?_
  refine Own.aloadN 27 X0 hx (hb hby d1_26) rfl rfl rfl ?_
  refine Own.astore 29 #[.val (.ref a), .val (.int (2 : Int32)), .val (.long (Own.Zl (0))), .second, .val (.ref a), .unset, .unset, .unset, .unset, .unset, .unset, .unset, .unset, .unset] X0 hx (hb hby d1_27) rfl rfl rfl ?_
  refine Own.aload 31 X0 hx (hb hby d1_29) rfl rfl rfl ?_
  refine Own.arrLen 32 X0 hx hZ e0 V_a (hb hby d1_31) rfl ?_
  refine Own.istoreV 34 #[.val (.ref a), .val (.int (2 : Int32)), .val (.long (Own.Zl (0))), .second, .val (.ref a), .val (.int (2 : Int32)), .unset, .unset, .unset, .unset, .unset, .unset, .unset, .unset] X0 hx (hb hby d1_32) rfl rfl ?_
  refine Own.iconst 35 X0 hx ((0 : Int32)) (hb hby d1_34) rfl rfl ?_
  refine Own.istoreV 37 #[.val (.ref a), .val (.int (2 : Int32)), .val (.long (Own.Zl (0))), .second, .val (.ref a), .val (.int (2 : Int32)), .val (.int (0 : Int32)), .unset, .unset, .unset, .unset, .unset, .unset, .unset] X0 hx (hb hby d1_35) rfl rfl ?_
  refine Own.iload 39 X0 hx (hb hby d1_37) rfl rfl ?_
  refine Own.iload 41 X0 hx (hb hby d1_39) rfl rfl ?_
  refine Own.icmp_ge 63 44 X0 hx (hb hby d1_41) (by decide) rfl (fun tk => absurd tk (by decide)) (fun tk => ?_)
  refine Own.aload 46 X0 hx (hb hby d1_44) rfl rfl rfl ?_
  refine Own.iload 48 X0 hx (hb hby d1_46) rfl rfl ?_
  refine Own.iaload 49 X0 hx hZ e0 (Own.Zi (y0)) V_a (by decide) rfl (hb hby d1_48) rfl ?_
  refine Own.istoreV 51 #[.val (.ref a), .val (.int (2 : Int32)), .val (.long (Own.Zl (0))), .second, .val (.ref a), .val (.int (2 : Int32)), .val (.int (0 : Int32)), .val (.int (Own.Zi (y0))), .unset, .unset, .unset, .unset, .unset, .unset] X0 hx (hb hby d1_49) rfl rfl ?_
  refine Own.lloadN 52 X0 hx (hb hby d1_51) rfl rfl ?_
  refine Own.iload 54 X0 hx (hb hby d1_52) rfl rfl ?_
  refine Own.i2l 55 X0 hx (hb hby d1_54) rfl (Own.Zi_l (by omega)) ?_
  refine Own.ladd 56 X0 hx (hb hby d1_55) rfl (Own.Zl_add _ _) ?_
  refine Own.lstoreNV 57 #[.val (.ref a), .val (.int (2 : Int32)), .val (.long (Own.Zl (0 + y0))), .second, .val (.ref a), .val (.int (2 : Int32)), .val (.int (0 : Int32)), .val (.int (Own.Zi (y0))), .unset, .unset, .unset, .unset, .unset, .unset] X0 hx (hb hby d1_56) rfl rfl ?_
  refine Own.iinc 60 (fun c_1 => #[.val (.ref a), .val (.int (2 : Int32)), .val (.long (Own.Zl (0 + y0))), .second, .val (.ref a), .val (.int (2 : Int32)), .val (.int c_1), .val (.int (Own.Zi (y0))), .unset, .unset, .unset, .unset, .unset, .unset]) X0 hx ((1 : Int32)) (hb hby d1_57) rfl rfl rfl (fun _ => rfl) fun c_1 hc_1 => ?_
  obtain rfl : c_1 = (1 : Int32) := hc_1.trans (by decide)
  refine Own.goto 37 X0 hx (hb hby d1_60) (by decide) ?_
  refine Own.iload 39 X0 hx (hb hby d1_37) rfl rfl ?_
  refine Own.iload 41 X0 hx (hb hby d1_39) rfl rfl ?_
  refine Own.icmp_ge 63 44 X0 hx (hb hby d1_41) (by decide) rfl (fun tk => absurd tk (by decide)) (fun tk => ?_)
  refine Own.aload 46 X0 hx (hb hby d1_44) rfl rfl rfl ?_
  refine Own.iload 48 X0 hx (hb hby d1_46) rfl rfl ?_
  refine Own.iaload 49 X0 hx hZ e0 (Own.Zi (y1)) V_a (by decide) rfl (hb hby d1_48) rfl ?_
  refine Own.istoreV 51 #[.val (.ref a), .val (.int (2 : Int32)), .val (.long (Own.Zl (0 + y0))), .second, .val (.ref a), .val (.int (2 : Int32)), .val (.int (1 : Int32)), .val (.int (Own.Zi (y1))), .unset, .unset, .unset, .unset, .unset, .unset] X0 hx (hb hby d1_49) rfl rfl ?_
  refine Own.lloadN 52 X0 hx (hb hby d1_51) rfl rfl ?_
  refine Own.iload 54 X0 hx (hb hby d1_52) rfl rfl ?_
  refine Own.i2l 55 X0 hx (hb hby d1_54) rfl (Own.Zi_l (by omega)) ?_
  refine Own.ladd 56 X0 hx (hb hby d1_55) rfl (Own.Zl_add _ _) ?_
  refine Own.lstoreNV 57 #[.val (.ref a), .val (.int (2 : Int32)), .val (.long (Own.Zl ((0 + y0) + y1))), .second, .val (.ref a), .val (.int (2 : Int32)), .val (.int (1 : Int32)), .val (.int (Own.Zi (y1))), .unset, .unset, .unset, .unset, .unset, .unset] X0 hx (hb hby d1_56) rfl rfl ?_
  refine Own.iinc 60 (fun c_2 => #[.val (.ref a), .val (.int (2 : Int32)), .val (.long (Own.Zl ((0 + y0) + y1))), .second, .val (.ref a), .val (.int (2 : Int32)), .val (.int c_2), .val (.int (Own.Zi (y1))), .unset, .unset, .unset, .unset, .unset, .unset]) X0 hx ((1 : Int32)) (hb hby d1_57) rfl rfl rfl (fun _ => rfl) fun c_2 hc_2 => ?_
  obtain rfl : c_2 = (2 : Int32) := hc_2.trans (by decide)
  refine Own.goto 37 X0 hx (hb hby d1_60) (by decide) ?_
  refine Own.iload 39 X0 hx (hb hby d1_37) rfl rfl ?_
  refine Own.iload 41 X0 hx (hb hby d1_39) rfl rfl ?_
  refine Own.icmp_ge 63 44 X0 hx (hb hby d1_41) (by decide) rfl (fun tk => ?_) (fun tk => absurd tk (by decide))
  refine Own.lloadN 64 X0 hx (hb hby d1_63) rfl rfl ?_
  have Dl3 : own_Dy 0 ((0 + y0) + y1) (FP.l2d (Own.Zl ((0 + y0) + y1))) := own_dyZ (by omega)
  refine Own.l2d 65 X0 hx (hb hby d1_64) rfl rfl ?_
  refine Own.iloadN 66 X0 hx (hb hby d1_65) rfl rfl ?_
  have Di4 : own_Dy 0 (2) (FP.i2d (2 : Int32)) := own_dy_c rfl (by decide)
  refine Own.i2d 67 X0 hx (hb hby d1_66) rfl rfl ?_
  have Dv5 : own_Dy 1 ((0 + y0) + y1) (FP.ddiv (FP.l2d (Own.Zl ((0 + y0) + y1))) (FP.i2d (2 : Int32))) := own_dy_div Dl3 Di4 (by omega) (by show ((0 + y0) + y1) * 2 = ((0 + y0) + y1) * (2) * 1; omega) (own_nB (by omega)) (by decide)
  refine Own.ddiv 68 X0 hx (hb hby d1_67) rfl (own_dy_nn Dv5) ?_
  refine Own.dstore 70 (fun u6 => #[.val (.ref a), .val (.int (2 : Int32)), .val (.long (Own.Zl ((0 + y0) + y1))), .second, .val (.double u6), .second, .val (.int (2 : Int32)), .val (.int (Own.Zi (y1))), .unset, .unset, .unset, .unset, .unset, .unset]) X0 hx (hb hby d1_68) rfl (fun _ => rfl) fun u6 hu6 => ?_
  have Du6 : own_Dy 1 ((0 + y0) + y1) u6 := by rw [hu6]; exact Dv5
  refine Own.dconst0 71 X0 hx (hb hby d1_70) rfl ?_
  refine Own.dstore 73 (fun u7 => #[.val (.ref a), .val (.int (2 : Int32)), .val (.long (Own.Zl ((0 + y0) + y1))), .second, .val (.double u6), .second, .val (.double u7), .second, .unset, .unset, .unset, .unset, .unset, .unset]) X0 hx (hb hby d1_71) rfl (fun _ => rfl) fun u7 hu7 => ?_
  have Du7 : ∀ k, own_Dy k 0 u7 := by rw [hu7]; exact own_dy_0
  refine Own.aloadN 74 X0 hx (hb hby d1_73) rfl rfl rfl ?_
  refine Own.astore 76 #[.val (.ref a), .val (.int (2 : Int32)), .val (.long (Own.Zl ((0 + y0) + y1))), .second, .val (.double u6), .second, .val (.double u7), .second, .val (.ref a), .unset, .unset, .unset, .unset, .unset] X0 hx (hb hby d1_74) rfl rfl rfl ?_
  refine Own.aload 78 X0 hx (hb hby d1_76) rfl rfl rfl ?_
  refine Own.arrLen 79 X0 hx hZ e0 V_a (hb hby d1_78) rfl ?_
  refine Own.istoreV 81 #[.val (.ref a), .val (.int (2 : Int32)), .val (.long (Own.Zl ((0 + y0) + y1))), .second, .val (.double u6), .second, .val (.double u7), .second, .val (.ref a), .val (.int (2 : Int32)), .unset, .unset, .unset, .unset] X0 hx (hb hby d1_79) rfl rfl ?_
  refine Own.iconst 82 X0 hx ((0 : Int32)) (hb hby d1_81) rfl rfl ?_
  refine Own.istoreV 84 #[.val (.ref a), .val (.int (2 : Int32)), .val (.long (Own.Zl ((0 + y0) + y1))), .second, .val (.double u6), .second, .val (.double u7), .second, .val (.ref a), .val (.int (2 : Int32)), .val (.int (0 : Int32)), .unset, .unset, .unset] X0 hx (hb hby d1_82) rfl rfl ?_
  refine Own.iload 86 X0 hx (hb hby d1_84) rfl rfl ?_
  refine Own.iload 88 X0 hx (hb hby d1_86) rfl rfl ?_
  refine Own.icmp_ge 122 91 X0 hx (hb hby d1_88) (by decide) rfl (fun tk => absurd tk (by decide)) (fun tk => ?_)
  refine Own.aload 93 X0 hx (hb hby d1_91) rfl rfl rfl ?_
  refine Own.iload 95 X0 hx (hb hby d1_93) rfl rfl ?_
  refine Own.iaload 96 X0 hx hZ e0 (Own.Zi (y0)) V_a (by decide) rfl (hb hby d1_95) rfl ?_
  refine Own.istoreV 98 #[.val (.ref a), .val (.int (2 : Int32)), .val (.long (Own.Zl ((0 + y0) + y1))), .second, .val (.double u6), .second, .val (.double u7), .second, .val (.ref a), .val (.int (2 : Int32)), .val (.int (0 : Int32)), .val (.int (Own.Zi (y0))), .unset, .unset] X0 hx (hb hby d1_96) rfl rfl ?_
  refine Own.iload 100 X0 hx (hb hby d1_98) rfl rfl ?_
  have Di8 : own_Dy 0 (y0) (FP.i2d (Own.Zi (y0))) := own_dyZi (by omega)
  refine Own.i2d 101 X0 hx (hb hby d1_100) rfl rfl ?_
  refine Own.dload 103 X0 hx (hb hby d1_101) rfl rfl ?_
  have Da9 : own_Dy 1 ((2 * y0) - ((0 + y0) + y1)) (FP.dsub (FP.i2d (Own.Zi (y0))) u6) := own_dy_sub (own_dy_up1 Di8) Du6 (own_nB (by omega)) (by decide)
  rw [show (2 * y0) - ((0 + y0) + y1) = c0 from by omega] at Da9
  refine Own.dsub 104 X0 hx (hb hby d1_103) rfl (own_dy_nn Da9) ?_
  refine Own.dstore 106 (fun u10 => #[.val (.ref a), .val (.int (2 : Int32)), .val (.long (Own.Zl ((0 + y0) + y1))), .second, .val (.double u6), .second, .val (.double u7), .second, .val (.ref a), .val (.int (2 : Int32)), .val (.int (0 : Int32)), .val (.int (Own.Zi (y0))), .val (.double u10), .second]) X0 hx (hb hby d1_104) rfl (fun _ => rfl) fun u10 hu10 => ?_
  have Du10 : own_Dy 1 (c0) u10 := by rw [hu10]; exact Da9
  refine Own.dload 108 X0 hx (hb hby d1_106) rfl rfl ?_
  refine Own.dload 110 X0 hx (hb hby d1_108) rfl rfl ?_
  refine Own.dload 112 X0 hx (hb hby d1_110) rfl rfl ?_
  have Dm11 : own_Dy 2 (c0 * c0) (FP.dmul u10 u10) := own_dy_mul Du10 Du10 (own_nB (by omega)) (by decide)
  refine Own.dmul 113 X0 hx (hb hby d1_112) rfl (own_dy_nn Dm11) ?_
  have Da12 : own_Dy 2 (0 + (c0 * c0)) (FP.dadd u7 (FP.dmul u10 u10)) := own_dy_add (Du7 2) Dm11 (own_nB (by omega)) (by decide)
  refine Own.dadd 114 X0 hx (hb hby d1_113) rfl (own_dy_nn Da12) ?_
  refine Own.dstore 116 (fun u13 => #[.val (.ref a), .val (.int (2 : Int32)), .val (.long (Own.Zl ((0 + y0) + y1))), .second, .val (.double u6), .second, .val (.double u13), .second, .val (.ref a), .val (.int (2 : Int32)), .val (.int (0 : Int32)), .val (.int (Own.Zi (y0))), .val (.double u10), .second]) X0 hx (hb hby d1_114) rfl (fun _ => rfl) fun u13 hu13 => ?_
  have Du13 : own_Dy 2 (0 + (c0 * c0)) u13 := by rw [hu13]; exact Da12
  refine Own.iinc 119 (fun c_14 => #[.val (.ref a), .val (.int (2 : Int32)), .val (.long (Own.Zl ((0 + y0) + y1))), .second, .val (.double u6), .second, .val (.double u13), .second, .val (.ref a), .val (.int (2 : Int32)), .val (.int c_14), .val (.int (Own.Zi (y0))), .val (.double u10), .second]) X0 hx ((1 : Int32)) (hb hby d1_116) rfl rfl rfl (fun _ => rfl) fun c_14 hc_14 => ?_
  obtain rfl : c_14 = (1 : Int32) := hc_14.trans (by decide)
  refine Own.goto 84 X0 hx (hb hby d1_119) (by decide) ?_
  refine Own.iload 86 X0 hx (hb hby d1_84) rfl rfl ?_
  refine Own.iload 88 X0 hx (hb hby d1_86) rfl rfl ?_
  refine Own.icmp_ge 122 91 X0 hx (hb hby d1_88) (by decide) rfl (fun tk => absurd tk (by decide)) (fun tk => ?_)
  refine Own.aload 93 X0 hx (hb hby d1_91) rfl rfl rfl ?_
  refine Own.iload 95 X0 hx (hb hby d1_93) rfl rfl ?_
  refine Own.iaload 96 X0 hx hZ e0 (Own.Zi (y1)) V_a (by decide) rfl (hb hby d1_95) rfl ?_
  refine Own.istoreV 98 #[.val (.ref a), .val (.int (2 : Int32)), .val (.long (Own.Zl ((0 + y0) + y1))), .second, .val (.double u6), .second, .val (.double u13), .second, .val (.ref a), .val (.int (2 : Int32)), .val (.int (1 : Int32)), .val (.int (Own.Zi (y1))), .val (.double u10), .second] X0 hx (hb hby d1_96) rfl rfl ?_
  refine Own.iload 100 X0 hx (hb hby d1_98) rfl rfl ?_
  have Di15 : own_Dy 0 (y1) (FP.i2d (Own.Zi (y1))) := own_dyZi (by omega)
  refine Own.i2d 101 X0 hx (hb hby d1_100) rfl rfl ?_
  refine Own.dload 103 X0 hx (hb hby d1_101) rfl rfl ?_
  have Da16 : own_Dy 1 ((2 * y1) - ((0 + y0) + y1)) (FP.dsub (FP.i2d (Own.Zi (y1))) u6) := own_dy_sub (own_dy_up1 Di15) Du6 (own_nB (by omega)) (by decide)
  rw [show (2 * y1) - ((0 + y0) + y1) = c1 from by omega] at Da16
  refine Own.dsub 104 X0 hx (hb hby d1_103) rfl (own_dy_nn Da16) ?_
  refine Own.dstore 106 (fun u17 => #[.val (.ref a), .val (.int (2 : Int32)), .val (.long (Own.Zl ((0 + y0) + y1))), .second, .val (.double u6), .second, .val (.double u13), .second, .val (.ref a), .val (.int (2 : Int32)), .val (.int (1 : Int32)), .val (.int (Own.Zi (y1))), .val (.double u17), .second]) X0 hx (hb hby d1_104) rfl (fun _ => rfl) fun u17 hu17 => ?_
  have Du17 : own_Dy 1 (c1) u17 := by rw [hu17]; exact Da16
  refine Own.dload 108 X0 hx (hb hby d1_106) rfl rfl ?_
  refine Own.dload 110 X0 hx (hb hby d1_108) rfl rfl ?_
  refine Own.dload 112 X0 hx (hb hby d1_110) rfl rfl ?_
  have Dm18 : own_Dy 2 (c1 * c1) (FP.dmul u17 u17) := own_dy_mul Du17 Du17 (own_nB (by omega)) (by decide)
  refine Own.dmul 113 X0 hx (hb hby d1_112) rfl (own_dy_nn Dm18) ?_
  have Da19 : own_Dy 2 ((0 + (c0 * c0)) + (c1 * c1)) (FP.dadd u13 (FP.dmul u17 u17)) := own_dy_add Du13 Dm18 (own_nB (by omega)) (by decide)
  refine Own.dadd 114 X0 hx (hb hby d1_113) rfl (own_dy_nn Da19) ?_
  refine Own.dstore 116 (fun u20 => #[.val (.ref a), .val (.int (2 : Int32)), .val (.long (Own.Zl ((0 + y0) + y1))), .second, .val (.double u6), .second, .val (.double u20), .second, .val (.ref a), .val (.int (2 : Int32)), .val (.int (1 : Int32)), .val (.int (Own.Zi (y1))), .val (.double u17), .second]) X0 hx (hb hby d1_114) rfl (fun _ => rfl) fun u20 hu20 => ?_
  have Du20 : own_Dy 2 ((0 + (c0 * c0)) + (c1 * c1)) u20 := by rw [hu20]; exact Da19
  refine Own.iinc 119 (fun c_21 => #[.val (.ref a), .val (.int (2 : Int32)), .val (.long (Own.Zl ((0 + y0) + y1))), .second, .val (.double u6), .second, .val (.double u20), .second, .val (.ref a), .val (.int (2 : Int32)), .val (.int c_21), .val (.int (Own.Zi (y1))), .val (.double u17), .second]) X0 hx ((1 : Int32)) (hb hby d1_116) rfl rfl rfl (fun _ => rfl) fun c_21 hc_21 => ?_
  obtain rfl : c_21 = (2 : Int32) := hc_21.trans (by decide)
  refine Own.goto 84 X0 hx (hb hby d1_119) (by decide) ?_
  refine Own.iload 86 X0 hx (hb hby d1_84) rfl rfl ?_
  refine Own.iload 88 X0 hx (hb hby d1_86) rfl rfl ?_
  refine Own.icmp_ge 122 91 X0 hx (hb hby d1_88) (by decide) rfl (fun tk => ?_) (fun tk => absurd tk (by decide))
  refine Own.dload 124 X0 hx (hb hby d1_122) rfl rfl ?_
  refine Own.iloadN 125 X0 hx (hb hby d1_124) rfl rfl ?_
  refine Own.iconst 126 X0 hx ((1 : Int32)) (hb hby d1_125) rfl rfl ?_
  refine Own.isub 127 X0 hx (hb hby d1_126) rfl (show ((2 : Int32) - (1 : Int32)) = (1 : Int32) by decide) ?_
  have Di22 : own_Dy 0 (1) (FP.i2d (1 : Int32)) := own_dy_c rfl (by decide)
  refine Own.i2d 128 X0 hx (hb hby d1_127) rfl rfl ?_
  have Dv23 : own_Dy 2 ((0 + (c0 * c0)) + (c1 * c1)) (FP.ddiv u20 (FP.i2d (1 : Int32))) := own_dy_div Du20 Di22 (by omega) (by show ((0 + (c0 * c0)) + (c1 * c1)) * 4 = ((0 + (c0 * c0)) + (c1 * c1)) * (1) * 4; omega) (own_nB (by omega)) (by decide)
  refine Own.ddiv 129 X0 hx (hb hby d1_128) rfl (own_dy_nn Dv23) ?_
  refine Own.retDbl X0 hx hlk hret (hb hby d1_129) (by decide) (by decide) ?_
  exact ⟨_, rfl, Dv23, e0, rfl⟩
set_option maxRecDepth 65536 in
set_option maxHeartbeats 40000000 in
theorem m1_3 (l : Launch) (Z : State) (a0 : Array Value) (w : ∀ (i : Nat) {d : Jvm.Cond}, tables_1[i]? = some d → d.before a0 Z = true) (a : Addr) (k9 : ClassId) (y0 y1 y2 c0 c1 c2 : Int) (M : Int) (h0 : Heap) (V_a : Arv Z h0 a k9 .int (3 : Int32) [(.int (Own.Zi (y0))), (.int (Own.Zi (y1))), (.int (Own.Zi (y2)))] (.int (0 : Int32))) (r0 : -2147483648 ≤ y0 ∧ y0 < 2147483648) (hc0 : 1 * y0 - M = c0) (hs0 : 0 ≤ c0 * c0 ∧ c0 * c0 ≤ 1125899906842624) (r1 : -2147483648 ≤ y1 ∧ y1 < 2147483648) (hc1 : 1 * y1 - M = c1) (hs1 : 0 ≤ c1 * c1 ∧ c1 * c1 ≤ 1125899906842624) (r2 : -2147483648 ≤ y2 ∧ y2 < 2147483648) (hc2 : 1 * y2 - M = c2) (hs2 : 0 ≤ c2 * c2 ∧ c2 * c2 ≤ 1125899906842624) (hM : ((0 + y0) + y1) + y2 = 3 * M) :
    Own.Met l Z (⟨"com/example/skuld/skuld/team/Parallelism", "of", "([I)D"⟩ : MethodName) prog_88_method_2_code 14 (some .double) [] ({ frames := 0, cells := 0, slots := 0, locals := 0 } : Room) #[(.ref a)] h0 (fun v h L => ∃ r, v = some (.double r) ∧ own_Dy 1 (((0 + (c0 * c0)) + (c1 * c1)) + (c2 * c2)) r ∧ h = h0 ∧ L = []) := by
  refine Own.Met.of (plainFor_of_name (by first | (simp [plainName, overriddenIn]; done) | decide +kernel)) ?_
  intro p e s m below meth c T0 hx hby hml hown hnm hret hlk hZ X0 e0
  have hown : s.vm.findClass "com/example/skuld/skuld/team/Parallelism" = some m.cls := hown
  have hml : c.maxLocals = 14 := hml
  have hnm : meth.name = "of" := hnm
  have ef : entryFrame m #[(.ref a)] 14 = mkF m 0 #[.val (.ref a), .unset, .unset, .unset, .unset, .unset, .unset, .unset, .unset, .unset, .unset, .unset, .unset, .unset] [] := by first | (simp [entryFrame, mkF, argsToLocals, Value.category]; done) | rfl
  rw [ef]
  refine Own.aloadN 1 X0 hx (hb hby d1_0) rfl rfl rfl ?_
  refine Own.arrLen 2 X0 hx hZ e0 V_a (hb hby d1_1) rfl ?_
  refine Own.istoreNV 3 #[.val (.ref a), .val (.int (3 : Int32)), .unset, .unset, .unset, .unset, .unset, .unset, .unset, .unset, .unset, .unset, .unset, .unset] X0 hx (hb hby d1_2) rfl rfl ?_
  refine Own.iloadN 4 X0 hx (hb hby d1_3) rfl rfl ?_
  refine Own.if_ne 17 7 X0 hx (hb hby d1_4) (by decide) rfl (fun tk => ?_) (fun tk => absurd tk (by decide))
  refine Own.iloadN 18 X0 hx (hb hby d1_17) rfl rfl ?_
  refine Own.iconst 19 X0 hx ((1 : Int32)) (hb hby d1_18) rfl rfl ?_
  refine Own.icmp_ne 24 22 X0 hx (hb hby d1_19) (by decide) rfl (fun tk => ?_) (fun tk => absurd tk (by decide))
  refine Own.lconst 25 X0 hx (Own.Zl 0) (hb hby d1_24) rfl (by decide) ?_
  refine Own.lstoreNV 26 #[.val (.ref a), .val (.int (3 : Int32)), .val (.long (Own.Zl (0))), .second, .unset, .unset, .unset, .unset, .unset, .unset, .unset, .unset, .unset, .unset] X0 hx (hb hby d1_25) rfl rfl ?_
  refine Own.aloadN 27 X0 hx (hb hby d1_26) rfl rfl rfl ?_
  refine Own.astore 29 #[.val (.ref a), .val (.int (3 : Int32)), .val (.long (Own.Zl (0))), .second, .val (.ref a), .unset, .unset, .unset, .unset, .unset, .unset, .unset, .unset, .unset] X0 hx (hb hby d1_27) rfl rfl rfl ?_
  refine Own.aload 31 X0 hx (hb hby d1_29) rfl rfl rfl ?_
  refine Own.arrLen 32 X0 hx hZ e0 V_a (hb hby d1_31) rfl ?_
  refine Own.istoreV 34 #[.val (.ref a), .val (.int (3 : Int32)), .val (.long (Own.Zl (0))), .second, .val (.ref a), .val (.int (3 : Int32)), .unset, .unset, .unset, .unset, .unset, .unset, .unset, .unset] X0 hx (hb hby d1_32) rfl rfl ?_
  refine Own.iconst 35 X0 hx ((0 : Int32)) (hb hby d1_34) rfl rfl ?_
  refine Own.istoreV 37 #[.val (.ref a), .val (.int (3 : Int32)), .val (.long (Own.Zl (0))), .second, .val (.ref a), .val (.int (3 : Int32)), .val (.int (0 : Int32)), .unset, .unset, .unset, .unset, .unset, .unset, .unset] X0 hx (hb hby d1_35) rfl rfl ?_
  refine Own.iload 39 X0 hx (hb hby d1_37) rfl rfl ?_
  refine Own.iload 41 X0 hx (hb hby d1_39) rfl rfl ?_
  refine Own.icmp_ge 63 44 X0 hx (hb hby d1_41) (by decide) rfl (fun tk => absurd tk (by decide)) (fun tk => ?_)
  refine Own.aload 46 X0 hx (hb hby d1_44) rfl rfl rfl ?_
  refine Own.iload 48 X0 hx (hb hby d1_46) rfl rfl ?_
  refine Own.iaload 49 X0 hx hZ e0 (Own.Zi (y0)) V_a (by decide) rfl (hb hby d1_48) rfl ?_
  refine Own.istoreV 51 #[.val (.ref a), .val (.int (3 : Int32)), .val (.long (Own.Zl (0))), .second, .val (.ref a), .val (.int (3 : Int32)), .val (.int (0 : Int32)), .val (.int (Own.Zi (y0))), .unset, .unset, .unset, .unset, .unset, .unset] X0 hx (hb hby d1_49) rfl rfl ?_
  refine Own.lloadN 52 X0 hx (hb hby d1_51) rfl rfl ?_
  refine Own.iload 54 X0 hx (hb hby d1_52) rfl rfl ?_
  refine Own.i2l 55 X0 hx (hb hby d1_54) rfl (Own.Zi_l (by omega)) ?_
  refine Own.ladd 56 X0 hx (hb hby d1_55) rfl (Own.Zl_add _ _) ?_
  refine Own.lstoreNV 57 #[.val (.ref a), .val (.int (3 : Int32)), .val (.long (Own.Zl (0 + y0))), .second, .val (.ref a), .val (.int (3 : Int32)), .val (.int (0 : Int32)), .val (.int (Own.Zi (y0))), .unset, .unset, .unset, .unset, .unset, .unset] X0 hx (hb hby d1_56) rfl rfl ?_
  refine Own.iinc 60 (fun c_1 => #[.val (.ref a), .val (.int (3 : Int32)), .val (.long (Own.Zl (0 + y0))), .second, .val (.ref a), .val (.int (3 : Int32)), .val (.int c_1), .val (.int (Own.Zi (y0))), .unset, .unset, .unset, .unset, .unset, .unset]) X0 hx ((1 : Int32)) (hb hby d1_57) rfl rfl rfl (fun _ => rfl) fun c_1 hc_1 => ?_
  obtain rfl : c_1 = (1 : Int32) := hc_1.trans (by decide)
  refine Own.goto 37 X0 hx (hb hby d1_60) (by decide) ?_
  refine Own.iload 39 X0 hx (hb hby d1_37) rfl rfl ?_
  refine Own.iload 41 X0 hx (hb hby d1_39) rfl rfl ?_
  refine Own.icmp_ge 63 44 X0 hx (hb hby d1_41) (by decide) rfl (fun tk => absurd tk (by decide)) (fun tk => ?_)
  refine Own.aload 46 X0 hx (hb hby d1_44) rfl rfl rfl ?_
  refine Own.iload 48 X0 hx (hb hby d1_46) rfl rfl ?_
  refine Own.iaload 49 X0 hx hZ e0 (Own.Zi (y1)) V_a (by decide) rfl (hb hby d1_48) rfl ?_
  refine Own.istoreV 51 #[.val (.ref a), .val (.int (3 : Int32)), .val (.long (Own.Zl (0 + y0))), .second, .val (.ref a), .val (.int (3 : Int32)), .val (.int (1 : Int32)), .val (.int (Own.Zi (y1))), .unset, .unset, .unset, .unset, .unset, .unset] X0 hx (hb hby d1_49) rfl rfl ?_
  refine Own.lloadN 52 X0 hx (hb hby d1_51) rfl rfl ?_
  refine Own.iload 54 X0 hx (hb hby d1_52) rfl rfl ?_
  refine Own.i2l 55 X0 hx (hb hby d1_54) rfl (Own.Zi_l (by omega)) ?_
  refine Own.ladd 56 X0 hx (hb hby d1_55) rfl (Own.Zl_add _ _) ?_
  refine Own.lstoreNV 57 #[.val (.ref a), .val (.int (3 : Int32)), .val (.long (Own.Zl ((0 + y0) + y1))), .second, .val (.ref a), .val (.int (3 : Int32)), .val (.int (1 : Int32)), .val (.int (Own.Zi (y1))), .unset, .unset, .unset, .unset, .unset, .unset] X0 hx (hb hby d1_56) rfl rfl ?_
  refine Own.iinc 60 (fun c_2 => #[.val (.ref a), .val (.int (3 : Int32)), .val (.long (Own.Zl ((0 + y0) + y1))), .second, .val (.ref a), .val (.int (3 : Int32)), .val (.int c_2), .val (.int (Own.Zi (y1))), .unset, .unset, .unset, .unset, .unset, .unset]) X0 hx ((1 : Int32)) (hb hby d1_57) rfl rfl rfl (fun _ => rfl) fun c_2 hc_2 => ?_
  obtain rfl : c_2 = (2 : Int32) := hc_2.trans (by decide)
  refine Own.goto 37 X0 hx (hb hby d1_60) (by decide) ?_
  refine Own.iload 39 X0 hx (hb hby d1_37) rfl rfl ?_
  refine Own.iload 41 X0 hx (hb hby d1_39) rfl rfl ?_
  refine Own.icmp_ge 63 44 X0 hx (hb hby d1_41) (by decide) rfl (fun tk => absurd tk (by decide)) (fun tk => ?_)
  refine Own.aload 46 X0 hx (hb hby d1_44) rfl rfl rfl ?_
  refine Own.iload 48 X0 hx (hb hby d1_46) rfl rfl ?_
  refine Own.iaload 49 X0 hx hZ e0 (Own.Zi (y2)) V_a (by decide) rfl (hb hby d1_48) rfl ?_
  refine Own.istoreV 51 #[.val (.ref a), .val (.int (3 : Int32)), .val (.long (Own.Zl ((0 + y0) + y1))), .second, .val (.ref a), .val (.int (3 : Int32)), .val (.int (2 : Int32)), .val (.int (Own.Zi (y2))), .unset, .unset, .unset, .unset, .unset, .unset] X0 hx (hb hby d1_49) rfl rfl ?_
  refine Own.lloadN 52 X0 hx (hb hby d1_51) rfl rfl ?_
  refine Own.iload 54 X0 hx (hb hby d1_52) rfl rfl ?_
  refine Own.i2l 55 X0 hx (hb hby d1_54) rfl (Own.Zi_l (by omega)) ?_
  refine Own.ladd 56 X0 hx (hb hby d1_55) rfl (Own.Zl_add _ _) ?_
  refine Own.lstoreNV 57 #[.val (.ref a), .val (.int (3 : Int32)), .val (.long (Own.Zl (((0 + y0) + y1) + y2))), .second, .val (.ref a), .val (.int (3 : Int32)), .val (.int (2 : Int32)), .val (.int (Own.Zi (y2))), .unset, .unset, .unset, .unset, .unset, .unset] X0 hx (hb hby d1_56) rfl rfl ?_
  refine Own.iinc 60 (fun c_3 => #[.val (.ref a), .val (.int (3 : Int32)), .val (.long (Own.Zl (((0 + y0) + y1) + y2))), .second, .val (.ref a), .val (.int (3 : Int32)), .val (.int c_3), .val (.int (Own.Zi (y2))), .unset, .unset, .unset, .unset, .unset, .unset]) X0 hx ((1 : Int32)) (hb hby d1_57) rfl rfl rfl (fun _ => rfl) fun c_3 hc_3 => ?_
  obtain rfl : c_3 = (3 : Int32) := hc_3.trans (by decide)
  refine Own.goto 37 X0 hx (hb hby d1_60) (by decide) ?_
  refine Own.iload 39 X0 hx (hb hby d1_37) rfl rfl ?_
  refine Own.iload 41 X0 hx (hb hby d1_39) rfl rfl ?_
  refine Own.icmp_ge 63 44 X0 hx (hb hby d1_41) (by decide) rfl (fun tk => ?_) (fun tk => absurd tk (by decide))
  refine Own.lloadN 64 X0 hx (hb hby d1_63) rfl rfl ?_
  have Dl4 : own_Dy 0 (((0 + y0) + y1) + y2) (FP.l2d (Own.Zl (((0 + y0) + y1) + y2))) := own_dyZ (by omega)
  refine Own.l2d 65 X0 hx (hb hby d1_64) rfl rfl ?_
  refine Own.iloadN 66 X0 hx (hb hby d1_65) rfl rfl ?_
  have Di5 : own_Dy 0 (3) (FP.i2d (3 : Int32)) := own_dy_c rfl (by decide)
  refine Own.i2d 67 X0 hx (hb hby d1_66) rfl rfl ?_
  have Dv6 : own_Dy 0 (M) (FP.ddiv (FP.l2d (Own.Zl (((0 + y0) + y1) + y2))) (FP.i2d (3 : Int32))) := own_dy_div Dl4 Di5 (by omega) (by show (((0 + y0) + y1) + y2) * 1 = (M) * (3) * 1; omega) (own_nB (by omega)) (by decide)
  refine Own.ddiv 68 X0 hx (hb hby d1_67) rfl (own_dy_nn Dv6) ?_
  refine Own.dstore 70 (fun u7 => #[.val (.ref a), .val (.int (3 : Int32)), .val (.long (Own.Zl (((0 + y0) + y1) + y2))), .second, .val (.double u7), .second, .val (.int (3 : Int32)), .val (.int (Own.Zi (y2))), .unset, .unset, .unset, .unset, .unset, .unset]) X0 hx (hb hby d1_68) rfl (fun _ => rfl) fun u7 hu7 => ?_
  have Du7 : own_Dy 0 (M) u7 := by rw [hu7]; exact Dv6
  refine Own.dconst0 71 X0 hx (hb hby d1_70) rfl ?_
  refine Own.dstore 73 (fun u8 => #[.val (.ref a), .val (.int (3 : Int32)), .val (.long (Own.Zl (((0 + y0) + y1) + y2))), .second, .val (.double u7), .second, .val (.double u8), .second, .unset, .unset, .unset, .unset, .unset, .unset]) X0 hx (hb hby d1_71) rfl (fun _ => rfl) fun u8 hu8 => ?_
  have Du8 : ∀ k, own_Dy k 0 u8 := by rw [hu8]; exact own_dy_0
  refine Own.aloadN 74 X0 hx (hb hby d1_73) rfl rfl rfl ?_
  refine Own.astore 76 #[.val (.ref a), .val (.int (3 : Int32)), .val (.long (Own.Zl (((0 + y0) + y1) + y2))), .second, .val (.double u7), .second, .val (.double u8), .second, .val (.ref a), .unset, .unset, .unset, .unset, .unset] X0 hx (hb hby d1_74) rfl rfl rfl ?_
  refine Own.aload 78 X0 hx (hb hby d1_76) rfl rfl rfl ?_
  refine Own.arrLen 79 X0 hx hZ e0 V_a (hb hby d1_78) rfl ?_
  refine Own.istoreV 81 #[.val (.ref a), .val (.int (3 : Int32)), .val (.long (Own.Zl (((0 + y0) + y1) + y2))), .second, .val (.double u7), .second, .val (.double u8), .second, .val (.ref a), .val (.int (3 : Int32)), .unset, .unset, .unset, .unset] X0 hx (hb hby d1_79) rfl rfl ?_
  refine Own.iconst 82 X0 hx ((0 : Int32)) (hb hby d1_81) rfl rfl ?_
  refine Own.istoreV 84 #[.val (.ref a), .val (.int (3 : Int32)), .val (.long (Own.Zl (((0 + y0) + y1) + y2))), .second, .val (.double u7), .second, .val (.double u8), .second, .val (.ref a), .val (.int (3 : Int32)), .val (.int (0 : Int32)), .unset, .unset, .unset] X0 hx (hb hby d1_82) rfl rfl ?_
  refine Own.iload 86 X0 hx (hb hby d1_84) rfl rfl ?_
  refine Own.iload 88 X0 hx (hb hby d1_86) rfl rfl ?_
  refine Own.icmp_ge 122 91 X0 hx (hb hby d1_88) (by decide) rfl (fun tk => absurd tk (by decide)) (fun tk => ?_)
  refine Own.aload 93 X0 hx (hb hby d1_91) rfl rfl rfl ?_
  refine Own.iload 95 X0 hx (hb hby d1_93) rfl rfl ?_
  refine Own.iaload 96 X0 hx hZ e0 (Own.Zi (y0)) V_a (by decide) rfl (hb hby d1_95) rfl ?_
  refine Own.istoreV 98 #[.val (.ref a), .val (.int (3 : Int32)), .val (.long (Own.Zl (((0 + y0) + y1) + y2))), .second, .val (.double u7), .second, .val (.double u8), .second, .val (.ref a), .val (.int (3 : Int32)), .val (.int (0 : Int32)), .val (.int (Own.Zi (y0))), .unset, .unset] X0 hx (hb hby d1_96) rfl rfl ?_
  refine Own.iload 100 X0 hx (hb hby d1_98) rfl rfl ?_
  have Di9 : own_Dy 0 (y0) (FP.i2d (Own.Zi (y0))) := own_dyZi (by omega)
  refine Own.i2d 101 X0 hx (hb hby d1_100) rfl rfl ?_
  refine Own.dload 103 X0 hx (hb hby d1_101) rfl rfl ?_
  have Da10 : own_Dy 0 (y0 - M) (FP.dsub (FP.i2d (Own.Zi (y0))) u7) := own_dy_sub Di9 Du7 (own_nB (by omega)) (by decide)
  rw [show y0 - M = c0 from by omega] at Da10
  refine Own.dsub 104 X0 hx (hb hby d1_103) rfl (own_dy_nn Da10) ?_
  refine Own.dstore 106 (fun u11 => #[.val (.ref a), .val (.int (3 : Int32)), .val (.long (Own.Zl (((0 + y0) + y1) + y2))), .second, .val (.double u7), .second, .val (.double u8), .second, .val (.ref a), .val (.int (3 : Int32)), .val (.int (0 : Int32)), .val (.int (Own.Zi (y0))), .val (.double u11), .second]) X0 hx (hb hby d1_104) rfl (fun _ => rfl) fun u11 hu11 => ?_
  have Du11 : own_Dy 0 (c0) u11 := by rw [hu11]; exact Da10
  refine Own.dload 108 X0 hx (hb hby d1_106) rfl rfl ?_
  refine Own.dload 110 X0 hx (hb hby d1_108) rfl rfl ?_
  refine Own.dload 112 X0 hx (hb hby d1_110) rfl rfl ?_
  have Dm12 : own_Dy 0 (c0 * c0) (FP.dmul u11 u11) := own_dy_mul Du11 Du11 (own_nB (by omega)) (by decide)
  refine Own.dmul 113 X0 hx (hb hby d1_112) rfl (own_dy_nn Dm12) ?_
  have Da13 : own_Dy 0 (0 + (c0 * c0)) (FP.dadd u8 (FP.dmul u11 u11)) := own_dy_add (Du8 0) Dm12 (own_nB (by omega)) (by decide)
  refine Own.dadd 114 X0 hx (hb hby d1_113) rfl (own_dy_nn Da13) ?_
  refine Own.dstore 116 (fun u14 => #[.val (.ref a), .val (.int (3 : Int32)), .val (.long (Own.Zl (((0 + y0) + y1) + y2))), .second, .val (.double u7), .second, .val (.double u14), .second, .val (.ref a), .val (.int (3 : Int32)), .val (.int (0 : Int32)), .val (.int (Own.Zi (y0))), .val (.double u11), .second]) X0 hx (hb hby d1_114) rfl (fun _ => rfl) fun u14 hu14 => ?_
  have Du14 : own_Dy 0 (0 + (c0 * c0)) u14 := by rw [hu14]; exact Da13
  refine Own.iinc 119 (fun c_15 => #[.val (.ref a), .val (.int (3 : Int32)), .val (.long (Own.Zl (((0 + y0) + y1) + y2))), .second, .val (.double u7), .second, .val (.double u14), .second, .val (.ref a), .val (.int (3 : Int32)), .val (.int c_15), .val (.int (Own.Zi (y0))), .val (.double u11), .second]) X0 hx ((1 : Int32)) (hb hby d1_116) rfl rfl rfl (fun _ => rfl) fun c_15 hc_15 => ?_
  obtain rfl : c_15 = (1 : Int32) := hc_15.trans (by decide)
  refine Own.goto 84 X0 hx (hb hby d1_119) (by decide) ?_
  refine Own.iload 86 X0 hx (hb hby d1_84) rfl rfl ?_
  refine Own.iload 88 X0 hx (hb hby d1_86) rfl rfl ?_
  refine Own.icmp_ge 122 91 X0 hx (hb hby d1_88) (by decide) rfl (fun tk => absurd tk (by decide)) (fun tk => ?_)
  refine Own.aload 93 X0 hx (hb hby d1_91) rfl rfl rfl ?_
  refine Own.iload 95 X0 hx (hb hby d1_93) rfl rfl ?_
  refine Own.iaload 96 X0 hx hZ e0 (Own.Zi (y1)) V_a (by decide) rfl (hb hby d1_95) rfl ?_
  refine Own.istoreV 98 #[.val (.ref a), .val (.int (3 : Int32)), .val (.long (Own.Zl (((0 + y0) + y1) + y2))), .second, .val (.double u7), .second, .val (.double u14), .second, .val (.ref a), .val (.int (3 : Int32)), .val (.int (1 : Int32)), .val (.int (Own.Zi (y1))), .val (.double u11), .second] X0 hx (hb hby d1_96) rfl rfl ?_
  refine Own.iload 100 X0 hx (hb hby d1_98) rfl rfl ?_
  have Di16 : own_Dy 0 (y1) (FP.i2d (Own.Zi (y1))) := own_dyZi (by omega)
  refine Own.i2d 101 X0 hx (hb hby d1_100) rfl rfl ?_
  refine Own.dload 103 X0 hx (hb hby d1_101) rfl rfl ?_
  have Da17 : own_Dy 0 (y1 - M) (FP.dsub (FP.i2d (Own.Zi (y1))) u7) := own_dy_sub Di16 Du7 (own_nB (by omega)) (by decide)
  rw [show y1 - M = c1 from by omega] at Da17
  refine Own.dsub 104 X0 hx (hb hby d1_103) rfl (own_dy_nn Da17) ?_
  refine Own.dstore 106 (fun u18 => #[.val (.ref a), .val (.int (3 : Int32)), .val (.long (Own.Zl (((0 + y0) + y1) + y2))), .second, .val (.double u7), .second, .val (.double u14), .second, .val (.ref a), .val (.int (3 : Int32)), .val (.int (1 : Int32)), .val (.int (Own.Zi (y1))), .val (.double u18), .second]) X0 hx (hb hby d1_104) rfl (fun _ => rfl) fun u18 hu18 => ?_
  have Du18 : own_Dy 0 (c1) u18 := by rw [hu18]; exact Da17
  refine Own.dload 108 X0 hx (hb hby d1_106) rfl rfl ?_
  refine Own.dload 110 X0 hx (hb hby d1_108) rfl rfl ?_
  refine Own.dload 112 X0 hx (hb hby d1_110) rfl rfl ?_
  have Dm19 : own_Dy 0 (c1 * c1) (FP.dmul u18 u18) := own_dy_mul Du18 Du18 (own_nB (by omega)) (by decide)
  refine Own.dmul 113 X0 hx (hb hby d1_112) rfl (own_dy_nn Dm19) ?_
  have Da20 : own_Dy 0 ((0 + (c0 * c0)) + (c1 * c1)) (FP.dadd u14 (FP.dmul u18 u18)) := own_dy_add Du14 Dm19 (own_nB (by omega)) (by decide)
  refine Own.dadd 114 X0 hx (hb hby d1_113) rfl (own_dy_nn Da20) ?_
  refine Own.dstore 116 (fun u21 => #[.val (.ref a), .val (.int (3 : Int32)), .val (.long (Own.Zl (((0 + y0) + y1) + y2))), .second, .val (.double u7), .second, .val (.double u21), .second, .val (.ref a), .val (.int (3 : Int32)), .val (.int (1 : Int32)), .val (.int (Own.Zi (y1))), .val (.double u18), .second]) X0 hx (hb hby d1_114) rfl (fun _ => rfl) fun u21 hu21 => ?_
  have Du21 : own_Dy 0 ((0 + (c0 * c0)) + (c1 * c1)) u21 := by rw [hu21]; exact Da20
  refine Own.iinc 119 (fun c_22 => #[.val (.ref a), .val (.int (3 : Int32)), .val (.long (Own.Zl (((0 + y0) + y1) + y2))), .second, .val (.double u7), .second, .val (.double u21), .second, .val (.ref a), .val (.int (3 : Int32)), .val (.int c_22), .val (.int (Own.Zi (y1))), .val (.double u18), .second]) X0 hx ((1 : Int32)) (hb hby d1_116) rfl rfl rfl (fun _ => rfl) fun c_22 hc_22 => ?_
  obtain rfl : c_22 = (2 : Int32) := hc_22.trans (by decide)
  refine Own.goto 84 X0 hx (hb hby d1_119) (by decide) ?_
  refine Own.iload 86 X0 hx (hb hby d1_84) rfl rfl ?_
  refine Own.iload 88 X0 hx (hb hby d1_86) rfl rfl ?_
  refine Own.icmp_ge 122 91 X0 hx (hb hby d1_88) (by decide) rfl (fun tk => absurd tk (by decide)) (fun tk => ?_)
  refine Own.aload 93 X0 hx (hb hby d1_91) rfl rfl rfl ?_
  refine Own.iload 95 X0 hx (hb hby d1_93) rfl rfl ?_
  refine Own.iaload 96 X0 hx hZ e0 (Own.Zi (y2)) V_a (by decide) rfl (hb hby d1_95) rfl ?_
  refine Own.istoreV 98 #[.val (.ref a), .val (.int (3 : Int32)), .val (.long (Own.Zl (((0 + y0) + y1) + y2))), .second, .val (.double u7), .second, .val (.double u21), .second, .val (.ref a), .val (.int (3 : Int32)), .val (.int (2 : Int32)), .val (.int (Own.Zi (y2))), .val (.double u18), .second] X0 hx (hb hby d1_96) rfl rfl ?_
  refine Own.iload 100 X0 hx (hb hby d1_98) rfl rfl ?_
  have Di23 : own_Dy 0 (y2) (FP.i2d (Own.Zi (y2))) := own_dyZi (by omega)
  refine Own.i2d 101 X0 hx (hb hby d1_100) rfl rfl ?_
  refine Own.dload 103 X0 hx (hb hby d1_101) rfl rfl ?_
  have Da24 : own_Dy 0 (y2 - M) (FP.dsub (FP.i2d (Own.Zi (y2))) u7) := own_dy_sub Di23 Du7 (own_nB (by omega)) (by decide)
  rw [show y2 - M = c2 from by omega] at Da24
  refine Own.dsub 104 X0 hx (hb hby d1_103) rfl (own_dy_nn Da24) ?_
  refine Own.dstore 106 (fun u25 => #[.val (.ref a), .val (.int (3 : Int32)), .val (.long (Own.Zl (((0 + y0) + y1) + y2))), .second, .val (.double u7), .second, .val (.double u21), .second, .val (.ref a), .val (.int (3 : Int32)), .val (.int (2 : Int32)), .val (.int (Own.Zi (y2))), .val (.double u25), .second]) X0 hx (hb hby d1_104) rfl (fun _ => rfl) fun u25 hu25 => ?_
  have Du25 : own_Dy 0 (c2) u25 := by rw [hu25]; exact Da24
  refine Own.dload 108 X0 hx (hb hby d1_106) rfl rfl ?_
  refine Own.dload 110 X0 hx (hb hby d1_108) rfl rfl ?_
  refine Own.dload 112 X0 hx (hb hby d1_110) rfl rfl ?_
  have Dm26 : own_Dy 0 (c2 * c2) (FP.dmul u25 u25) := own_dy_mul Du25 Du25 (own_nB (by omega)) (by decide)
  refine Own.dmul 113 X0 hx (hb hby d1_112) rfl (own_dy_nn Dm26) ?_
  have Da27 : own_Dy 0 (((0 + (c0 * c0)) + (c1 * c1)) + (c2 * c2)) (FP.dadd u21 (FP.dmul u25 u25)) := own_dy_add Du21 Dm26 (own_nB (by omega)) (by decide)
  refine Own.dadd 114 X0 hx (hb hby d1_113) rfl (own_dy_nn Da27) ?_
  refine Own.dstore 116 (fun u28 => #[.val (.ref a), .val (.int (3 : Int32)), .val (.long (Own.Zl (((0 + y0) + y1) + y2))), .second, .val (.double u7), .second, .val (.double u28), .second, .val (.ref a), .val (.int (3 : Int32)), .val (.int (2 : Int32)), .val (.int (Own.Zi (y2))), .val (.double u25), .second]) X0 hx (hb hby d1_114) rfl (fun _ => rfl) fun u28 hu28 => ?_
  have Du28 : own_Dy 0 (((0 + (c0 * c0)) + (c1 * c1)) + (c2 * c2)) u28 := by rw [hu28]; exact Da27
  refine Own.iinc 119 (fun c_29 => #[.val (.ref a), .val (.int (3 : Int32)), .val (.long (Own.Zl (((0 + y0) + y1) + y2))), .second, .val (.double u7), .second, .val (.double u28), .second, .val (.ref a), .val (.int (3 : Int32)), .val (.int c_29), .val (.int (Own.Zi (y2))), .val (.double u25), .second]) X0 hx ((1 : Int32)) (hb hby d1_116) rfl rfl rfl (fun _ => rfl) fun c_29 hc_29 => ?_
  obtain rfl : c_29 = (3 : Int32) := hc_29.trans (by decide)
  refine Own.goto 84 X0 hx (hb hby d1_119) (by decide) ?_
  refine Own.iload 86 X0 hx (hb hby d1_84) rfl rfl ?_
  refine Own.iload 88 X0 hx (hb hby d1_86) rfl rfl ?_
  refine Own.icmp_ge 122 91 X0 hx (hb hby d1_88) (by decide) rfl (fun tk => ?_) (fun tk => absurd tk (by decide))
  refine Own.dload 124 X0 hx (hb hby d1_122) rfl rfl ?_
  refine Own.iloadN 125 X0 hx (hb hby d1_124) rfl rfl ?_
  refine Own.iconst 126 X0 hx ((1 : Int32)) (hb hby d1_125) rfl rfl ?_
  refine Own.isub 127 X0 hx (hb hby d1_126) rfl (show ((3 : Int32) - (1 : Int32)) = (2 : Int32) by decide) ?_
  have Di30 : own_Dy 0 (2) (FP.i2d (2 : Int32)) := own_dy_c rfl (by decide)
  refine Own.i2d 128 X0 hx (hb hby d1_127) rfl rfl ?_
  have Dv31 : own_Dy 1 (((0 + (c0 * c0)) + (c1 * c1)) + (c2 * c2)) (FP.ddiv u28 (FP.i2d (2 : Int32))) := own_dy_div Du28 Di30 (by omega) (by show (((0 + (c0 * c0)) + (c1 * c1)) + (c2 * c2)) * 2 = (((0 + (c0 * c0)) + (c1 * c1)) + (c2 * c2)) * (2) * 1; omega) (own_nB (by omega)) (by decide)
  refine Own.ddiv 129 X0 hx (hb hby d1_128) rfl (own_dy_nn Dv31) ?_
  refine Own.retDbl X0 hx hlk hret (hb hby d1_129) (by decide) (by decide) ?_
  exact ⟨_, rfl, Dv31, e0, rfl⟩
set_option maxRecDepth 65536 in
set_option maxHeartbeats 40000000 in
theorem m1_4 (l : Launch) (Z : State) (a0 : Array Value) (w : ∀ (i : Nat) {d : Jvm.Cond}, tables_1[i]? = some d → d.before a0 Z = true) (a : Addr) (k9 : ClassId) (y0 y1 y2 y3 c0 c1 c2 c3 : Int) (h0 : Heap) (V_a : Arv Z h0 a k9 .int (4 : Int32) [(.int (Own.Zi (y0))), (.int (Own.Zi (y1))), (.int (Own.Zi (y2))), (.int (Own.Zi (y3)))] (.int (0 : Int32))) (r0 : -2147483648 ≤ y0 ∧ y0 < 2147483648) (hc0 : 4 * y0 - ((((0 + y0) + y1) + y2) + y3) = c0) (hs0 : 0 ≤ c0 * c0 ∧ c0 * c0 ≤ 1125899906842624) (r1 : -2147483648 ≤ y1 ∧ y1 < 2147483648) (hc1 : 4 * y1 - ((((0 + y0) + y1) + y2) + y3) = c1) (hs1 : 0 ≤ c1 * c1 ∧ c1 * c1 ≤ 1125899906842624) (r2 : -2147483648 ≤ y2 ∧ y2 < 2147483648) (hc2 : 4 * y2 - ((((0 + y0) + y1) + y2) + y3) = c2) (hs2 : 0 ≤ c2 * c2 ∧ c2 * c2 ≤ 1125899906842624) (r3 : -2147483648 ≤ y3 ∧ y3 < 2147483648) (hc3 : 4 * y3 - ((((0 + y0) + y1) + y2) + y3) = c3) (hs3 : 0 ≤ c3 * c3 ∧ c3 * c3 ≤ 1125899906842624) :
    Own.Met l Z (⟨"com/example/skuld/skuld/team/Parallelism", "of", "([I)D"⟩ : MethodName) prog_88_method_2_code 14 (some .double) [] ({ frames := 0, cells := 0, slots := 0, locals := 0 } : Room) #[(.ref a)] h0 (fun v h L => ∃ r, v = some (.double (FP.ddiv r (FP.i2d (3 : Int32)))) ∧ own_Dy 4 ((((0 + (c0 * c0)) + (c1 * c1)) + (c2 * c2)) + (c3 * c3)) r ∧ h = h0 ∧ L = []) := by
  refine Own.Met.of (plainFor_of_name (by first | (simp [plainName, overriddenIn]; done) | decide +kernel)) ?_
  intro p e s m below meth c T0 hx hby hml hown hnm hret hlk hZ X0 e0
  have hown : s.vm.findClass "com/example/skuld/skuld/team/Parallelism" = some m.cls := hown
  have hml : c.maxLocals = 14 := hml
  have hnm : meth.name = "of" := hnm
  have ef : entryFrame m #[(.ref a)] 14 = mkF m 0 #[.val (.ref a), .unset, .unset, .unset, .unset, .unset, .unset, .unset, .unset, .unset, .unset, .unset, .unset, .unset] [] := by first | (simp [entryFrame, mkF, argsToLocals, Value.category]; done) | rfl
  rw [ef]
  refine Own.aloadN 1 X0 hx (hb hby d1_0) rfl rfl rfl ?_
  refine Own.arrLen 2 X0 hx hZ e0 V_a (hb hby d1_1) rfl ?_
  refine Own.istoreNV 3 #[.val (.ref a), .val (.int (4 : Int32)), .unset, .unset, .unset, .unset, .unset, .unset, .unset, .unset, .unset, .unset, .unset, .unset] X0 hx (hb hby d1_2) rfl rfl ?_
  refine Own.iloadN 4 X0 hx (hb hby d1_3) rfl rfl ?_
  refine Own.if_ne 17 7 X0 hx (hb hby d1_4) (by decide) rfl (fun tk => ?_) (fun tk => absurd tk (by decide))
  refine Own.iloadN 18 X0 hx (hb hby d1_17) rfl rfl ?_
  refine Own.iconst 19 X0 hx ((1 : Int32)) (hb hby d1_18) rfl rfl ?_
  refine Own.icmp_ne 24 22 X0 hx (hb hby d1_19) (by decide) rfl (fun tk => ?_) (fun tk => absurd tk (by decide))
  refine Own.lconst 25 X0 hx (Own.Zl 0) (hb hby d1_24) rfl (by decide) ?_
  refine Own.lstoreNV 26 #[.val (.ref a), .val (.int (4 : Int32)), .val (.long (Own.Zl (0))), .second, .unset, .unset, .unset, .unset, .unset, .unset, .unset, .unset, .unset, .unset] X0 hx (hb hby d1_25) rfl rfl ?_
  refine Own.aloadN 27 X0 hx (hb hby d1_26) rfl rfl rfl ?_
  refine Own.astore 29 #[.val (.ref a), .val (.int (4 : Int32)), .val (.long (Own.Zl (0))), .second, .val (.ref a), .unset, .unset, .unset, .unset, .unset, .unset, .unset, .unset, .unset] X0 hx (hb hby d1_27) rfl rfl rfl ?_
  refine Own.aload 31 X0 hx (hb hby d1_29) rfl rfl rfl ?_
  refine Own.arrLen 32 X0 hx hZ e0 V_a (hb hby d1_31) rfl ?_
  refine Own.istoreV 34 #[.val (.ref a), .val (.int (4 : Int32)), .val (.long (Own.Zl (0))), .second, .val (.ref a), .val (.int (4 : Int32)), .unset, .unset, .unset, .unset, .unset, .unset, .unset, .unset] X0 hx (hb hby d1_32) rfl rfl ?_
  refine Own.iconst 35 X0 hx ((0 : Int32)) (hb hby d1_34) rfl rfl ?_
  refine Own.istoreV 37 #[.val (.ref a), .val (.int (4 : Int32)), .val (.long (Own.Zl (0))), .second, .val (.ref a), .val (.int (4 : Int32)), .val (.int (0 : Int32)), .unset, .unset, .unset, .unset, .unset, .unset, .unset] X0 hx (hb hby d1_35) rfl rfl ?_
  refine Own.iload 39 X0 hx (hb hby d1_37) rfl rfl ?_
  refine Own.iload 41 X0 hx (hb hby d1_39) rfl rfl ?_
  refine Own.icmp_ge 63 44 X0 hx (hb hby d1_41) (by decide) rfl (fun tk => absurd tk (by decide)) (fun tk => ?_)
  refine Own.aload 46 X0 hx (hb hby d1_44) rfl rfl rfl ?_
  refine Own.iload 48 X0 hx (hb hby d1_46) rfl rfl ?_
  refine Own.iaload 49 X0 hx hZ e0 (Own.Zi (y0)) V_a (by decide) rfl (hb hby d1_48) rfl ?_
  refine Own.istoreV 51 #[.val (.ref a), .val (.int (4 : Int32)), .val (.long (Own.Zl (0))), .second, .val (.ref a), .val (.int (4 : Int32)), .val (.int (0 : Int32)), .val (.int (Own.Zi (y0))), .unset, .unset, .unset, .unset, .unset, .unset] X0 hx (hb hby d1_49) rfl rfl ?_
  refine Own.lloadN 52 X0 hx (hb hby d1_51) rfl rfl ?_
  refine Own.iload 54 X0 hx (hb hby d1_52) rfl rfl ?_
  refine Own.i2l 55 X0 hx (hb hby d1_54) rfl (Own.Zi_l (by omega)) ?_
  refine Own.ladd 56 X0 hx (hb hby d1_55) rfl (Own.Zl_add _ _) ?_
  refine Own.lstoreNV 57 #[.val (.ref a), .val (.int (4 : Int32)), .val (.long (Own.Zl (0 + y0))), .second, .val (.ref a), .val (.int (4 : Int32)), .val (.int (0 : Int32)), .val (.int (Own.Zi (y0))), .unset, .unset, .unset, .unset, .unset, .unset] X0 hx (hb hby d1_56) rfl rfl ?_
  refine Own.iinc 60 (fun c_1 => #[.val (.ref a), .val (.int (4 : Int32)), .val (.long (Own.Zl (0 + y0))), .second, .val (.ref a), .val (.int (4 : Int32)), .val (.int c_1), .val (.int (Own.Zi (y0))), .unset, .unset, .unset, .unset, .unset, .unset]) X0 hx ((1 : Int32)) (hb hby d1_57) rfl rfl rfl (fun _ => rfl) fun c_1 hc_1 => ?_
  obtain rfl : c_1 = (1 : Int32) := hc_1.trans (by decide)
  refine Own.goto 37 X0 hx (hb hby d1_60) (by decide) ?_
  refine Own.iload 39 X0 hx (hb hby d1_37) rfl rfl ?_
  refine Own.iload 41 X0 hx (hb hby d1_39) rfl rfl ?_
  refine Own.icmp_ge 63 44 X0 hx (hb hby d1_41) (by decide) rfl (fun tk => absurd tk (by decide)) (fun tk => ?_)
  refine Own.aload 46 X0 hx (hb hby d1_44) rfl rfl rfl ?_
  refine Own.iload 48 X0 hx (hb hby d1_46) rfl rfl ?_
  refine Own.iaload 49 X0 hx hZ e0 (Own.Zi (y1)) V_a (by decide) rfl (hb hby d1_48) rfl ?_
  refine Own.istoreV 51 #[.val (.ref a), .val (.int (4 : Int32)), .val (.long (Own.Zl (0 + y0))), .second, .val (.ref a), .val (.int (4 : Int32)), .val (.int (1 : Int32)), .val (.int (Own.Zi (y1))), .unset, .unset, .unset, .unset, .unset, .unset] X0 hx (hb hby d1_49) rfl rfl ?_
  refine Own.lloadN 52 X0 hx (hb hby d1_51) rfl rfl ?_
  refine Own.iload 54 X0 hx (hb hby d1_52) rfl rfl ?_
  refine Own.i2l 55 X0 hx (hb hby d1_54) rfl (Own.Zi_l (by omega)) ?_
  refine Own.ladd 56 X0 hx (hb hby d1_55) rfl (Own.Zl_add _ _) ?_
  refine Own.lstoreNV 57 #[.val (.ref a), .val (.int (4 : Int32)), .val (.long (Own.Zl ((0 + y0) + y1))), .second, .val (.ref a), .val (.int (4 : Int32)), .val (.int (1 : Int32)), .val (.int (Own.Zi (y1))), .unset, .unset, .unset, .unset, .unset, .unset] X0 hx (hb hby d1_56) rfl rfl ?_
  refine Own.iinc 60 (fun c_2 => #[.val (.ref a), .val (.int (4 : Int32)), .val (.long (Own.Zl ((0 + y0) + y1))), .second, .val (.ref a), .val (.int (4 : Int32)), .val (.int c_2), .val (.int (Own.Zi (y1))), .unset, .unset, .unset, .unset, .unset, .unset]) X0 hx ((1 : Int32)) (hb hby d1_57) rfl rfl rfl (fun _ => rfl) fun c_2 hc_2 => ?_
  obtain rfl : c_2 = (2 : Int32) := hc_2.trans (by decide)
  refine Own.goto 37 X0 hx (hb hby d1_60) (by decide) ?_
  refine Own.iload 39 X0 hx (hb hby d1_37) rfl rfl ?_
  refine Own.iload 41 X0 hx (hb hby d1_39) rfl rfl ?_
  refine Own.icmp_ge 63 44 X0 hx (hb hby d1_41) (by decide) rfl (fun tk => absurd tk (by decide)) (fun tk => ?_)
  refine Own.aload 46 X0 hx (hb hby d1_44) rfl rfl rfl ?_
  refine Own.iload 48 X0 hx (hb hby d1_46) rfl rfl ?_
  refine Own.iaload 49 X0 hx hZ e0 (Own.Zi (y2)) V_a (by decide) rfl (hb hby d1_48) rfl ?_
  refine Own.istoreV 51 #[.val (.ref a), .val (.int (4 : Int32)), .val (.long (Own.Zl ((0 + y0) + y1))), .second, .val (.ref a), .val (.int (4 : Int32)), .val (.int (2 : Int32)), .val (.int (Own.Zi (y2))), .unset, .unset, .unset, .unset, .unset, .unset] X0 hx (hb hby d1_49) rfl rfl ?_
  refine Own.lloadN 52 X0 hx (hb hby d1_51) rfl rfl ?_
  refine Own.iload 54 X0 hx (hb hby d1_52) rfl rfl ?_
  refine Own.i2l 55 X0 hx (hb hby d1_54) rfl (Own.Zi_l (by omega)) ?_
  refine Own.ladd 56 X0 hx (hb hby d1_55) rfl (Own.Zl_add _ _) ?_
  refine Own.lstoreNV 57 #[.val (.ref a), .val (.int (4 : Int32)), .val (.long (Own.Zl (((0 + y0) + y1) + y2))), .second, .val (.ref a), .val (.int (4 : Int32)), .val (.int (2 : Int32)), .val (.int (Own.Zi (y2))), .unset, .unset, .unset, .unset, .unset, .unset] X0 hx (hb hby d1_56) rfl rfl ?_
  refine Own.iinc 60 (fun c_3 => #[.val (.ref a), .val (.int (4 : Int32)), .val (.long (Own.Zl (((0 + y0) + y1) + y2))), .second, .val (.ref a), .val (.int (4 : Int32)), .val (.int c_3), .val (.int (Own.Zi (y2))), .unset, .unset, .unset, .unset, .unset, .unset]) X0 hx ((1 : Int32)) (hb hby d1_57) rfl rfl rfl (fun _ => rfl) fun c_3 hc_3 => ?_
  obtain rfl : c_3 = (3 : Int32) := hc_3.trans (by decide)
  refine Own.goto 37 X0 hx (hb hby d1_60) (by decide) ?_
  refine Own.iload 39 X0 hx (hb hby d1_37) rfl rfl ?_
  refine Own.iload 41 X0 hx (hb hby d1_39) rfl rfl ?_
  refine Own.icmp_ge 63 44 X0 hx (hb hby d1_41) (by decide) rfl (fun tk => absurd tk (by decide)) (fun tk => ?_)
  refine Own.aload 46 X0 hx (hb hby d1_44) rfl rfl rfl ?_
  refine Own.iload 48 X0 hx (hb hby d1_46) rfl rfl ?_
  refine Own.iaload 49 X0 hx hZ e0 (Own.Zi (y3)) V_a (by decide) rfl (hb hby d1_48) rfl ?_
  refine Own.istoreV 51 #[.val (.ref a), .val (.int (4 : Int32)), .val (.long (Own.Zl (((0 + y0) + y1) + y2))), .second, .val (.ref a), .val (.int (4 : Int32)), .val (.int (3 : Int32)), .val (.int (Own.Zi (y3))), .unset, .unset, .unset, .unset, .unset, .unset] X0 hx (hb hby d1_49) rfl rfl ?_
  refine Own.lloadN 52 X0 hx (hb hby d1_51) rfl rfl ?_
  refine Own.iload 54 X0 hx (hb hby d1_52) rfl rfl ?_
  refine Own.i2l 55 X0 hx (hb hby d1_54) rfl (Own.Zi_l (by omega)) ?_
  refine Own.ladd 56 X0 hx (hb hby d1_55) rfl (Own.Zl_add _ _) ?_
  refine Own.lstoreNV 57 #[.val (.ref a), .val (.int (4 : Int32)), .val (.long (Own.Zl ((((0 + y0) + y1) + y2) + y3))), .second, .val (.ref a), .val (.int (4 : Int32)), .val (.int (3 : Int32)), .val (.int (Own.Zi (y3))), .unset, .unset, .unset, .unset, .unset, .unset] X0 hx (hb hby d1_56) rfl rfl ?_
  refine Own.iinc 60 (fun c_4 => #[.val (.ref a), .val (.int (4 : Int32)), .val (.long (Own.Zl ((((0 + y0) + y1) + y2) + y3))), .second, .val (.ref a), .val (.int (4 : Int32)), .val (.int c_4), .val (.int (Own.Zi (y3))), .unset, .unset, .unset, .unset, .unset, .unset]) X0 hx ((1 : Int32)) (hb hby d1_57) rfl rfl rfl (fun _ => rfl) fun c_4 hc_4 => ?_
  obtain rfl : c_4 = (4 : Int32) := hc_4.trans (by decide)
  refine Own.goto 37 X0 hx (hb hby d1_60) (by decide) ?_
  refine Own.iload 39 X0 hx (hb hby d1_37) rfl rfl ?_
  refine Own.iload 41 X0 hx (hb hby d1_39) rfl rfl ?_
  refine Own.icmp_ge 63 44 X0 hx (hb hby d1_41) (by decide) rfl (fun tk => ?_) (fun tk => absurd tk (by decide))
  refine Own.lloadN 64 X0 hx (hb hby d1_63) rfl rfl ?_
  have Dl5 : own_Dy 0 ((((0 + y0) + y1) + y2) + y3) (FP.l2d (Own.Zl ((((0 + y0) + y1) + y2) + y3))) := own_dyZ (by omega)
  refine Own.l2d 65 X0 hx (hb hby d1_64) rfl rfl ?_
  refine Own.iloadN 66 X0 hx (hb hby d1_65) rfl rfl ?_
  have Di6 : own_Dy 0 (4) (FP.i2d (4 : Int32)) := own_dy_c rfl (by decide)
  refine Own.i2d 67 X0 hx (hb hby d1_66) rfl rfl ?_
  have Dv7 : own_Dy 2 ((((0 + y0) + y1) + y2) + y3) (FP.ddiv (FP.l2d (Own.Zl ((((0 + y0) + y1) + y2) + y3))) (FP.i2d (4 : Int32))) := own_dy_div Dl5 Di6 (by omega) (by show ((((0 + y0) + y1) + y2) + y3) * 4 = ((((0 + y0) + y1) + y2) + y3) * (4) * 1; omega) (own_nB (by omega)) (by decide)
  refine Own.ddiv 68 X0 hx (hb hby d1_67) rfl (own_dy_nn Dv7) ?_
  refine Own.dstore 70 (fun u8 => #[.val (.ref a), .val (.int (4 : Int32)), .val (.long (Own.Zl ((((0 + y0) + y1) + y2) + y3))), .second, .val (.double u8), .second, .val (.int (4 : Int32)), .val (.int (Own.Zi (y3))), .unset, .unset, .unset, .unset, .unset, .unset]) X0 hx (hb hby d1_68) rfl (fun _ => rfl) fun u8 hu8 => ?_
  have Du8 : own_Dy 2 ((((0 + y0) + y1) + y2) + y3) u8 := by rw [hu8]; exact Dv7
  refine Own.dconst0 71 X0 hx (hb hby d1_70) rfl ?_
  refine Own.dstore 73 (fun u9 => #[.val (.ref a), .val (.int (4 : Int32)), .val (.long (Own.Zl ((((0 + y0) + y1) + y2) + y3))), .second, .val (.double u8), .second, .val (.double u9), .second, .unset, .unset, .unset, .unset, .unset, .unset]) X0 hx (hb hby d1_71) rfl (fun _ => rfl) fun u9 hu9 => ?_
  have Du9 : ∀ k, own_Dy k 0 u9 := by rw [hu9]; exact own_dy_0
  refine Own.aloadN 74 X0 hx (hb hby d1_73) rfl rfl rfl ?_
  refine Own.astore 76 #[.val (.ref a), .val (.int (4 : Int32)), .val (.long (Own.Zl ((((0 + y0) + y1) + y2) + y3))), .second, .val (.double u8), .second, .val (.double u9), .second, .val (.ref a), .unset, .unset, .unset, .unset, .unset] X0 hx (hb hby d1_74) rfl rfl rfl ?_
  refine Own.aload 78 X0 hx (hb hby d1_76) rfl rfl rfl ?_
  refine Own.arrLen 79 X0 hx hZ e0 V_a (hb hby d1_78) rfl ?_
  refine Own.istoreV 81 #[.val (.ref a), .val (.int (4 : Int32)), .val (.long (Own.Zl ((((0 + y0) + y1) + y2) + y3))), .second, .val (.double u8), .second, .val (.double u9), .second, .val (.ref a), .val (.int (4 : Int32)), .unset, .unset, .unset, .unset] X0 hx (hb hby d1_79) rfl rfl ?_
  refine Own.iconst 82 X0 hx ((0 : Int32)) (hb hby d1_81) rfl rfl ?_
  refine Own.istoreV 84 #[.val (.ref a), .val (.int (4 : Int32)), .val (.long (Own.Zl ((((0 + y0) + y1) + y2) + y3))), .second, .val (.double u8), .second, .val (.double u9), .second, .val (.ref a), .val (.int (4 : Int32)), .val (.int (0 : Int32)), .unset, .unset, .unset] X0 hx (hb hby d1_82) rfl rfl ?_
  refine Own.iload 86 X0 hx (hb hby d1_84) rfl rfl ?_
  refine Own.iload 88 X0 hx (hb hby d1_86) rfl rfl ?_
  refine Own.icmp_ge 122 91 X0 hx (hb hby d1_88) (by decide) rfl (fun tk => absurd tk (by decide)) (fun tk => ?_)
  refine Own.aload 93 X0 hx (hb hby d1_91) rfl rfl rfl ?_
  refine Own.iload 95 X0 hx (hb hby d1_93) rfl rfl ?_
  refine Own.iaload 96 X0 hx hZ e0 (Own.Zi (y0)) V_a (by decide) rfl (hb hby d1_95) rfl ?_
  refine Own.istoreV 98 #[.val (.ref a), .val (.int (4 : Int32)), .val (.long (Own.Zl ((((0 + y0) + y1) + y2) + y3))), .second, .val (.double u8), .second, .val (.double u9), .second, .val (.ref a), .val (.int (4 : Int32)), .val (.int (0 : Int32)), .val (.int (Own.Zi (y0))), .unset, .unset] X0 hx (hb hby d1_96) rfl rfl ?_
  refine Own.iload 100 X0 hx (hb hby d1_98) rfl rfl ?_
  have Di10 : own_Dy 0 (y0) (FP.i2d (Own.Zi (y0))) := own_dyZi (by omega)
  refine Own.i2d 101 X0 hx (hb hby d1_100) rfl rfl ?_
  refine Own.dload 103 X0 hx (hb hby d1_101) rfl rfl ?_
  have Da11 : own_Dy 2 ((4 * y0) - ((((0 + y0) + y1) + y2) + y3)) (FP.dsub (FP.i2d (Own.Zi (y0))) u8) := own_dy_sub (own_dy_up2 Di10) Du8 (own_nB (by omega)) (by decide)
  rw [show (4 * y0) - ((((0 + y0) + y1) + y2) + y3) = c0 from by omega] at Da11
  refine Own.dsub 104 X0 hx (hb hby d1_103) rfl (own_dy_nn Da11) ?_
  refine Own.dstore 106 (fun u12 => #[.val (.ref a), .val (.int (4 : Int32)), .val (.long (Own.Zl ((((0 + y0) + y1) + y2) + y3))), .second, .val (.double u8), .second, .val (.double u9), .second, .val (.ref a), .val (.int (4 : Int32)), .val (.int (0 : Int32)), .val (.int (Own.Zi (y0))), .val (.double u12), .second]) X0 hx (hb hby d1_104) rfl (fun _ => rfl) fun u12 hu12 => ?_
  have Du12 : own_Dy 2 (c0) u12 := by rw [hu12]; exact Da11
  refine Own.dload 108 X0 hx (hb hby d1_106) rfl rfl ?_
  refine Own.dload 110 X0 hx (hb hby d1_108) rfl rfl ?_
  refine Own.dload 112 X0 hx (hb hby d1_110) rfl rfl ?_
  have Dm13 : own_Dy 4 (c0 * c0) (FP.dmul u12 u12) := own_dy_mul Du12 Du12 (own_nB (by omega)) (by decide)
  refine Own.dmul 113 X0 hx (hb hby d1_112) rfl (own_dy_nn Dm13) ?_
  have Da14 : own_Dy 4 (0 + (c0 * c0)) (FP.dadd u9 (FP.dmul u12 u12)) := own_dy_add (Du9 4) Dm13 (own_nB (by omega)) (by decide)
  refine Own.dadd 114 X0 hx (hb hby d1_113) rfl (own_dy_nn Da14) ?_
  refine Own.dstore 116 (fun u15 => #[.val (.ref a), .val (.int (4 : Int32)), .val (.long (Own.Zl ((((0 + y0) + y1) + y2) + y3))), .second, .val (.double u8), .second, .val (.double u15), .second, .val (.ref a), .val (.int (4 : Int32)), .val (.int (0 : Int32)), .val (.int (Own.Zi (y0))), .val (.double u12), .second]) X0 hx (hb hby d1_114) rfl (fun _ => rfl) fun u15 hu15 => ?_
  have Du15 : own_Dy 4 (0 + (c0 * c0)) u15 := by rw [hu15]; exact Da14
  refine Own.iinc 119 (fun c_16 => #[.val (.ref a), .val (.int (4 : Int32)), .val (.long (Own.Zl ((((0 + y0) + y1) + y2) + y3))), .second, .val (.double u8), .second, .val (.double u15), .second, .val (.ref a), .val (.int (4 : Int32)), .val (.int c_16), .val (.int (Own.Zi (y0))), .val (.double u12), .second]) X0 hx ((1 : Int32)) (hb hby d1_116) rfl rfl rfl (fun _ => rfl) fun c_16 hc_16 => ?_
  obtain rfl : c_16 = (1 : Int32) := hc_16.trans (by decide)
  refine Own.goto 84 X0 hx (hb hby d1_119) (by decide) ?_
  refine Own.iload 86 X0 hx (hb hby d1_84) rfl rfl ?_
  refine Own.iload 88 X0 hx (hb hby d1_86) rfl rfl ?_
  refine Own.icmp_ge 122 91 X0 hx (hb hby d1_88) (by decide) rfl (fun tk => absurd tk (by decide)) (fun tk => ?_)
  refine Own.aload 93 X0 hx (hb hby d1_91) rfl rfl rfl ?_
  refine Own.iload 95 X0 hx (hb hby d1_93) rfl rfl ?_
  refine Own.iaload 96 X0 hx hZ e0 (Own.Zi (y1)) V_a (by decide) rfl (hb hby d1_95) rfl ?_
  refine Own.istoreV 98 #[.val (.ref a), .val (.int (4 : Int32)), .val (.long (Own.Zl ((((0 + y0) + y1) + y2) + y3))), .second, .val (.double u8), .second, .val (.double u15), .second, .val (.ref a), .val (.int (4 : Int32)), .val (.int (1 : Int32)), .val (.int (Own.Zi (y1))), .val (.double u12), .second] X0 hx (hb hby d1_96) rfl rfl ?_
  refine Own.iload 100 X0 hx (hb hby d1_98) rfl rfl ?_
  have Di17 : own_Dy 0 (y1) (FP.i2d (Own.Zi (y1))) := own_dyZi (by omega)
  refine Own.i2d 101 X0 hx (hb hby d1_100) rfl rfl ?_
  refine Own.dload 103 X0 hx (hb hby d1_101) rfl rfl ?_
  have Da18 : own_Dy 2 ((4 * y1) - ((((0 + y0) + y1) + y2) + y3)) (FP.dsub (FP.i2d (Own.Zi (y1))) u8) := own_dy_sub (own_dy_up2 Di17) Du8 (own_nB (by omega)) (by decide)
  rw [show (4 * y1) - ((((0 + y0) + y1) + y2) + y3) = c1 from by omega] at Da18
  refine Own.dsub 104 X0 hx (hb hby d1_103) rfl (own_dy_nn Da18) ?_
  refine Own.dstore 106 (fun u19 => #[.val (.ref a), .val (.int (4 : Int32)), .val (.long (Own.Zl ((((0 + y0) + y1) + y2) + y3))), .second, .val (.double u8), .second, .val (.double u15), .second, .val (.ref a), .val (.int (4 : Int32)), .val (.int (1 : Int32)), .val (.int (Own.Zi (y1))), .val (.double u19), .second]) X0 hx (hb hby d1_104) rfl (fun _ => rfl) fun u19 hu19 => ?_
  have Du19 : own_Dy 2 (c1) u19 := by rw [hu19]; exact Da18
  refine Own.dload 108 X0 hx (hb hby d1_106) rfl rfl ?_
  refine Own.dload 110 X0 hx (hb hby d1_108) rfl rfl ?_
  refine Own.dload 112 X0 hx (hb hby d1_110) rfl rfl ?_
  have Dm20 : own_Dy 4 (c1 * c1) (FP.dmul u19 u19) := own_dy_mul Du19 Du19 (own_nB (by omega)) (by decide)
  refine Own.dmul 113 X0 hx (hb hby d1_112) rfl (own_dy_nn Dm20) ?_
  have Da21 : own_Dy 4 ((0 + (c0 * c0)) + (c1 * c1)) (FP.dadd u15 (FP.dmul u19 u19)) := own_dy_add Du15 Dm20 (own_nB (by omega)) (by decide)
  refine Own.dadd 114 X0 hx (hb hby d1_113) rfl (own_dy_nn Da21) ?_
  refine Own.dstore 116 (fun u22 => #[.val (.ref a), .val (.int (4 : Int32)), .val (.long (Own.Zl ((((0 + y0) + y1) + y2) + y3))), .second, .val (.double u8), .second, .val (.double u22), .second, .val (.ref a), .val (.int (4 : Int32)), .val (.int (1 : Int32)), .val (.int (Own.Zi (y1))), .val (.double u19), .second]) X0 hx (hb hby d1_114) rfl (fun _ => rfl) fun u22 hu22 => ?_
  have Du22 : own_Dy 4 ((0 + (c0 * c0)) + (c1 * c1)) u22 := by rw [hu22]; exact Da21
  refine Own.iinc 119 (fun c_23 => #[.val (.ref a), .val (.int (4 : Int32)), .val (.long (Own.Zl ((((0 + y0) + y1) + y2) + y3))), .second, .val (.double u8), .second, .val (.double u22), .second, .val (.ref a), .val (.int (4 : Int32)), .val (.int c_23), .val (.int (Own.Zi (y1))), .val (.double u19), .second]) X0 hx ((1 : Int32)) (hb hby d1_116) rfl rfl rfl (fun _ => rfl) fun c_23 hc_23 => ?_
  obtain rfl : c_23 = (2 : Int32) := hc_23.trans (by decide)
  refine Own.goto 84 X0 hx (hb hby d1_119) (by decide) ?_
  refine Own.iload 86 X0 hx (hb hby d1_84) rfl rfl ?_
  refine Own.iload 88 X0 hx (hb hby d1_86) rfl rfl ?_
  refine Own.icmp_ge 122 91 X0 hx (hb hby d1_88) (by decide) rfl (fun tk => absurd tk (by decide)) (fun tk => ?_)
  refine Own.aload 93 X0 hx (hb hby d1_91) rfl rfl rfl ?_
  refine Own.iload 95 X0 hx (hb hby d1_93) rfl rfl ?_
  refine Own.iaload 96 X0 hx hZ e0 (Own.Zi (y2)) V_a (by decide) rfl (hb hby d1_95) rfl ?_
  refine Own.istoreV 98 #[.val (.ref a), .val (.int (4 : Int32)), .val (.long (Own.Zl ((((0 + y0) + y1) + y2) + y3))), .second, .val (.double u8), .second, .val (.double u22), .second, .val (.ref a), .val (.int (4 : Int32)), .val (.int (2 : Int32)), .val (.int (Own.Zi (y2))), .val (.double u19), .second] X0 hx (hb hby d1_96) rfl rfl ?_
  refine Own.iload 100 X0 hx (hb hby d1_98) rfl rfl ?_
  have Di24 : own_Dy 0 (y2) (FP.i2d (Own.Zi (y2))) := own_dyZi (by omega)
  refine Own.i2d 101 X0 hx (hb hby d1_100) rfl rfl ?_
  refine Own.dload 103 X0 hx (hb hby d1_101) rfl rfl ?_
  have Da25 : own_Dy 2 ((4 * y2) - ((((0 + y0) + y1) + y2) + y3)) (FP.dsub (FP.i2d (Own.Zi (y2))) u8) := own_dy_sub (own_dy_up2 Di24) Du8 (own_nB (by omega)) (by decide)
  rw [show (4 * y2) - ((((0 + y0) + y1) + y2) + y3) = c2 from by omega] at Da25
  refine Own.dsub 104 X0 hx (hb hby d1_103) rfl (own_dy_nn Da25) ?_
  refine Own.dstore 106 (fun u26 => #[.val (.ref a), .val (.int (4 : Int32)), .val (.long (Own.Zl ((((0 + y0) + y1) + y2) + y3))), .second, .val (.double u8), .second, .val (.double u22), .second, .val (.ref a), .val (.int (4 : Int32)), .val (.int (2 : Int32)), .val (.int (Own.Zi (y2))), .val (.double u26), .second]) X0 hx (hb hby d1_104) rfl (fun _ => rfl) fun u26 hu26 => ?_
  have Du26 : own_Dy 2 (c2) u26 := by rw [hu26]; exact Da25
  refine Own.dload 108 X0 hx (hb hby d1_106) rfl rfl ?_
  refine Own.dload 110 X0 hx (hb hby d1_108) rfl rfl ?_
  refine Own.dload 112 X0 hx (hb hby d1_110) rfl rfl ?_
  have Dm27 : own_Dy 4 (c2 * c2) (FP.dmul u26 u26) := own_dy_mul Du26 Du26 (own_nB (by omega)) (by decide)
  refine Own.dmul 113 X0 hx (hb hby d1_112) rfl (own_dy_nn Dm27) ?_
  have Da28 : own_Dy 4 (((0 + (c0 * c0)) + (c1 * c1)) + (c2 * c2)) (FP.dadd u22 (FP.dmul u26 u26)) := own_dy_add Du22 Dm27 (own_nB (by omega)) (by decide)
  refine Own.dadd 114 X0 hx (hb hby d1_113) rfl (own_dy_nn Da28) ?_
  refine Own.dstore 116 (fun u29 => #[.val (.ref a), .val (.int (4 : Int32)), .val (.long (Own.Zl ((((0 + y0) + y1) + y2) + y3))), .second, .val (.double u8), .second, .val (.double u29), .second, .val (.ref a), .val (.int (4 : Int32)), .val (.int (2 : Int32)), .val (.int (Own.Zi (y2))), .val (.double u26), .second]) X0 hx (hb hby d1_114) rfl (fun _ => rfl) fun u29 hu29 => ?_
  have Du29 : own_Dy 4 (((0 + (c0 * c0)) + (c1 * c1)) + (c2 * c2)) u29 := by rw [hu29]; exact Da28
  refine Own.iinc 119 (fun c_30 => #[.val (.ref a), .val (.int (4 : Int32)), .val (.long (Own.Zl ((((0 + y0) + y1) + y2) + y3))), .second, .val (.double u8), .second, .val (.double u29), .second, .val (.ref a), .val (.int (4 : Int32)), .val (.int c_30), .val (.int (Own.Zi (y2))), .val (.double u26), .second]) X0 hx ((1 : Int32)) (hb hby d1_116) rfl rfl rfl (fun _ => rfl) fun c_30 hc_30 => ?_
  obtain rfl : c_30 = (3 : Int32) := hc_30.trans (by decide)
  refine Own.goto 84 X0 hx (hb hby d1_119) (by decide) ?_
  refine Own.iload 86 X0 hx (hb hby d1_84) rfl rfl ?_
  refine Own.iload 88 X0 hx (hb hby d1_86) rfl rfl ?_
  refine Own.icmp_ge 122 91 X0 hx (hb hby d1_88) (by decide) rfl (fun tk => absurd tk (by decide)) (fun tk => ?_)
  refine Own.aload 93 X0 hx (hb hby d1_91) rfl rfl rfl ?_
  refine Own.iload 95 X0 hx (hb hby d1_93) rfl rfl ?_
  refine Own.iaload 96 X0 hx hZ e0 (Own.Zi (y3)) V_a (by decide) rfl (hb hby d1_95) rfl ?_
  refine Own.istoreV 98 #[.val (.ref a), .val (.int (4 : Int32)), .val (.long (Own.Zl ((((0 + y0) + y1) + y2) + y3))), .second, .val (.double u8), .second, .val (.double u29), .second, .val (.ref a), .val (.int (4 : Int32)), .val (.int (3 : Int32)), .val (.int (Own.Zi (y3))), .val (.double u26), .second] X0 hx (hb hby d1_96) rfl rfl ?_
  refine Own.iload 100 X0 hx (hb hby d1_98) rfl rfl ?_
  have Di31 : own_Dy 0 (y3) (FP.i2d (Own.Zi (y3))) := own_dyZi (by omega)
  refine Own.i2d 101 X0 hx (hb hby d1_100) rfl rfl ?_
  refine Own.dload 103 X0 hx (hb hby d1_101) rfl rfl ?_
  have Da32 : own_Dy 2 ((4 * y3) - ((((0 + y0) + y1) + y2) + y3)) (FP.dsub (FP.i2d (Own.Zi (y3))) u8) := own_dy_sub (own_dy_up2 Di31) Du8 (own_nB (by omega)) (by decide)
  rw [show (4 * y3) - ((((0 + y0) + y1) + y2) + y3) = c3 from by omega] at Da32
  refine Own.dsub 104 X0 hx (hb hby d1_103) rfl (own_dy_nn Da32) ?_
  refine Own.dstore 106 (fun u33 => #[.val (.ref a), .val (.int (4 : Int32)), .val (.long (Own.Zl ((((0 + y0) + y1) + y2) + y3))), .second, .val (.double u8), .second, .val (.double u29), .second, .val (.ref a), .val (.int (4 : Int32)), .val (.int (3 : Int32)), .val (.int (Own.Zi (y3))), .val (.double u33), .second]) X0 hx (hb hby d1_104) rfl (fun _ => rfl) fun u33 hu33 => ?_
  have Du33 : own_Dy 2 (c3) u33 := by rw [hu33]; exact Da32
  refine Own.dload 108 X0 hx (hb hby d1_106) rfl rfl ?_
  refine Own.dload 110 X0 hx (hb hby d1_108) rfl rfl ?_
  refine Own.dload 112 X0 hx (hb hby d1_110) rfl rfl ?_
  have Dm34 : own_Dy 4 (c3 * c3) (FP.dmul u33 u33) := own_dy_mul Du33 Du33 (own_nB (by omega)) (by decide)
  refine Own.dmul 113 X0 hx (hb hby d1_112) rfl (own_dy_nn Dm34) ?_
  have Da35 : own_Dy 4 ((((0 + (c0 * c0)) + (c1 * c1)) + (c2 * c2)) + (c3 * c3)) (FP.dadd u29 (FP.dmul u33 u33)) := own_dy_add Du29 Dm34 (own_nB (by omega)) (by decide)
  refine Own.dadd 114 X0 hx (hb hby d1_113) rfl (own_dy_nn Da35) ?_
  refine Own.dstore 116 (fun u36 => #[.val (.ref a), .val (.int (4 : Int32)), .val (.long (Own.Zl ((((0 + y0) + y1) + y2) + y3))), .second, .val (.double u8), .second, .val (.double u36), .second, .val (.ref a), .val (.int (4 : Int32)), .val (.int (3 : Int32)), .val (.int (Own.Zi (y3))), .val (.double u33), .second]) X0 hx (hb hby d1_114) rfl (fun _ => rfl) fun u36 hu36 => ?_
  have Du36 : own_Dy 4 ((((0 + (c0 * c0)) + (c1 * c1)) + (c2 * c2)) + (c3 * c3)) u36 := by rw [hu36]; exact Da35
  refine Own.iinc 119 (fun c_37 => #[.val (.ref a), .val (.int (4 : Int32)), .val (.long (Own.Zl ((((0 + y0) + y1) + y2) + y3))), .second, .val (.double u8), .second, .val (.double u36), .second, .val (.ref a), .val (.int (4 : Int32)), .val (.int c_37), .val (.int (Own.Zi (y3))), .val (.double u33), .second]) X0 hx ((1 : Int32)) (hb hby d1_116) rfl rfl rfl (fun _ => rfl) fun c_37 hc_37 => ?_
  obtain rfl : c_37 = (4 : Int32) := hc_37.trans (by decide)
  refine Own.goto 84 X0 hx (hb hby d1_119) (by decide) ?_
  refine Own.iload 86 X0 hx (hb hby d1_84) rfl rfl ?_
  refine Own.iload 88 X0 hx (hb hby d1_86) rfl rfl ?_
  refine Own.icmp_ge 122 91 X0 hx (hb hby d1_88) (by decide) rfl (fun tk => ?_) (fun tk => absurd tk (by decide))
  refine Own.dload 124 X0 hx (hb hby d1_122) rfl rfl ?_
  refine Own.iloadN 125 X0 hx (hb hby d1_124) rfl rfl ?_
  refine Own.iconst 126 X0 hx ((1 : Int32)) (hb hby d1_125) rfl rfl ?_
  refine Own.isub 127 X0 hx (hb hby d1_126) rfl (show ((4 : Int32) - (1 : Int32)) = (3 : Int32) by decide) ?_
  have Di38 : own_Dy 0 (3) (FP.i2d (3 : Int32)) := own_dy_c rfl (by decide)
  refine Own.i2d 128 X0 hx (hb hby d1_127) rfl rfl ?_
  refine Own.ddiv 129 X0 hx (hb hby d1_128) rfl (own_div_nn Du36 Di38 (by omega)) ?_
  refine Own.retDbl X0 hx hlk hret (hb hby d1_129) (by decide) (by decide) ?_
  exact ⟨u36, rfl, Du36, e0, rfl⟩
set_option maxRecDepth 65536 in
set_option maxHeartbeats 40000000 in
theorem m0 (l : Launch) (Z : State) (a0 : Array Value) (w : ∀ (i : Nat) {d : Jvm.Cond}, tables_1[i]? = some d → d.before a0 Z = true) (x0 : Int32) (x1 : Int32) (x2 : Int32) (x3 : Int32) (x4 : Int32) (x5 : Int32)  (h0 : Heap) (n0 : Nat) (Z0 : n0 ≤ h0.size) :
    Own.Met l Z x code maxLocals ret tables_1 room_1 #[(.int x0), (.int x1), (.int x2), (.int x3), (.int x4), (.int x5)] h0 (fun v h L => v = some (.int 1) ∧ Fr n0 L) := by
  refine Own.Met.of (plainFor_of_name (by first | (simp [plainName, overriddenIn]; done) | decide +kernel)) ?_
  intro p e s m below meth c T0 hx hby hml hown hnm hret hlk hZ X0 e0
  have hown : s.vm.findClass "com/example/skuld/skuld/team/ParallelismOfPinLaw" = some m.cls := hown
  have hml : c.maxLocals = 31 := hml
  have hnm : meth.name = "law" := hnm
  have hret : meth.sig.returnType = some .boolean := hret
  have ef : entryFrame m #[(.int x0), (.int x1), (.int x2), (.int x3), (.int x4), (.int x5)] maxLocals = mkF m 0 #[.val (.int x0), .val (.int x1), .val (.int x2), .val (.int x3), .val (.int x4), .val (.int x5), .unset, .unset, .unset, .unset, .unset, .unset, .unset, .unset, .unset, .unset, .unset, .unset, .unset, .unset, .unset, .unset, .unset, .unset, .unset, .unset, .unset, .unset, .unset, .unset, .unset] [] := by first | (simp [entryFrame, mkF, argsToLocals, Value.category, maxLocals]; done) | rfl
  rw [ef]
  have N0 := Fr.nil n0
  obtain ⟨b1, eb1, lb1, gb1⟩ := own_mz x2
  obtain ⟨b2, eb2, lb2, gb2⟩ := own_mz x3
  obtain ⟨b3, eb3, lb3, gb3⟩ := own_mz x4
  obtain ⟨b4, eb4, lb4, gb4⟩ := own_mz x5
  have rz := Own.Zi_rng x1
  rcases own_four x0 with qn | qn | qn | qn
  ·
    refine Own.iloadN 1 X0 hx (hb hby at_0) rfl rfl ?_
    refine Own.iconst 2 X0 hx ((3 : Int32)) (hb hby at_1) rfl rfl ?_
    refine Own.iand 3 X0 hx (hb hby at_2) rfl rfl ?_
    refine Own.iconst 4 X0 hx ((1 : Int32)) (hb hby at_3) rfl rfl ?_
    refine Own.iadd 5 X0 hx (hb hby at_4) rfl qn ?_
    refine Own.istoreV 7 #[.val (.int x0), .val (.int x1), .val (.int x2), .val (.int x3), .val (.int x4), .val (.int x5), .val (.int (1 : Int32)), .unset, .unset, .unset, .unset, .unset, .unset, .unset, .unset, .unset, .unset, .unset, .unset, .unset, .unset, .unset, .unset, .unset, .unset, .unset, .unset, .unset, .unset, .unset, .unset] X0 hx (hb hby at_5) rfl rfl ?_
    refine Own.iloadN 8 X0 hx (hb hby at_7) rfl rfl ?_
    refine Own.ldcInt 10 X0 hx hZ ((4194303 : Int32)) hown (w 0 rfl) (hb hby at_8) rfl ?_
    refine Own.iand 11 X0 hx (hb hby at_10) rfl eb1 ?_
    refine Own.i2l 12 X0 hx (hb hby at_11) rfl (Own.Zi_l (by omega)) ?_
    refine Own.lstoreV 14 #[.val (.int x0), .val (.int x1), .val (.int x2), .val (.int x3), .val (.int x4), .val (.int x5), .val (.int (1 : Int32)), .val (.long (Own.Zl (b1))), .second, .unset, .unset, .unset, .unset, .unset, .unset, .unset, .unset, .unset, .unset, .unset, .unset, .unset, .unset, .unset, .unset, .unset, .unset, .unset, .unset, .unset, .unset] X0 hx (hb hby at_12) rfl rfl ?_
    refine Own.iloadN 15 X0 hx (hb hby at_14) rfl rfl ?_
    refine Own.ldcInt 17 X0 hx hZ ((4194303 : Int32)) hown (w 0 rfl) (hb hby at_15) rfl ?_
    refine Own.iand 18 X0 hx (hb hby at_17) rfl eb2 ?_
    refine Own.i2l 19 X0 hx (hb hby at_18) rfl (Own.Zi_l (by omega)) ?_
    refine Own.lstoreV 21 #[.val (.int x0), .val (.int x1), .val (.int x2), .val (.int x3), .val (.int x4), .val (.int x5), .val (.int (1 : Int32)), .val (.long (Own.Zl (b1))), .second, .val (.long (Own.Zl (b2))), .second, .unset, .unset, .unset, .unset, .unset, .unset, .unset, .unset, .unset, .unset, .unset, .unset, .unset, .unset, .unset, .unset, .unset, .unset, .unset, .unset] X0 hx (hb hby at_19) rfl rfl ?_
    refine Own.iload 23 X0 hx (hb hby at_21) rfl rfl ?_
    refine Own.ldcInt 25 X0 hx hZ ((4194303 : Int32)) hown (w 0 rfl) (hb hby at_23) rfl ?_
    refine Own.iand 26 X0 hx (hb hby at_25) rfl eb3 ?_
    refine Own.i2l 27 X0 hx (hb hby at_26) rfl (Own.Zi_l (by omega)) ?_
    refine Own.lstoreV 29 #[.val (.int x0), .val (.int x1), .val (.int x2), .val (.int x3), .val (.int x4), .val (.int x5), .val (.int (1 : Int32)), .val (.long (Own.Zl (b1))), .second, .val (.long (Own.Zl (b2))), .second, .val (.long (Own.Zl (b3))), .second, .unset, .unset, .unset, .unset, .unset, .unset, .unset, .unset, .unset, .unset, .unset, .unset, .unset, .unset, .unset, .unset, .unset, .unset] X0 hx (hb hby at_27) rfl rfl ?_
    refine Own.iload 31 X0 hx (hb hby at_29) rfl rfl ?_
    refine Own.ldcInt 33 X0 hx hZ ((4194303 : Int32)) hown (w 0 rfl) (hb hby at_31) rfl ?_
    refine Own.iand 34 X0 hx (hb hby at_33) rfl eb4 ?_
    refine Own.i2l 35 X0 hx (hb hby at_34) rfl (Own.Zi_l (by omega)) ?_
    refine Own.lstoreV 37 #[.val (.int x0), .val (.int x1), .val (.int x2), .val (.int x3), .val (.int x4), .val (.int x5), .val (.int (1 : Int32)), .val (.long (Own.Zl (b1))), .second, .val (.long (Own.Zl (b2))), .second, .val (.long (Own.Zl (b3))), .second, .val (.long (Own.Zl (b4))), .second, .unset, .unset, .unset, .unset, .unset, .unset, .unset, .unset, .unset, .unset, .unset, .unset, .unset, .unset, .unset, .unset] X0 hx (hb hby at_35) rfl rfl ?_
    refine Own.iload 39 X0 hx (hb hby at_37) rfl rfl ?_
    refine Own.iconst 40 X0 hx ((1 : Int32)) (hb hby at_39) rfl rfl ?_
    refine Own.icmp_ne 64 43 X0 hx (hb hby at_40) (by decide) rfl (fun tk => absurd tk (by decide)) (fun tk => ?_)
    refine Own.iconst 44 X0 hx ((1 : Int32)) (hb hby at_43) rfl rfl ?_
    refine Own.newArr 46 1 X0 hx hZ (w 1 rfl) e0 (by decide) (by decide) (by decide) (hb hby at_44) rfl (by decide) (by decide) ?_
    intro T1 h1 ar k1 z1 X1 e1 E1 A1
    have g_ar : n0 ≤ ar := Nat.le_trans Z0 (Nat.le_of_eq z1.symm)
    have zl1 := Nat.le_trans Z0 E1.1
    have V1 : Arv Z h1 ar k1 .int (1 : Int32) [(.int (0 : Int32))] (.int (0 : Int32)) := A1
    refine Own.dup 47 X1 hx (hb hby at_46) rfl rfl ?_
    refine Own.iconst 48 X1 hx ((0 : Int32)) (hb hby at_47) rfl rfl ?_
    refine Own.iloadN 49 X1 hx (hb hby at_48) rfl rfl ?_
    refine Own.iastore 50 X1 hx hZ e1 V1 (by decide) (Nat.le_of_ble_eq_true rfl) (hb hby at_49) rfl ?_
    intro T3 h3 X3 e3 W3 A3
    have N3 := Fr.snoc X3 N0 g_ar
    have zl3 := Nat.le_trans zl1 (Nat.le_of_eq W3.size.symm)
    have V3 : Arv Z h3 ar k1 .int (1 : Int32) [(.int x1)] (.int (0 : Int32)) := A3
    refine Own.callSt 53 0 [(.ref ar)] [] X3 hx hZ hown (m1_1 l Z a0 w ar k1 x1 _ V3) (w 2 rfl) (w 3 rfl) (w 4 rfl) (w 5 rfl) (by decide) e3 (by decide) (by decide) (by decide) (by decide) (by rw [hml]; rfl) (lenOf pd_0 rfl) rfl (Nat.le_of_eq rfl) (hb hby at_50) rfl ?_
    rintro vv T6 L6 X6 ⟨rfl, hh6, rfl⟩
    have N6 := Fr.app N3 (Fr.nil _)
    refine Own.dconst0 54 X6 hx (hb hby at_53) rfl ?_
    refine Own.dcmp 55 X6 hx (0 : Int32) (hb hby at_54) rfl (own_dy_eq (own_dy_0 0) (own_dy_0 0) rfl _) ?_
    refine Own.if_ne 62 58 X6 hx (hb hby at_55) (by decide) rfl (fun tk => absurd tk (by decide)) (fun tk => ?_)
    refine Own.iconst 59 X6 hx ((1 : Int32)) (hb hby at_58) rfl rfl ?_
    refine Own.goto 63 X6 hx (hb hby at_59) (by decide) ?_
    refine Own.retBool X6 hx hlk hret (hb hby at_63) (by decide) (by decide) ?_
    exact ⟨rfl, N6⟩
  ·
    refine Own.iloadN 1 X0 hx (hb hby at_0) rfl rfl ?_
    refine Own.iconst 2 X0 hx ((3 : Int32)) (hb hby at_1) rfl rfl ?_
    refine Own.iand 3 X0 hx (hb hby at_2) rfl rfl ?_
    refine Own.iconst 4 X0 hx ((1 : Int32)) (hb hby at_3) rfl rfl ?_
    refine Own.iadd 5 X0 hx (hb hby at_4) rfl qn ?_
    refine Own.istoreV 7 #[.val (.int x0), .val (.int x1), .val (.int x2), .val (.int x3), .val (.int x4), .val (.int x5), .val (.int (2 : Int32)), .unset, .unset, .unset, .unset, .unset, .unset, .unset, .unset, .unset, .unset, .unset, .unset, .unset, .unset, .unset, .unset, .unset, .unset, .unset, .unset, .unset, .unset, .unset, .unset] X0 hx (hb hby at_5) rfl rfl ?_
    refine Own.iloadN 8 X0 hx (hb hby at_7) rfl rfl ?_
    refine Own.ldcInt 10 X0 hx hZ ((4194303 : Int32)) hown (w 0 rfl) (hb hby at_8) rfl ?_
    refine Own.iand 11 X0 hx (hb hby at_10) rfl eb1 ?_
    refine Own.i2l 12 X0 hx (hb hby at_11) rfl (Own.Zi_l (by omega)) ?_
    refine Own.lstoreV 14 #[.val (.int x0), .val (.int x1), .val (.int x2), .val (.int x3), .val (.int x4), .val (.int x5), .val (.int (2 : Int32)), .val (.long (Own.Zl (b1))), .second, .unset, .unset, .unset, .unset, .unset, .unset, .unset, .unset, .unset, .unset, .unset, .unset, .unset, .unset, .unset, .unset, .unset, .unset, .unset, .unset, .unset, .unset] X0 hx (hb hby at_12) rfl rfl ?_
    refine Own.iloadN 15 X0 hx (hb hby at_14) rfl rfl ?_
    refine Own.ldcInt 17 X0 hx hZ ((4194303 : Int32)) hown (w 0 rfl) (hb hby at_15) rfl ?_
    refine Own.iand 18 X0 hx (hb hby at_17) rfl eb2 ?_
    refine Own.i2l 19 X0 hx (hb hby at_18) rfl (Own.Zi_l (by omega)) ?_
    refine Own.lstoreV 21 #[.val (.int x0), .val (.int x1), .val (.int x2), .val (.int x3), .val (.int x4), .val (.int x5), .val (.int (2 : Int32)), .val (.long (Own.Zl (b1))), .second, .val (.long (Own.Zl (b2))), .second, .unset, .unset, .unset, .unset, .unset, .unset, .unset, .unset, .unset, .unset, .unset, .unset, .unset, .unset, .unset, .unset, .unset, .unset, .unset, .unset] X0 hx (hb hby at_19) rfl rfl ?_
    refine Own.iload 23 X0 hx (hb hby at_21) rfl rfl ?_
    refine Own.ldcInt 25 X0 hx hZ ((4194303 : Int32)) hown (w 0 rfl) (hb hby at_23) rfl ?_
    refine Own.iand 26 X0 hx (hb hby at_25) rfl eb3 ?_
    refine Own.i2l 27 X0 hx (hb hby at_26) rfl (Own.Zi_l (by omega)) ?_
    refine Own.lstoreV 29 #[.val (.int x0), .val (.int x1), .val (.int x2), .val (.int x3), .val (.int x4), .val (.int x5), .val (.int (2 : Int32)), .val (.long (Own.Zl (b1))), .second, .val (.long (Own.Zl (b2))), .second, .val (.long (Own.Zl (b3))), .second, .unset, .unset, .unset, .unset, .unset, .unset, .unset, .unset, .unset, .unset, .unset, .unset, .unset, .unset, .unset, .unset, .unset, .unset] X0 hx (hb hby at_27) rfl rfl ?_
    refine Own.iload 31 X0 hx (hb hby at_29) rfl rfl ?_
    refine Own.ldcInt 33 X0 hx hZ ((4194303 : Int32)) hown (w 0 rfl) (hb hby at_31) rfl ?_
    refine Own.iand 34 X0 hx (hb hby at_33) rfl eb4 ?_
    have s2 := own_sq (x := b1 - b2) (B := 4194304) (by omega)
    refine Own.i2l 35 X0 hx (hb hby at_34) rfl (Own.Zi_l (by omega)) ?_
    refine Own.lstoreV 37 #[.val (.int x0), .val (.int x1), .val (.int x2), .val (.int x3), .val (.int x4), .val (.int x5), .val (.int (2 : Int32)), .val (.long (Own.Zl (b1))), .second, .val (.long (Own.Zl (b2))), .second, .val (.long (Own.Zl (b3))), .second, .val (.long (Own.Zl (b4))), .second, .unset, .unset, .unset, .unset, .unset, .unset, .unset, .unset, .unset, .unset, .unset, .unset, .unset, .unset, .unset, .unset] X0 hx (hb hby at_35) rfl rfl ?_
    refine Own.iload 39 X0 hx (hb hby at_37) rfl rfl ?_
    refine Own.iconst 40 X0 hx ((1 : Int32)) (hb hby at_39) rfl rfl ?_
    refine Own.icmp_ne 64 43 X0 hx (hb hby at_40) (by decide) rfl (fun tk => ?_) (fun tk => absurd tk (by decide))
    refine Own.iload 66 X0 hx (hb hby at_64) rfl rfl ?_
    refine Own.iconst 67 X0 hx ((2 : Int32)) (hb hby at_66) rfl rfl ?_
    refine Own.icmp_ne 125 70 X0 hx (hb hby at_67) (by decide) rfl (fun tk => absurd tk (by decide)) (fun tk => ?_)
    refine Own.lload 72 X0 hx (hb hby at_70) rfl rfl ?_
    refine Own.lload 74 X0 hx (hb hby at_72) rfl rfl ?_
    refine Own.lsub 75 X0 hx (hb hby at_74) rfl (Own.Zl_sub _ _) ?_
    obtain ⟨g7, hg7⟩ : ∃ g7 : Int, g7 = b1 - b2 := ⟨_, rfl⟩
    rw [← hg7]
    refine Own.lstoreV 77 #[.val (.int x0), .val (.int x1), .val (.int x2), .val (.int x3), .val (.int x4), .val (.int x5), .val (.int (2 : Int32)), .val (.long (Own.Zl (b1))), .second, .val (.long (Own.Zl (b2))), .second, .val (.long (Own.Zl (b3))), .second, .val (.long (Own.Zl (b4))), .second, .val (.long (Own.Zl (g7))), .second, .unset, .unset, .unset, .unset, .unset, .unset, .unset, .unset, .unset, .unset, .unset, .unset, .unset, .unset] X0 hx (hb hby at_75) rfl rfl ?_
    have sq_g7 := own_sq (x := g7) (B := 16777216) (by omega)
    refine Own.lload 79 X0 hx (hb hby at_77) rfl rfl ?_
    refine Own.lload 81 X0 hx (hb hby at_79) rfl rfl ?_
    refine Own.lmul 82 X0 hx (hb hby at_81) rfl (Own.Zl_mul _ _) ?_
    have Dl8 : own_Dy 0 (g7 * g7) (FP.l2d (Own.Zl (g7 * g7))) := own_dyZ (by omega)
    refine Own.l2d 83 X0 hx (hb hby at_82) rfl rfl ?_
    refine Own.ldc2Dbl 86 X0 hx hZ (4611686018427387904 : UInt64) hown (w 6 rfl) (hb hby at_83) rfl ?_
    have Dc9 : own_Dy 0 2 (4611686018427387904 : UInt64) := own_dy_c (v := 2) (by decide +kernel) (by decide)
    have Dv10 : own_Dy 1 (g7 * g7) (FP.ddiv (FP.l2d (Own.Zl (g7 * g7))) (4611686018427387904 : UInt64)) := own_dy_div Dl8 Dc9 (by omega) (by show (g7 * g7) * 2 = (g7 * g7) * (2) * 1; omega) (own_nB (by omega)) (by decide)
    refine Own.ddiv 87 X0 hx (hb hby at_86) rfl (own_dy_nn Dv10) ?_
    refine Own.dstore 89 (fun u11 => #[.val (.int x0), .val (.int x1), .val (.int x2), .val (.int x3), .val (.int x4), .val (.int x5), .val (.int (2 : Int32)), .val (.long (Own.Zl (b1))), .second, .val (.long (Own.Zl (b2))), .second, .val (.long (Own.Zl (b3))), .second, .val (.long (Own.Zl (b4))), .second, .val (.long (Own.Zl (g7))), .second, .val (.double u11), .second, .unset, .unset, .unset, .unset, .unset, .unset, .unset, .unset, .unset, .unset, .unset, .unset]) X0 hx (hb hby at_87) rfl (fun _ => rfl) fun u11 hu11 => ?_
    have Du11 : own_Dy 1 (g7 * g7) u11 := by rw [hu11]; exact Dv10
    refine Own.iconst 90 X0 hx ((2 : Int32)) (hb hby at_89) rfl rfl ?_
    refine Own.newArr 92 2 X0 hx hZ (w 1 rfl) e0 (by decide) (by decide) (by decide) (hb hby at_90) rfl (by decide) (by decide) ?_
    intro T12 h12 ar k12 z12 X12 e12 E12 A12
    have g_ar : n0 ≤ ar := Nat.le_trans Z0 (Nat.le_of_eq z12.symm)
    have zl12 := Nat.le_trans Z0 E12.1
    have V12 : Arv Z h12 ar k12 .int (2 : Int32) [(.int (0 : Int32)), (.int (0 : Int32))] (.int (0 : Int32)) := A12
    refine Own.dup 93 X12 hx (hb hby at_92) rfl rfl ?_
    refine Own.iconst 94 X12 hx ((0 : Int32)) (hb hby at_93) rfl rfl ?_
    refine Own.iloadN 95 X12 hx (hb hby at_94) rfl rfl ?_
    refine Own.lload 97 X12 hx (hb hby at_95) rfl rfl ?_
    refine Own.callSt 100 3 [(.int x1), (.long (Own.Zl (b1)))] [(.int (0 : Int32)), (.ref ar), (.ref ar)] X12 hx hZ hown (m2 l Z a0 w x1 (b1) _ (by omega)) (w 7 rfl) (w 8 rfl) (w 9 rfl) (w 10 rfl) (by decide) e12 (by decide) (by decide) (by decide) (by decide) (by rw [hml]; rfl) (lenOf pd_1 rfl) rfl (Nat.le_of_eq rfl) (hb hby at_97) rfl ?_
    rintro vv T14 L14 X14 ⟨rfl, hh14, rfl⟩
    have N14 := Fr.app N0 (Fr.nil _)
    have tw_b1 := own_tw_s x1 b1
    refine Own.iastore 101 X14 hx hZ hh14 V12 (by decide) (Nat.le_of_ble_eq_true rfl) (hb hby at_100) rfl ?_
    intro T15 h15 X15 e15 W15 A15
    have N15 := Fr.snoc X15 N14 g_ar
    have zl15 := Nat.le_trans zl12 (Nat.le_of_eq W15.size.symm)
    have V15 : Arv Z h15 ar k12 .int (2 : Int32) [(.int (Own.Zi (own_tw x1 b1))), (.int (0 : Int32))] (.int (0 : Int32)) := A15
    refine Own.dup 102 X15 hx (hb hby at_101) rfl rfl ?_
    refine Own.iconst 103 X15 hx ((1 : Int32)) (hb hby at_102) rfl rfl ?_
    refine Own.iloadN 104 X15 hx (hb hby at_103) rfl rfl ?_
    refine Own.lload 106 X15 hx (hb hby at_104) rfl rfl ?_
    refine Own.callSt 109 3 [(.int x1), (.long (Own.Zl (b2)))] [(.int (1 : Int32)), (.ref ar), (.ref ar)] X15 hx hZ hown (m2 l Z a0 w x1 (b2) _ (by omega)) (w 7 rfl) (w 8 rfl) (w 9 rfl) (w 10 rfl) (by decide) e15 (by decide) (by decide) (by decide) (by decide) (by rw [hml]; rfl) (lenOf pd_1 rfl) rfl (Nat.le_of_eq rfl) (hb hby at_106) rfl ?_
    rintro vv T18 L18 X18 ⟨rfl, hh18, rfl⟩
    have N18 := Fr.app N15 (Fr.nil _)
    have tw_b2 := own_tw_s x1 b2
    refine Own.iastore 110 X18 hx hZ hh18 V15 (by decide) (Nat.le_of_ble_eq_true rfl) (hb hby at_109) rfl ?_
    intro T19 h19 X19 e19 W19 A19
    have N19 := Fr.snoc X19 N18 g_ar
    have zl19 := Nat.le_trans zl15 (Nat.le_of_eq W19.size.symm)
    have V19 : Arv Z h19 ar k12 .int (2 : Int32) [(.int (Own.Zi (own_tw x1 b1))), (.int (Own.Zi (own_tw x1 b2)))] (.int (0 : Int32)) := A19
    have sc_0 := own_sq (x := (2 * (own_tw x1 b1) - ((0 + (own_tw x1 b1)) + (own_tw x1 b2)))) (B := 16777216) (by omega)
    have sc_1 := own_sq (x := (2 * (own_tw x1 b2) - ((0 + (own_tw x1 b1)) + (own_tw x1 b2)))) (B := 16777216) (by omega)
    refine Own.callSt 113 0 [(.ref ar)] [] X19 hx hZ hown (m1_2 l Z a0 w ar k12 (own_tw x1 b1) (own_tw x1 b2) (2 * (own_tw x1 b1) - ((0 + (own_tw x1 b1)) + (own_tw x1 b2))) (2 * (own_tw x1 b2) - ((0 + (own_tw x1 b1)) + (own_tw x1 b2)))  _ V19 (by omega) rfl (by omega) (by omega) rfl (by omega)) (w 2 rfl) (w 3 rfl) (w 4 rfl) (w 5 rfl) (by decide) e19 (by decide) (by decide) (by decide) (by decide) (by rw [hml]; rfl) (lenOf pd_0 rfl) rfl (Nat.le_of_eq rfl) (hb hby at_110) rfl ?_
    rintro vv T22 L22 X22 ⟨rr, rfl, dr, hh22, rfl⟩
    have N22 := Fr.app N19 (Fr.nil _)
    refine Own.dload 115 X22 hx (hb hby at_113) rfl rfl ?_
    have pm_0 : (2 * (own_tw x1 b1) - ((0 + (own_tw x1 b1)) + (own_tw x1 b2))) * (2 * (own_tw x1 b1) - ((0 + (own_tw x1 b1)) + (own_tw x1 b2))) = g7 * g7 := own_pm (by omega)
    have pm_1 : (2 * (own_tw x1 b2) - ((0 + (own_tw x1 b1)) + (own_tw x1 b2))) * (2 * (own_tw x1 b2) - ((0 + (own_tw x1 b1)) + (own_tw x1 b2))) = g7 * g7 := own_pm (by omega)
    refine Own.dcmp 116 X22 hx (0 : Int32) (hb hby at_115) rfl (own_dy_eq dr (own_dy_up1 Du11) (by omega) _) ?_
    refine Own.if_ne 123 119 X22 hx (hb hby at_116) (by decide) rfl (fun tk => absurd tk (by decide)) (fun tk => ?_)
    refine Own.iconst 120 X22 hx ((1 : Int32)) (hb hby at_119) rfl rfl ?_
    refine Own.goto 124 X22 hx (hb hby at_120) (by decide) ?_
    refine Own.retBool X22 hx hlk hret (hb hby at_124) (by decide) (by decide) ?_
    exact ⟨rfl, N22⟩
  ·
    refine Own.iloadN 1 X0 hx (hb hby at_0) rfl rfl ?_
    refine Own.iconst 2 X0 hx ((3 : Int32)) (hb hby at_1) rfl rfl ?_
    refine Own.iand 3 X0 hx (hb hby at_2) rfl rfl ?_
    refine Own.iconst 4 X0 hx ((1 : Int32)) (hb hby at_3) rfl rfl ?_
    refine Own.iadd 5 X0 hx (hb hby at_4) rfl qn ?_
    refine Own.istoreV 7 #[.val (.int x0), .val (.int x1), .val (.int x2), .val (.int x3), .val (.int x4), .val (.int x5), .val (.int (3 : Int32)), .unset, .unset, .unset, .unset, .unset, .unset, .unset, .unset, .unset, .unset, .unset, .unset, .unset, .unset, .unset, .unset, .unset, .unset, .unset, .unset, .unset, .unset, .unset, .unset] X0 hx (hb hby at_5) rfl rfl ?_
    refine Own.iloadN 8 X0 hx (hb hby at_7) rfl rfl ?_
    refine Own.ldcInt 10 X0 hx hZ ((4194303 : Int32)) hown (w 0 rfl) (hb hby at_8) rfl ?_
    refine Own.iand 11 X0 hx (hb hby at_10) rfl eb1 ?_
    refine Own.i2l 12 X0 hx (hb hby at_11) rfl (Own.Zi_l (by omega)) ?_
    refine Own.lstoreV 14 #[.val (.int x0), .val (.int x1), .val (.int x2), .val (.int x3), .val (.int x4), .val (.int x5), .val (.int (3 : Int32)), .val (.long (Own.Zl (b1))), .second, .unset, .unset, .unset, .unset, .unset, .unset, .unset, .unset, .unset, .unset, .unset, .unset, .unset, .unset, .unset, .unset, .unset, .unset, .unset, .unset, .unset, .unset] X0 hx (hb hby at_12) rfl rfl ?_
    refine Own.iloadN 15 X0 hx (hb hby at_14) rfl rfl ?_
    refine Own.ldcInt 17 X0 hx hZ ((4194303 : Int32)) hown (w 0 rfl) (hb hby at_15) rfl ?_
    refine Own.iand 18 X0 hx (hb hby at_17) rfl eb2 ?_
    refine Own.i2l 19 X0 hx (hb hby at_18) rfl (Own.Zi_l (by omega)) ?_
    refine Own.lstoreV 21 #[.val (.int x0), .val (.int x1), .val (.int x2), .val (.int x3), .val (.int x4), .val (.int x5), .val (.int (3 : Int32)), .val (.long (Own.Zl (b1))), .second, .val (.long (Own.Zl (b2))), .second, .unset, .unset, .unset, .unset, .unset, .unset, .unset, .unset, .unset, .unset, .unset, .unset, .unset, .unset, .unset, .unset, .unset, .unset, .unset, .unset] X0 hx (hb hby at_19) rfl rfl ?_
    refine Own.iload 23 X0 hx (hb hby at_21) rfl rfl ?_
    refine Own.ldcInt 25 X0 hx hZ ((4194303 : Int32)) hown (w 0 rfl) (hb hby at_23) rfl ?_
    refine Own.iand 26 X0 hx (hb hby at_25) rfl eb3 ?_
    refine Own.i2l 27 X0 hx (hb hby at_26) rfl (Own.Zi_l (by omega)) ?_
    refine Own.lstoreV 29 #[.val (.int x0), .val (.int x1), .val (.int x2), .val (.int x3), .val (.int x4), .val (.int x5), .val (.int (3 : Int32)), .val (.long (Own.Zl (b1))), .second, .val (.long (Own.Zl (b2))), .second, .val (.long (Own.Zl (b3))), .second, .unset, .unset, .unset, .unset, .unset, .unset, .unset, .unset, .unset, .unset, .unset, .unset, .unset, .unset, .unset, .unset, .unset, .unset] X0 hx (hb hby at_27) rfl rfl ?_
    refine Own.iload 31 X0 hx (hb hby at_29) rfl rfl ?_
    refine Own.ldcInt 33 X0 hx hZ ((4194303 : Int32)) hown (w 0 rfl) (hb hby at_31) rfl ?_
    refine Own.iand 34 X0 hx (hb hby at_33) rfl eb4 ?_
    refine Own.i2l 35 X0 hx (hb hby at_34) rfl (Own.Zi_l (by omega)) ?_
    refine Own.lstoreV 37 #[.val (.int x0), .val (.int x1), .val (.int x2), .val (.int x3), .val (.int x4), .val (.int x5), .val (.int (3 : Int32)), .val (.long (Own.Zl (b1))), .second, .val (.long (Own.Zl (b2))), .second, .val (.long (Own.Zl (b3))), .second, .val (.long (Own.Zl (b4))), .second, .unset, .unset, .unset, .unset, .unset, .unset, .unset, .unset, .unset, .unset, .unset, .unset, .unset, .unset, .unset, .unset] X0 hx (hb hby at_35) rfl rfl ?_
    refine Own.iload 39 X0 hx (hb hby at_37) rfl rfl ?_
    refine Own.iconst 40 X0 hx ((1 : Int32)) (hb hby at_39) rfl rfl ?_
    refine Own.icmp_ne 64 43 X0 hx (hb hby at_40) (by decide) rfl (fun tk => ?_) (fun tk => absurd tk (by decide))
    refine Own.iload 66 X0 hx (hb hby at_64) rfl rfl ?_
    refine Own.iconst 67 X0 hx ((2 : Int32)) (hb hby at_66) rfl rfl ?_
    refine Own.icmp_ne 125 70 X0 hx (hb hby at_67) (by decide) rfl (fun tk => ?_) (fun tk => absurd tk (by decide))
    refine Own.iload 127 X0 hx (hb hby at_125) rfl rfl ?_
    refine Own.iconst 128 X0 hx ((3 : Int32)) (hb hby at_127) rfl rfl ?_
    refine Own.icmp_ne 268 131 X0 hx (hb hby at_128) (by decide) rfl (fun tk => absurd tk (by decide)) (fun tk => ?_)
    refine Own.lload 133 X0 hx (hb hby at_131) rfl rfl ?_
    refine Own.lload 135 X0 hx (hb hby at_133) rfl rfl ?_
    refine Own.ladd 136 X0 hx (hb hby at_135) rfl (Own.Zl_add _ _) ?_
    refine Own.lload 138 X0 hx (hb hby at_136) rfl rfl ?_
    refine Own.ladd 139 X0 hx (hb hby at_138) rfl (Own.Zl_add _ _) ?_
    obtain ⟨g23, hg23⟩ : ∃ g23 : Int, g23 = (b1 + b2) + b3 := ⟨_, rfl⟩
    rw [← hg23]
    refine Own.lstoreV 141 #[.val (.int x0), .val (.int x1), .val (.int x2), .val (.int x3), .val (.int x4), .val (.int x5), .val (.int (3 : Int32)), .val (.long (Own.Zl (b1))), .second, .val (.long (Own.Zl (b2))), .second, .val (.long (Own.Zl (b3))), .second, .val (.long (Own.Zl (b4))), .second, .val (.long (Own.Zl (g23))), .second, .unset, .unset, .unset, .unset, .unset, .unset, .unset, .unset, .unset, .unset, .unset, .unset, .unset, .unset] X0 hx (hb hby at_139) rfl rfl ?_
    refine Own.lload 143 X0 hx (hb hby at_141) rfl rfl ?_
    refine Own.ldc2Long 146 X0 hx hZ (Own.Zl 3) hown (by rw [show Own.Zl 3 = (3 : Int64) from by decide]; exact (w 14 rfl)) (hb hby at_143) rfl ?_
    refine Own.lload 148 X0 hx (hb hby at_146) rfl rfl ?_
    refine Own.ldc2Long 151 X0 hx hZ (Own.Zl 3) hown (by rw [show Own.Zl 3 = (3 : Int64) from by decide]; exact (w 14 rfl)) (hb hby at_148) rfl ?_
    refine Own.lrem 152 X0 hx (hb hby at_151) rfl (Own.Zl_ne0 (by omega)) (Own.Zl_mod (by omega) (by omega)) ?_
    refine Own.lsub 153 X0 hx (hb hby at_152) rfl (Own.Zl_sub _ _) ?_
    refine Own.ldc2Long 156 X0 hx hZ (Own.Zl 3) hown (by rw [show Own.Zl 3 = (3 : Int64) from by decide]; exact (w 14 rfl)) (hb hby at_153) rfl ?_
    refine Own.lrem 157 X0 hx (hb hby at_156) rfl (Own.Zl_ne0 (by omega)) (Own.Zl_mod (by omega) (by omega)) ?_
    refine Own.ladd 158 X0 hx (hb hby at_157) rfl (Own.Zl_add _ _) ?_
    obtain ⟨g24, hg24⟩ : ∃ g24 : Int, g24 = b3 + ((3 - (g23 % 3)) % 3) := ⟨_, rfl⟩
    rw [← hg24]
    refine Own.lstoreV 160 #[.val (.int x0), .val (.int x1), .val (.int x2), .val (.int x3), .val (.int x4), .val (.int x5), .val (.int (3 : Int32)), .val (.long (Own.Zl (b1))), .second, .val (.long (Own.Zl (b2))), .second, .val (.long (Own.Zl (b3))), .second, .val (.long (Own.Zl (b4))), .second, .val (.long (Own.Zl (g23))), .second, .val (.long (Own.Zl (g24))), .second, .unset, .unset, .unset, .unset, .unset, .unset, .unset, .unset, .unset, .unset, .unset, .unset] X0 hx (hb hby at_158) rfl rfl ?_
    refine Own.lload 162 X0 hx (hb hby at_160) rfl rfl ?_
    refine Own.lload 164 X0 hx (hb hby at_162) rfl rfl ?_
    refine Own.ladd 165 X0 hx (hb hby at_164) rfl (Own.Zl_add _ _) ?_
    refine Own.lload 167 X0 hx (hb hby at_165) rfl rfl ?_
    refine Own.ladd 168 X0 hx (hb hby at_167) rfl (Own.Zl_add _ _) ?_
    refine Own.ldc2Long 171 X0 hx hZ (Own.Zl 3) hown (by rw [show Own.Zl 3 = (3 : Int64) from by decide]; exact (w 14 rfl)) (hb hby at_168) rfl ?_
    refine Own.ldiv 172 X0 hx (hb hby at_171) rfl (Own.Zl_ne0 (by omega)) (Own.Zl_div (by omega) (by omega)) ?_
    obtain ⟨g25, hg25⟩ : ∃ g25 : Int, g25 = ((b1 + b2) + g24) / 3 := ⟨_, rfl⟩
    rw [← hg25]
    refine Own.lstoreV 174 #[.val (.int x0), .val (.int x1), .val (.int x2), .val (.int x3), .val (.int x4), .val (.int x5), .val (.int (3 : Int32)), .val (.long (Own.Zl (b1))), .second, .val (.long (Own.Zl (b2))), .second, .val (.long (Own.Zl (b3))), .second, .val (.long (Own.Zl (b4))), .second, .val (.long (Own.Zl (g23))), .second, .val (.long (Own.Zl (g24))), .second, .val (.long (Own.Zl (g25))), .second, .unset, .unset, .unset, .unset, .unset, .unset, .unset, .unset, .unset, .unset] X0 hx (hb hby at_172) rfl rfl ?_
    refine Own.lload 176 X0 hx (hb hby at_174) rfl rfl ?_
    refine Own.lload 178 X0 hx (hb hby at_176) rfl rfl ?_
    refine Own.lsub 179 X0 hx (hb hby at_178) rfl (Own.Zl_sub _ _) ?_
    obtain ⟨g26, hg26⟩ : ∃ g26 : Int, g26 = b1 - g25 := ⟨_, rfl⟩
    rw [← hg26]
    refine Own.lstoreV 181 #[.val (.int x0), .val (.int x1), .val (.int x2), .val (.int x3), .val (.int x4), .val (.int x5), .val (.int (3 : Int32)), .val (.long (Own.Zl (b1))), .second, .val (.long (Own.Zl (b2))), .second, .val (.long (Own.Zl (b3))), .second, .val (.long (Own.Zl (b4))), .second, .val (.long (Own.Zl (g23))), .second, .val (.long (Own.Zl (g24))), .second, .val (.long (Own.Zl (g25))), .second, .val (.long (Own.Zl (g26))), .second, .unset, .unset, .unset, .unset, .unset, .unset, .unset, .unset] X0 hx (hb hby at_179) rfl rfl ?_
    refine Own.lload 183 X0 hx (hb hby at_181) rfl rfl ?_
    refine Own.lload 185 X0 hx (hb hby at_183) rfl rfl ?_
    refine Own.lsub 186 X0 hx (hb hby at_185) rfl (Own.Zl_sub _ _) ?_
    obtain ⟨g27, hg27⟩ : ∃ g27 : Int, g27 = b2 - g25 := ⟨_, rfl⟩
    rw [← hg27]
    refine Own.lstoreV 188 #[.val (.int x0), .val (.int x1), .val (.int x2), .val (.int x3), .val (.int x4), .val (.int x5), .val (.int (3 : Int32)), .val (.long (Own.Zl (b1))), .second, .val (.long (Own.Zl (b2))), .second, .val (.long (Own.Zl (b3))), .second, .val (.long (Own.Zl (b4))), .second, .val (.long (Own.Zl (g23))), .second, .val (.long (Own.Zl (g24))), .second, .val (.long (Own.Zl (g25))), .second, .val (.long (Own.Zl (g26))), .second, .val (.long (Own.Zl (g27))), .second, .unset, .unset, .unset, .unset, .unset, .unset] X0 hx (hb hby at_186) rfl rfl ?_
    refine Own.lload 190 X0 hx (hb hby at_188) rfl rfl ?_
    refine Own.lload 192 X0 hx (hb hby at_190) rfl rfl ?_
    refine Own.lsub 193 X0 hx (hb hby at_192) rfl (Own.Zl_sub _ _) ?_
    obtain ⟨g28, hg28⟩ : ∃ g28 : Int, g28 = g24 - g25 := ⟨_, rfl⟩
    rw [← hg28]
    refine Own.lstoreV 195 #[.val (.int x0), .val (.int x1), .val (.int x2), .val (.int x3), .val (.int x4), .val (.int x5), .val (.int (3 : Int32)), .val (.long (Own.Zl (b1))), .second, .val (.long (Own.Zl (b2))), .second, .val (.long (Own.Zl (b3))), .second, .val (.long (Own.Zl (b4))), .second, .val (.long (Own.Zl (g23))), .second, .val (.long (Own.Zl (g24))), .second, .val (.long (Own.Zl (g25))), .second, .val (.long (Own.Zl (g26))), .second, .val (.long (Own.Zl (g27))), .second, .val (.long (Own.Zl (g28))), .second, .unset, .unset, .unset, .unset] X0 hx (hb hby at_193) rfl rfl ?_
    have sq_g26 := own_sq (x := g26) (B := 16777216) (by omega)
    have sq_g27 := own_sq (x := g27) (B := 16777216) (by omega)
    have sq_g28 := own_sq (x := g28) (B := 16777216) (by omega)
    refine Own.lload 197 X0 hx (hb hby at_195) rfl rfl ?_
    refine Own.lload 199 X0 hx (hb hby at_197) rfl rfl ?_
    refine Own.lmul 200 X0 hx (hb hby at_199) rfl (Own.Zl_mul _ _) ?_
    refine Own.lload 202 X0 hx (hb hby at_200) rfl rfl ?_
    refine Own.lload 204 X0 hx (hb hby at_202) rfl rfl ?_
    refine Own.lmul 205 X0 hx (hb hby at_204) rfl (Own.Zl_mul _ _) ?_
    refine Own.ladd 206 X0 hx (hb hby at_205) rfl (Own.Zl_add _ _) ?_
    refine Own.lload 208 X0 hx (hb hby at_206) rfl rfl ?_
    refine Own.lload 210 X0 hx (hb hby at_208) rfl rfl ?_
    refine Own.lmul 211 X0 hx (hb hby at_210) rfl (Own.Zl_mul _ _) ?_
    refine Own.ladd 212 X0 hx (hb hby at_211) rfl (Own.Zl_add _ _) ?_
    obtain ⟨g29, hg29⟩ : ∃ g29 : Int, g29 = ((g26 * g26) + (g27 * g27)) + (g28 * g28) := ⟨_, rfl⟩
    rw [← hg29]
    refine Own.lstoreV 214 #[.val (.int x0), .val (.int x1), .val (.int x2), .val (.int x3), .val (.int x4), .val (.int x5), .val (.int (3 : Int32)), .val (.long (Own.Zl (b1))), .second, .val (.long (Own.Zl (b2))), .second, .val (.long (Own.Zl (b3))), .second, .val (.long (Own.Zl (b4))), .second, .val (.long (Own.Zl (g23))), .second, .val (.long (Own.Zl (g24))), .second, .val (.long (Own.Zl (g25))), .second, .val (.long (Own.Zl (g26))), .second, .val (.long (Own.Zl (g27))), .second, .val (.long (Own.Zl (g28))), .second, .val (.long (Own.Zl (g29))), .second, .unset, .unset] X0 hx (hb hby at_212) rfl rfl ?_
    refine Own.lload 216 X0 hx (hb hby at_214) rfl rfl ?_
    have Dl30 : own_Dy 0 (g29) (FP.l2d (Own.Zl (g29))) := own_dyZ (by omega)
    refine Own.l2d 217 X0 hx (hb hby at_216) rfl rfl ?_
    refine Own.ldc2Dbl 220 X0 hx hZ (4611686018427387904 : UInt64) hown (w 6 rfl) (hb hby at_217) rfl ?_
    have Dc31 : own_Dy 0 2 (4611686018427387904 : UInt64) := own_dy_c (v := 2) (by decide +kernel) (by decide)
    have Dv32 : own_Dy 1 (g29) (FP.ddiv (FP.l2d (Own.Zl (g29))) (4611686018427387904 : UInt64)) := own_dy_div Dl30 Dc31 (by omega) (by show (g29) * 2 = (g29) * (2) * 1; omega) (own_nB (by omega)) (by decide)
    refine Own.ddiv 221 X0 hx (hb hby at_220) rfl (own_dy_nn Dv32) ?_
    refine Own.dstore 223 (fun u33 => #[.val (.int x0), .val (.int x1), .val (.int x2), .val (.int x3), .val (.int x4), .val (.int x5), .val (.int (3 : Int32)), .val (.long (Own.Zl (b1))), .second, .val (.long (Own.Zl (b2))), .second, .val (.long (Own.Zl (b3))), .second, .val (.long (Own.Zl (b4))), .second, .val (.long (Own.Zl (g23))), .second, .val (.long (Own.Zl (g24))), .second, .val (.long (Own.Zl (g25))), .second, .val (.long (Own.Zl (g26))), .second, .val (.long (Own.Zl (g27))), .second, .val (.long (Own.Zl (g28))), .second, .val (.long (Own.Zl (g29))), .second, .val (.double u33), .second]) X0 hx (hb hby at_221) rfl (fun _ => rfl) fun u33 hu33 => ?_
    have Du33 : own_Dy 1 (g29) u33 := by rw [hu33]; exact Dv32
    refine Own.iconst 224 X0 hx ((3 : Int32)) (hb hby at_223) rfl rfl ?_
    refine Own.newArr 226 3 X0 hx hZ (w 1 rfl) e0 (by decide) (by decide) (by decide) (hb hby at_224) rfl (by decide) (by decide) ?_
    intro T34 h34 ar k34 z34 X34 e34 E34 A34
    have g_ar : n0 ≤ ar := Nat.le_trans Z0 (Nat.le_of_eq z34.symm)
    have zl34 := Nat.le_trans Z0 E34.1
    have V34 : Arv Z h34 ar k34 .int (3 : Int32) [(.int (0 : Int32)), (.int (0 : Int32)), (.int (0 : Int32))] (.int (0 : Int32)) := A34
    refine Own.dup 227 X34 hx (hb hby at_226) rfl rfl ?_
    refine Own.iconst 228 X34 hx ((0 : Int32)) (hb hby at_227) rfl rfl ?_
    refine Own.iloadN 229 X34 hx (hb hby at_228) rfl rfl ?_
    refine Own.lload 231 X34 hx (hb hby at_229) rfl rfl ?_
    refine Own.callSt 234 3 [(.int x1), (.long (Own.Zl (b1)))] [(.int (0 : Int32)), (.ref ar), (.ref ar)] X34 hx hZ hown (m2 l Z a0 w x1 (b1) _ (by omega)) (w 7 rfl) (w 8 rfl) (w 9 rfl) (w 10 rfl) (by decide) e34 (by decide) (by decide) (by decide) (by decide) (by rw [hml]; rfl) (lenOf pd_1 rfl) rfl (Nat.le_of_eq rfl) (hb hby at_231) rfl ?_
    rintro vv T36 L36 X36 ⟨rfl, hh36, rfl⟩
    have N36 := Fr.app N0 (Fr.nil _)
    have tw_b1 := own_tw_s x1 b1
    refine Own.iastore 235 X36 hx hZ hh36 V34 (by decide) (Nat.le_of_ble_eq_true rfl) (hb hby at_234) rfl ?_
    intro T37 h37 X37 e37 W37 A37
    have N37 := Fr.snoc X37 N36 g_ar
    have zl37 := Nat.le_trans zl34 (Nat.le_of_eq W37.size.symm)
    have V37 : Arv Z h37 ar k34 .int (3 : Int32) [(.int (Own.Zi (own_tw x1 b1))), (.int (0 : Int32)), (.int (0 : Int32))] (.int (0 : Int32)) := A37
    refine Own.dup 236 X37 hx (hb hby at_235) rfl rfl ?_
    refine Own.iconst 237 X37 hx ((1 : Int32)) (hb hby at_236) rfl rfl ?_
    refine Own.iloadN 238 X37 hx (hb hby at_237) rfl rfl ?_
    refine Own.lload 240 X37 hx (hb hby at_238) rfl rfl ?_
    refine Own.callSt 243 3 [(.int x1), (.long (Own.Zl (b2)))] [(.int (1 : Int32)), (.ref ar), (.ref ar)] X37 hx hZ hown (m2 l Z a0 w x1 (b2) _ (by omega)) (w 7 rfl) (w 8 rfl) (w 9 rfl) (w 10 rfl) (by decide) e37 (by decide) (by decide) (by decide) (by decide) (by rw [hml]; rfl) (lenOf pd_1 rfl) rfl (Nat.le_of_eq rfl) (hb hby at_240) rfl ?_
    rintro vv T40 L40 X40 ⟨rfl, hh40, rfl⟩
    have N40 := Fr.app N37 (Fr.nil _)
    have tw_b2 := own_tw_s x1 b2
    refine Own.iastore 244 X40 hx hZ hh40 V37 (by decide) (Nat.le_of_ble_eq_true rfl) (hb hby at_243) rfl ?_
    intro T41 h41 X41 e41 W41 A41
    have N41 := Fr.snoc X41 N40 g_ar
    have zl41 := Nat.le_trans zl37 (Nat.le_of_eq W41.size.symm)
    have V41 : Arv Z h41 ar k34 .int (3 : Int32) [(.int (Own.Zi (own_tw x1 b1))), (.int (Own.Zi (own_tw x1 b2))), (.int (0 : Int32))] (.int (0 : Int32)) := A41
    refine Own.dup 245 X41 hx (hb hby at_244) rfl rfl ?_
    refine Own.iconst 246 X41 hx ((2 : Int32)) (hb hby at_245) rfl rfl ?_
    refine Own.iloadN 247 X41 hx (hb hby at_246) rfl rfl ?_
    refine Own.lload 249 X41 hx (hb hby at_247) rfl rfl ?_
    refine Own.callSt 252 3 [(.int x1), (.long (Own.Zl (g24)))] [(.int (2 : Int32)), (.ref ar), (.ref ar)] X41 hx hZ hown (m2 l Z a0 w x1 (g24) _ (by omega)) (w 7 rfl) (w 8 rfl) (w 9 rfl) (w 10 rfl) (by decide) e41 (by decide) (by decide) (by decide) (by decide) (by rw [hml]; rfl) (lenOf pd_1 rfl) rfl (Nat.le_of_eq rfl) (hb hby at_249) rfl ?_
    rintro vv T44 L44 X44 ⟨rfl, hh44, rfl⟩
    have N44 := Fr.app N41 (Fr.nil _)
    have tw_g24 := own_tw_s x1 g24
    refine Own.iastore 253 X44 hx hZ hh44 V41 (by decide) (Nat.le_of_ble_eq_true rfl) (hb hby at_252) rfl ?_
    intro T45 h45 X45 e45 W45 A45
    have N45 := Fr.snoc X45 N44 g_ar
    have zl45 := Nat.le_trans zl41 (Nat.le_of_eq W45.size.symm)
    have V45 : Arv Z h45 ar k34 .int (3 : Int32) [(.int (Own.Zi (own_tw x1 b1))), (.int (Own.Zi (own_tw x1 b2))), (.int (Own.Zi (own_tw x1 g24)))] (.int (0 : Int32)) := A45
    have tw_M := own_tw_s x1 g25
    have sc_0 := own_sq (x := (1 * (own_tw x1 b1) - (own_tw x1 g25))) (B := 16777216) (by omega)
    have sc_1 := own_sq (x := (1 * (own_tw x1 b2) - (own_tw x1 g25))) (B := 16777216) (by omega)
    have sc_2 := own_sq (x := (1 * (own_tw x1 g24) - (own_tw x1 g25))) (B := 16777216) (by omega)
    refine Own.callSt 256 0 [(.ref ar)] [] X45 hx hZ hown (m1_3 l Z a0 w ar k34 (own_tw x1 b1) (own_tw x1 b2) (own_tw x1 g24) (1 * (own_tw x1 b1) - (own_tw x1 g25)) (1 * (own_tw x1 b2) - (own_tw x1 g25)) (1 * (own_tw x1 g24) - (own_tw x1 g25)) (own_tw x1 g25) _ V45 (by omega) rfl (by omega) (by omega) rfl (by omega) (by omega) rfl (by omega) (by omega)) (w 2 rfl) (w 3 rfl) (w 4 rfl) (w 5 rfl) (by decide) e45 (by decide) (by decide) (by decide) (by decide) (by rw [hml]; rfl) (lenOf pd_0 rfl) rfl (Nat.le_of_eq rfl) (hb hby at_253) rfl ?_
    rintro vv T48 L48 X48 ⟨rr, rfl, dr, hh48, rfl⟩
    have N48 := Fr.app N45 (Fr.nil _)
    refine Own.dload 258 X48 hx (hb hby at_256) rfl rfl ?_
    have pm_0 : (1 * (own_tw x1 b1) - (own_tw x1 g25)) * (1 * (own_tw x1 b1) - (own_tw x1 g25)) = g26 * g26 := own_pm (by omega)
    have pm_1 : (1 * (own_tw x1 b2) - (own_tw x1 g25)) * (1 * (own_tw x1 b2) - (own_tw x1 g25)) = g27 * g27 := own_pm (by omega)
    have pm_2 : (1 * (own_tw x1 g24) - (own_tw x1 g25)) * (1 * (own_tw x1 g24) - (own_tw x1 g25)) = g28 * g28 := own_pm (by omega)
    refine Own.dcmp 259 X48 hx (0 : Int32) (hb hby at_258) rfl (own_dy_eq dr Du33 (by omega) _) ?_
    refine Own.if_ne 266 262 X48 hx (hb hby at_259) (by decide) rfl (fun tk => absurd tk (by decide)) (fun tk => ?_)
    refine Own.iconst 263 X48 hx ((1 : Int32)) (hb hby at_262) rfl rfl ?_
    refine Own.goto 267 X48 hx (hb hby at_263) (by decide) ?_
    refine Own.retBool X48 hx hlk hret (hb hby at_267) (by decide) (by decide) ?_
    exact ⟨rfl, N48⟩
  ·
    refine Own.iloadN 1 X0 hx (hb hby at_0) rfl rfl ?_
    refine Own.iconst 2 X0 hx ((3 : Int32)) (hb hby at_1) rfl rfl ?_
    refine Own.iand 3 X0 hx (hb hby at_2) rfl rfl ?_
    refine Own.iconst 4 X0 hx ((1 : Int32)) (hb hby at_3) rfl rfl ?_
    refine Own.iadd 5 X0 hx (hb hby at_4) rfl qn ?_
    refine Own.istoreV 7 #[.val (.int x0), .val (.int x1), .val (.int x2), .val (.int x3), .val (.int x4), .val (.int x5), .val (.int (4 : Int32)), .unset, .unset, .unset, .unset, .unset, .unset, .unset, .unset, .unset, .unset, .unset, .unset, .unset, .unset, .unset, .unset, .unset, .unset, .unset, .unset, .unset, .unset, .unset, .unset] X0 hx (hb hby at_5) rfl rfl ?_
    refine Own.iloadN 8 X0 hx (hb hby at_7) rfl rfl ?_
    refine Own.ldcInt 10 X0 hx hZ ((4194303 : Int32)) hown (w 0 rfl) (hb hby at_8) rfl ?_
    refine Own.iand 11 X0 hx (hb hby at_10) rfl eb1 ?_
    refine Own.i2l 12 X0 hx (hb hby at_11) rfl (Own.Zi_l (by omega)) ?_
    refine Own.lstoreV 14 #[.val (.int x0), .val (.int x1), .val (.int x2), .val (.int x3), .val (.int x4), .val (.int x5), .val (.int (4 : Int32)), .val (.long (Own.Zl (b1))), .second, .unset, .unset, .unset, .unset, .unset, .unset, .unset, .unset, .unset, .unset, .unset, .unset, .unset, .unset, .unset, .unset, .unset, .unset, .unset, .unset, .unset, .unset] X0 hx (hb hby at_12) rfl rfl ?_
    refine Own.iloadN 15 X0 hx (hb hby at_14) rfl rfl ?_
    refine Own.ldcInt 17 X0 hx hZ ((4194303 : Int32)) hown (w 0 rfl) (hb hby at_15) rfl ?_
    refine Own.iand 18 X0 hx (hb hby at_17) rfl eb2 ?_
    refine Own.i2l 19 X0 hx (hb hby at_18) rfl (Own.Zi_l (by omega)) ?_
    refine Own.lstoreV 21 #[.val (.int x0), .val (.int x1), .val (.int x2), .val (.int x3), .val (.int x4), .val (.int x5), .val (.int (4 : Int32)), .val (.long (Own.Zl (b1))), .second, .val (.long (Own.Zl (b2))), .second, .unset, .unset, .unset, .unset, .unset, .unset, .unset, .unset, .unset, .unset, .unset, .unset, .unset, .unset, .unset, .unset, .unset, .unset, .unset, .unset] X0 hx (hb hby at_19) rfl rfl ?_
    refine Own.iload 23 X0 hx (hb hby at_21) rfl rfl ?_
    refine Own.ldcInt 25 X0 hx hZ ((4194303 : Int32)) hown (w 0 rfl) (hb hby at_23) rfl ?_
    refine Own.iand 26 X0 hx (hb hby at_25) rfl eb3 ?_
    refine Own.i2l 27 X0 hx (hb hby at_26) rfl (Own.Zi_l (by omega)) ?_
    refine Own.lstoreV 29 #[.val (.int x0), .val (.int x1), .val (.int x2), .val (.int x3), .val (.int x4), .val (.int x5), .val (.int (4 : Int32)), .val (.long (Own.Zl (b1))), .second, .val (.long (Own.Zl (b2))), .second, .val (.long (Own.Zl (b3))), .second, .unset, .unset, .unset, .unset, .unset, .unset, .unset, .unset, .unset, .unset, .unset, .unset, .unset, .unset, .unset, .unset, .unset, .unset] X0 hx (hb hby at_27) rfl rfl ?_
    refine Own.iload 31 X0 hx (hb hby at_29) rfl rfl ?_
    refine Own.ldcInt 33 X0 hx hZ ((4194303 : Int32)) hown (w 0 rfl) (hb hby at_31) rfl ?_
    refine Own.iand 34 X0 hx (hb hby at_33) rfl eb4 ?_
    refine Own.i2l 35 X0 hx (hb hby at_34) rfl (Own.Zi_l (by omega)) ?_
    refine Own.lstoreV 37 #[.val (.int x0), .val (.int x1), .val (.int x2), .val (.int x3), .val (.int x4), .val (.int x5), .val (.int (4 : Int32)), .val (.long (Own.Zl (b1))), .second, .val (.long (Own.Zl (b2))), .second, .val (.long (Own.Zl (b3))), .second, .val (.long (Own.Zl (b4))), .second, .unset, .unset, .unset, .unset, .unset, .unset, .unset, .unset, .unset, .unset, .unset, .unset, .unset, .unset, .unset, .unset] X0 hx (hb hby at_35) rfl rfl ?_
    refine Own.iload 39 X0 hx (hb hby at_37) rfl rfl ?_
    refine Own.iconst 40 X0 hx ((1 : Int32)) (hb hby at_39) rfl rfl ?_
    refine Own.icmp_ne 64 43 X0 hx (hb hby at_40) (by decide) rfl (fun tk => ?_) (fun tk => absurd tk (by decide))
    refine Own.iload 66 X0 hx (hb hby at_64) rfl rfl ?_
    refine Own.iconst 67 X0 hx ((2 : Int32)) (hb hby at_66) rfl rfl ?_
    refine Own.icmp_ne 125 70 X0 hx (hb hby at_67) (by decide) rfl (fun tk => ?_) (fun tk => absurd tk (by decide))
    refine Own.iload 127 X0 hx (hb hby at_125) rfl rfl ?_
    refine Own.iconst 128 X0 hx ((3 : Int32)) (hb hby at_127) rfl rfl ?_
    refine Own.icmp_ne 268 131 X0 hx (hb hby at_128) (by decide) rfl (fun tk => ?_) (fun tk => absurd tk (by decide))
    refine Own.lload 270 X0 hx (hb hby at_268) rfl rfl ?_
    refine Own.lload 272 X0 hx (hb hby at_270) rfl rfl ?_
    refine Own.ladd 273 X0 hx (hb hby at_272) rfl (Own.Zl_add _ _) ?_
    refine Own.lload 275 X0 hx (hb hby at_273) rfl rfl ?_
    refine Own.ladd 276 X0 hx (hb hby at_275) rfl (Own.Zl_add _ _) ?_
    refine Own.lload 278 X0 hx (hb hby at_276) rfl rfl ?_
    refine Own.ladd 279 X0 hx (hb hby at_278) rfl (Own.Zl_add _ _) ?_
    obtain ⟨g49, hg49⟩ : ∃ g49 : Int, g49 = ((b1 + b2) + b3) + b4 := ⟨_, rfl⟩
    rw [← hg49]
    refine Own.lstoreV 281 #[.val (.int x0), .val (.int x1), .val (.int x2), .val (.int x3), .val (.int x4), .val (.int x5), .val (.int (4 : Int32)), .val (.long (Own.Zl (b1))), .second, .val (.long (Own.Zl (b2))), .second, .val (.long (Own.Zl (b3))), .second, .val (.long (Own.Zl (b4))), .second, .val (.long (Own.Zl (g49))), .second, .unset, .unset, .unset, .unset, .unset, .unset, .unset, .unset, .unset, .unset, .unset, .unset, .unset, .unset] X0 hx (hb hby at_279) rfl rfl ?_
    refine Own.ldc2Long 284 X0 hx hZ (Own.Zl 4) hown (by rw [show Own.Zl 4 = (4 : Int64) from by decide]; exact (w 11 rfl)) (hb hby at_281) rfl ?_
    refine Own.lload 286 X0 hx (hb hby at_284) rfl rfl ?_
    refine Own.lmul 287 X0 hx (hb hby at_286) rfl (Own.Zl_mul _ _) ?_
    refine Own.lload 289 X0 hx (hb hby at_287) rfl rfl ?_
    refine Own.lsub 290 X0 hx (hb hby at_289) rfl (Own.Zl_sub _ _) ?_
    obtain ⟨g50, hg50⟩ : ∃ g50 : Int, g50 = (4 * b1) - g49 := ⟨_, rfl⟩
    rw [← hg50]
    refine Own.lstoreV 292 #[.val (.int x0), .val (.int x1), .val (.int x2), .val (.int x3), .val (.int x4), .val (.int x5), .val (.int (4 : Int32)), .val (.long (Own.Zl (b1))), .second, .val (.long (Own.Zl (b2))), .second, .val (.long (Own.Zl (b3))), .second, .val (.long (Own.Zl (b4))), .second, .val (.long (Own.Zl (g49))), .second, .val (.long (Own.Zl (g50))), .second, .unset, .unset, .unset, .unset, .unset, .unset, .unset, .unset, .unset, .unset, .unset, .unset] X0 hx (hb hby at_290) rfl rfl ?_
    refine Own.ldc2Long 295 X0 hx hZ (Own.Zl 4) hown (by rw [show Own.Zl 4 = (4 : Int64) from by decide]; exact (w 11 rfl)) (hb hby at_292) rfl ?_
    refine Own.lload 297 X0 hx (hb hby at_295) rfl rfl ?_
    refine Own.lmul 298 X0 hx (hb hby at_297) rfl (Own.Zl_mul _ _) ?_
    refine Own.lload 300 X0 hx (hb hby at_298) rfl rfl ?_
    refine Own.lsub 301 X0 hx (hb hby at_300) rfl (Own.Zl_sub _ _) ?_
    obtain ⟨g51, hg51⟩ : ∃ g51 : Int, g51 = (4 * b2) - g49 := ⟨_, rfl⟩
    rw [← hg51]
    refine Own.lstoreV 303 #[.val (.int x0), .val (.int x1), .val (.int x2), .val (.int x3), .val (.int x4), .val (.int x5), .val (.int (4 : Int32)), .val (.long (Own.Zl (b1))), .second, .val (.long (Own.Zl (b2))), .second, .val (.long (Own.Zl (b3))), .second, .val (.long (Own.Zl (b4))), .second, .val (.long (Own.Zl (g49))), .second, .val (.long (Own.Zl (g50))), .second, .val (.long (Own.Zl (g51))), .second, .unset, .unset, .unset, .unset, .unset, .unset, .unset, .unset, .unset, .unset] X0 hx (hb hby at_301) rfl rfl ?_
    refine Own.ldc2Long 306 X0 hx hZ (Own.Zl 4) hown (by rw [show Own.Zl 4 = (4 : Int64) from by decide]; exact (w 11 rfl)) (hb hby at_303) rfl ?_
    refine Own.lload 308 X0 hx (hb hby at_306) rfl rfl ?_
    refine Own.lmul 309 X0 hx (hb hby at_308) rfl (Own.Zl_mul _ _) ?_
    refine Own.lload 311 X0 hx (hb hby at_309) rfl rfl ?_
    refine Own.lsub 312 X0 hx (hb hby at_311) rfl (Own.Zl_sub _ _) ?_
    obtain ⟨g52, hg52⟩ : ∃ g52 : Int, g52 = (4 * b3) - g49 := ⟨_, rfl⟩
    rw [← hg52]
    refine Own.lstoreV 314 #[.val (.int x0), .val (.int x1), .val (.int x2), .val (.int x3), .val (.int x4), .val (.int x5), .val (.int (4 : Int32)), .val (.long (Own.Zl (b1))), .second, .val (.long (Own.Zl (b2))), .second, .val (.long (Own.Zl (b3))), .second, .val (.long (Own.Zl (b4))), .second, .val (.long (Own.Zl (g49))), .second, .val (.long (Own.Zl (g50))), .second, .val (.long (Own.Zl (g51))), .second, .val (.long (Own.Zl (g52))), .second, .unset, .unset, .unset, .unset, .unset, .unset, .unset, .unset] X0 hx (hb hby at_312) rfl rfl ?_
    refine Own.ldc2Long 317 X0 hx hZ (Own.Zl 4) hown (by rw [show Own.Zl 4 = (4 : Int64) from by decide]; exact (w 11 rfl)) (hb hby at_314) rfl ?_
    refine Own.lload 319 X0 hx (hb hby at_317) rfl rfl ?_
    refine Own.lmul 320 X0 hx (hb hby at_319) rfl (Own.Zl_mul _ _) ?_
    refine Own.lload 322 X0 hx (hb hby at_320) rfl rfl ?_
    refine Own.lsub 323 X0 hx (hb hby at_322) rfl (Own.Zl_sub _ _) ?_
    obtain ⟨g53, hg53⟩ : ∃ g53 : Int, g53 = (4 * b4) - g49 := ⟨_, rfl⟩
    rw [← hg53]
    refine Own.lstoreV 325 #[.val (.int x0), .val (.int x1), .val (.int x2), .val (.int x3), .val (.int x4), .val (.int x5), .val (.int (4 : Int32)), .val (.long (Own.Zl (b1))), .second, .val (.long (Own.Zl (b2))), .second, .val (.long (Own.Zl (b3))), .second, .val (.long (Own.Zl (b4))), .second, .val (.long (Own.Zl (g49))), .second, .val (.long (Own.Zl (g50))), .second, .val (.long (Own.Zl (g51))), .second, .val (.long (Own.Zl (g52))), .second, .val (.long (Own.Zl (g53))), .second, .unset, .unset, .unset, .unset, .unset, .unset] X0 hx (hb hby at_323) rfl rfl ?_
    have sq_g50 := own_sq (x := g50) (B := 16777216) (by omega)
    have sq_g51 := own_sq (x := g51) (B := 16777216) (by omega)
    have sq_g52 := own_sq (x := g52) (B := 16777216) (by omega)
    have sq_g53 := own_sq (x := g53) (B := 16777216) (by omega)
    refine Own.lload 327 X0 hx (hb hby at_325) rfl rfl ?_
    refine Own.lload 329 X0 hx (hb hby at_327) rfl rfl ?_
    refine Own.lmul 330 X0 hx (hb hby at_329) rfl (Own.Zl_mul _ _) ?_
    refine Own.lload 332 X0 hx (hb hby at_330) rfl rfl ?_
    refine Own.lload 334 X0 hx (hb hby at_332) rfl rfl ?_
    refine Own.lmul 335 X0 hx (hb hby at_334) rfl (Own.Zl_mul _ _) ?_
    refine Own.ladd 336 X0 hx (hb hby at_335) rfl (Own.Zl_add _ _) ?_
    refine Own.lload 338 X0 hx (hb hby at_336) rfl rfl ?_
    refine Own.lload 340 X0 hx (hb hby at_338) rfl rfl ?_
    refine Own.lmul 341 X0 hx (hb hby at_340) rfl (Own.Zl_mul _ _) ?_
    refine Own.ladd 342 X0 hx (hb hby at_341) rfl (Own.Zl_add _ _) ?_
    refine Own.lload 344 X0 hx (hb hby at_342) rfl rfl ?_
    refine Own.lload 346 X0 hx (hb hby at_344) rfl rfl ?_
    refine Own.lmul 347 X0 hx (hb hby at_346) rfl (Own.Zl_mul _ _) ?_
    refine Own.ladd 348 X0 hx (hb hby at_347) rfl (Own.Zl_add _ _) ?_
    obtain ⟨g54, hg54⟩ : ∃ g54 : Int, g54 = (((g50 * g50) + (g51 * g51)) + (g52 * g52)) + (g53 * g53) := ⟨_, rfl⟩
    rw [← hg54]
    refine Own.lstoreV 350 #[.val (.int x0), .val (.int x1), .val (.int x2), .val (.int x3), .val (.int x4), .val (.int x5), .val (.int (4 : Int32)), .val (.long (Own.Zl (b1))), .second, .val (.long (Own.Zl (b2))), .second, .val (.long (Own.Zl (b3))), .second, .val (.long (Own.Zl (b4))), .second, .val (.long (Own.Zl (g49))), .second, .val (.long (Own.Zl (g50))), .second, .val (.long (Own.Zl (g51))), .second, .val (.long (Own.Zl (g52))), .second, .val (.long (Own.Zl (g53))), .second, .val (.long (Own.Zl (g54))), .second, .unset, .unset, .unset, .unset] X0 hx (hb hby at_348) rfl rfl ?_
    refine Own.lload 352 X0 hx (hb hby at_350) rfl rfl ?_
    have Dl55 : own_Dy 0 (g54) (FP.l2d (Own.Zl (g54))) := own_dyZ (by omega)
    refine Own.l2d 353 X0 hx (hb hby at_352) rfl rfl ?_
    refine Own.ldc2Dbl 356 X0 hx hZ (4625196817309499392 : UInt64) hown (w 12 rfl) (hb hby at_353) rfl ?_
    have Dc56 : own_Dy 0 16 (4625196817309499392 : UInt64) := own_dy_c (v := 16) (by decide +kernel) (by decide)
    have Dv57 : own_Dy 4 (g54) (FP.ddiv (FP.l2d (Own.Zl (g54))) (4625196817309499392 : UInt64)) := own_dy_div Dl55 Dc56 (by omega) (by show (g54) * 16 = (g54) * (16) * 1; omega) (own_nB (by omega)) (by decide)
    refine Own.ddiv 357 X0 hx (hb hby at_356) rfl (own_dy_nn Dv57) ?_
    refine Own.ldc2Dbl 360 X0 hx hZ (4613937818241073152 : UInt64) hown (w 13 rfl) (hb hby at_357) rfl ?_
    have Dc58 : own_Dy 0 3 (4613937818241073152 : UInt64) := own_dy_c (v := 3) (by decide +kernel) (by decide)
    refine Own.ddiv 361 X0 hx (hb hby at_360) rfl (own_div_nn Dv57 Dc58 (by omega)) ?_
    refine Own.dstore 363 (fun u60 => #[.val (.int x0), .val (.int x1), .val (.int x2), .val (.int x3), .val (.int x4), .val (.int x5), .val (.int (4 : Int32)), .val (.long (Own.Zl (b1))), .second, .val (.long (Own.Zl (b2))), .second, .val (.long (Own.Zl (b3))), .second, .val (.long (Own.Zl (b4))), .second, .val (.long (Own.Zl (g49))), .second, .val (.long (Own.Zl (g50))), .second, .val (.long (Own.Zl (g51))), .second, .val (.long (Own.Zl (g52))), .second, .val (.long (Own.Zl (g53))), .second, .val (.long (Own.Zl (g54))), .second, .val (.double u60), .second, .unset, .unset]) X0 hx (hb hby at_361) rfl (fun _ => rfl) fun u60 hu60 => ?_
    refine Own.iconst 364 X0 hx ((4 : Int32)) (hb hby at_363) rfl rfl ?_
    refine Own.newArr 366 4 X0 hx hZ (w 1 rfl) e0 (by decide) (by decide) (by decide) (hb hby at_364) rfl (by decide) (by decide) ?_
    intro T61 h61 ar k61 z61 X61 e61 E61 A61
    have g_ar : n0 ≤ ar := Nat.le_trans Z0 (Nat.le_of_eq z61.symm)
    have zl61 := Nat.le_trans Z0 E61.1
    have V61 : Arv Z h61 ar k61 .int (4 : Int32) [(.int (0 : Int32)), (.int (0 : Int32)), (.int (0 : Int32)), (.int (0 : Int32))] (.int (0 : Int32)) := A61
    refine Own.dup 367 X61 hx (hb hby at_366) rfl rfl ?_
    refine Own.iconst 368 X61 hx ((0 : Int32)) (hb hby at_367) rfl rfl ?_
    refine Own.iloadN 369 X61 hx (hb hby at_368) rfl rfl ?_
    refine Own.lload 371 X61 hx (hb hby at_369) rfl rfl ?_
    refine Own.callSt 374 3 [(.int x1), (.long (Own.Zl (b1)))] [(.int (0 : Int32)), (.ref ar), (.ref ar)] X61 hx hZ hown (m2 l Z a0 w x1 (b1) _ (by omega)) (w 7 rfl) (w 8 rfl) (w 9 rfl) (w 10 rfl) (by decide) e61 (by decide) (by decide) (by decide) (by decide) (by rw [hml]; rfl) (lenOf pd_1 rfl) rfl (Nat.le_of_eq rfl) (hb hby at_371) rfl ?_
    rintro vv T63 L63 X63 ⟨rfl, hh63, rfl⟩
    have N63 := Fr.app N0 (Fr.nil _)
    have tw_b1 := own_tw_s x1 b1
    refine Own.iastore 375 X63 hx hZ hh63 V61 (by decide) (Nat.le_of_ble_eq_true rfl) (hb hby at_374) rfl ?_
    intro T64 h64 X64 e64 W64 A64
    have N64 := Fr.snoc X64 N63 g_ar
    have zl64 := Nat.le_trans zl61 (Nat.le_of_eq W64.size.symm)
    have V64 : Arv Z h64 ar k61 .int (4 : Int32) [(.int (Own.Zi (own_tw x1 b1))), (.int (0 : Int32)), (.int (0 : Int32)), (.int (0 : Int32))] (.int (0 : Int32)) := A64
    refine Own.dup 376 X64 hx (hb hby at_375) rfl rfl ?_
    refine Own.iconst 377 X64 hx ((1 : Int32)) (hb hby at_376) rfl rfl ?_
    refine Own.iloadN 378 X64 hx (hb hby at_377) rfl rfl ?_
    refine Own.lload 380 X64 hx (hb hby at_378) rfl rfl ?_
    refine Own.callSt 383 3 [(.int x1), (.long (Own.Zl (b2)))] [(.int (1 : Int32)), (.ref ar), (.ref ar)] X64 hx hZ hown (m2 l Z a0 w x1 (b2) _ (by omega)) (w 7 rfl) (w 8 rfl) (w 9 rfl) (w 10 rfl) (by decide) e64 (by decide) (by decide) (by decide) (by decide) (by rw [hml]; rfl) (lenOf pd_1 rfl) rfl (Nat.le_of_eq rfl) (hb hby at_380) rfl ?_
    rintro vv T67 L67 X67 ⟨rfl, hh67, rfl⟩
    have N67 := Fr.app N64 (Fr.nil _)
    have tw_b2 := own_tw_s x1 b2
    refine Own.iastore 384 X67 hx hZ hh67 V64 (by decide) (Nat.le_of_ble_eq_true rfl) (hb hby at_383) rfl ?_
    intro T68 h68 X68 e68 W68 A68
    have N68 := Fr.snoc X68 N67 g_ar
    have zl68 := Nat.le_trans zl64 (Nat.le_of_eq W68.size.symm)
    have V68 : Arv Z h68 ar k61 .int (4 : Int32) [(.int (Own.Zi (own_tw x1 b1))), (.int (Own.Zi (own_tw x1 b2))), (.int (0 : Int32)), (.int (0 : Int32))] (.int (0 : Int32)) := A68
    refine Own.dup 385 X68 hx (hb hby at_384) rfl rfl ?_
    refine Own.iconst 386 X68 hx ((2 : Int32)) (hb hby at_385) rfl rfl ?_
    refine Own.iloadN 387 X68 hx (hb hby at_386) rfl rfl ?_
    refine Own.lload 389 X68 hx (hb hby at_387) rfl rfl ?_
    refine Own.callSt 392 3 [(.int x1), (.long (Own.Zl (b3)))] [(.int (2 : Int32)), (.ref ar), (.ref ar)] X68 hx hZ hown (m2 l Z a0 w x1 (b3) _ (by omega)) (w 7 rfl) (w 8 rfl) (w 9 rfl) (w 10 rfl) (by decide) e68 (by decide) (by decide) (by decide) (by decide) (by rw [hml]; rfl) (lenOf pd_1 rfl) rfl (Nat.le_of_eq rfl) (hb hby at_389) rfl ?_
    rintro vv T71 L71 X71 ⟨rfl, hh71, rfl⟩
    have N71 := Fr.app N68 (Fr.nil _)
    have tw_b3 := own_tw_s x1 b3
    refine Own.iastore 393 X71 hx hZ hh71 V68 (by decide) (Nat.le_of_ble_eq_true rfl) (hb hby at_392) rfl ?_
    intro T72 h72 X72 e72 W72 A72
    have N72 := Fr.snoc X72 N71 g_ar
    have zl72 := Nat.le_trans zl68 (Nat.le_of_eq W72.size.symm)
    have V72 : Arv Z h72 ar k61 .int (4 : Int32) [(.int (Own.Zi (own_tw x1 b1))), (.int (Own.Zi (own_tw x1 b2))), (.int (Own.Zi (own_tw x1 b3))), (.int (0 : Int32))] (.int (0 : Int32)) := A72
    refine Own.dup 394 X72 hx (hb hby at_393) rfl rfl ?_
    refine Own.iconst 395 X72 hx ((3 : Int32)) (hb hby at_394) rfl rfl ?_
    refine Own.iloadN 396 X72 hx (hb hby at_395) rfl rfl ?_
    refine Own.lload 398 X72 hx (hb hby at_396) rfl rfl ?_
    refine Own.callSt 401 3 [(.int x1), (.long (Own.Zl (b4)))] [(.int (3 : Int32)), (.ref ar), (.ref ar)] X72 hx hZ hown (m2 l Z a0 w x1 (b4) _ (by omega)) (w 7 rfl) (w 8 rfl) (w 9 rfl) (w 10 rfl) (by decide) e72 (by decide) (by decide) (by decide) (by decide) (by rw [hml]; rfl) (lenOf pd_1 rfl) rfl (Nat.le_of_eq rfl) (hb hby at_398) rfl ?_
    rintro vv T75 L75 X75 ⟨rfl, hh75, rfl⟩
    have N75 := Fr.app N72 (Fr.nil _)
    have tw_b4 := own_tw_s x1 b4
    refine Own.iastore 402 X75 hx hZ hh75 V72 (by decide) (Nat.le_of_ble_eq_true rfl) (hb hby at_401) rfl ?_
    intro T76 h76 X76 e76 W76 A76
    have N76 := Fr.snoc X76 N75 g_ar
    have zl76 := Nat.le_trans zl72 (Nat.le_of_eq W76.size.symm)
    have V76 : Arv Z h76 ar k61 .int (4 : Int32) [(.int (Own.Zi (own_tw x1 b1))), (.int (Own.Zi (own_tw x1 b2))), (.int (Own.Zi (own_tw x1 b3))), (.int (Own.Zi (own_tw x1 b4)))] (.int (0 : Int32)) := A76
    have sc_0 := own_sq (x := (4 * (own_tw x1 b1) - ((((0 + (own_tw x1 b1)) + (own_tw x1 b2)) + (own_tw x1 b3)) + (own_tw x1 b4)))) (B := 16777216) (by omega)
    have sc_1 := own_sq (x := (4 * (own_tw x1 b2) - ((((0 + (own_tw x1 b1)) + (own_tw x1 b2)) + (own_tw x1 b3)) + (own_tw x1 b4)))) (B := 16777216) (by omega)
    have sc_2 := own_sq (x := (4 * (own_tw x1 b3) - ((((0 + (own_tw x1 b1)) + (own_tw x1 b2)) + (own_tw x1 b3)) + (own_tw x1 b4)))) (B := 16777216) (by omega)
    have sc_3 := own_sq (x := (4 * (own_tw x1 b4) - ((((0 + (own_tw x1 b1)) + (own_tw x1 b2)) + (own_tw x1 b3)) + (own_tw x1 b4)))) (B := 16777216) (by omega)
    refine Own.callSt 405 0 [(.ref ar)] [] X76 hx hZ hown (m1_4 l Z a0 w ar k61 (own_tw x1 b1) (own_tw x1 b2) (own_tw x1 b3) (own_tw x1 b4) (4 * (own_tw x1 b1) - ((((0 + (own_tw x1 b1)) + (own_tw x1 b2)) + (own_tw x1 b3)) + (own_tw x1 b4))) (4 * (own_tw x1 b2) - ((((0 + (own_tw x1 b1)) + (own_tw x1 b2)) + (own_tw x1 b3)) + (own_tw x1 b4))) (4 * (own_tw x1 b3) - ((((0 + (own_tw x1 b1)) + (own_tw x1 b2)) + (own_tw x1 b3)) + (own_tw x1 b4))) (4 * (own_tw x1 b4) - ((((0 + (own_tw x1 b1)) + (own_tw x1 b2)) + (own_tw x1 b3)) + (own_tw x1 b4)))  _ V76 (by omega) rfl (by omega) (by omega) rfl (by omega) (by omega) rfl (by omega) (by omega) rfl (by omega)) (w 2 rfl) (w 3 rfl) (w 4 rfl) (w 5 rfl) (by decide) e76 (by decide) (by decide) (by decide) (by decide) (by rw [hml]; rfl) (lenOf pd_0 rfl) rfl (Nat.le_of_eq rfl) (hb hby at_402) rfl ?_
    rintro vv T79 L79 X79 ⟨rr, rfl, dr, hh79, rfl⟩
    have N79 := Fr.app N76 (Fr.nil _)
    refine Own.dload 407 X79 hx (hb hby at_405) rfl rfl ?_
    have pm_0 : (4 * (own_tw x1 b1) - ((((0 + (own_tw x1 b1)) + (own_tw x1 b2)) + (own_tw x1 b3)) + (own_tw x1 b4))) * (4 * (own_tw x1 b1) - ((((0 + (own_tw x1 b1)) + (own_tw x1 b2)) + (own_tw x1 b3)) + (own_tw x1 b4))) = g50 * g50 := own_pm (by omega)
    have pm_1 : (4 * (own_tw x1 b2) - ((((0 + (own_tw x1 b1)) + (own_tw x1 b2)) + (own_tw x1 b3)) + (own_tw x1 b4))) * (4 * (own_tw x1 b2) - ((((0 + (own_tw x1 b1)) + (own_tw x1 b2)) + (own_tw x1 b3)) + (own_tw x1 b4))) = g51 * g51 := own_pm (by omega)
    have pm_2 : (4 * (own_tw x1 b3) - ((((0 + (own_tw x1 b1)) + (own_tw x1 b2)) + (own_tw x1 b3)) + (own_tw x1 b4))) * (4 * (own_tw x1 b3) - ((((0 + (own_tw x1 b1)) + (own_tw x1 b2)) + (own_tw x1 b3)) + (own_tw x1 b4))) = g52 * g52 := own_pm (by omega)
    have pm_3 : (4 * (own_tw x1 b4) - ((((0 + (own_tw x1 b1)) + (own_tw x1 b2)) + (own_tw x1 b3)) + (own_tw x1 b4))) * (4 * (own_tw x1 b4) - ((((0 + (own_tw x1 b1)) + (own_tw x1 b2)) + (own_tw x1 b3)) + (own_tw x1 b4))) = g53 * g53 := own_pm (by omega)
    have DA : own_Dy 4 ((((0 + ((4 * (own_tw x1 b1) - ((((0 + (own_tw x1 b1)) + (own_tw x1 b2)) + (own_tw x1 b3)) + (own_tw x1 b4))) * (4 * (own_tw x1 b1) - ((((0 + (own_tw x1 b1)) + (own_tw x1 b2)) + (own_tw x1 b3)) + (own_tw x1 b4))))) + ((4 * (own_tw x1 b2) - ((((0 + (own_tw x1 b1)) + (own_tw x1 b2)) + (own_tw x1 b3)) + (own_tw x1 b4))) * (4 * (own_tw x1 b2) - ((((0 + (own_tw x1 b1)) + (own_tw x1 b2)) + (own_tw x1 b3)) + (own_tw x1 b4))))) + ((4 * (own_tw x1 b3) - ((((0 + (own_tw x1 b1)) + (own_tw x1 b2)) + (own_tw x1 b3)) + (own_tw x1 b4))) * (4 * (own_tw x1 b3) - ((((0 + (own_tw x1 b1)) + (own_tw x1 b2)) + (own_tw x1 b3)) + (own_tw x1 b4))))) + ((4 * (own_tw x1 b4) - ((((0 + (own_tw x1 b1)) + (own_tw x1 b2)) + (own_tw x1 b3)) + (own_tw x1 b4))) * (4 * (own_tw x1 b4) - ((((0 + (own_tw x1 b1)) + (own_tw x1 b2)) + (own_tw x1 b3)) + (own_tw x1 b4))))) (FP.ddiv (FP.l2d (Own.Zl (g54))) (4625196817309499392 : UInt64)) := by rw [show (((0 + ((4 * (own_tw x1 b1) - ((((0 + (own_tw x1 b1)) + (own_tw x1 b2)) + (own_tw x1 b3)) + (own_tw x1 b4))) * (4 * (own_tw x1 b1) - ((((0 + (own_tw x1 b1)) + (own_tw x1 b2)) + (own_tw x1 b3)) + (own_tw x1 b4))))) + ((4 * (own_tw x1 b2) - ((((0 + (own_tw x1 b1)) + (own_tw x1 b2)) + (own_tw x1 b3)) + (own_tw x1 b4))) * (4 * (own_tw x1 b2) - ((((0 + (own_tw x1 b1)) + (own_tw x1 b2)) + (own_tw x1 b3)) + (own_tw x1 b4))))) + ((4 * (own_tw x1 b3) - ((((0 + (own_tw x1 b1)) + (own_tw x1 b2)) + (own_tw x1 b3)) + (own_tw x1 b4))) * (4 * (own_tw x1 b3) - ((((0 + (own_tw x1 b1)) + (own_tw x1 b2)) + (own_tw x1 b3)) + (own_tw x1 b4))))) + ((4 * (own_tw x1 b4) - ((((0 + (own_tw x1 b1)) + (own_tw x1 b2)) + (own_tw x1 b3)) + (own_tw x1 b4))) * (4 * (own_tw x1 b4) - ((((0 + (own_tw x1 b1)) + (own_tw x1 b2)) + (own_tw x1 b3)) + (own_tw x1 b4)))) = g54 from by omega]; exact Dv57
    refine Own.dcmp 408 X79 hx (0 : Int32) (hb hby at_407) rfl (by rw [hu60, show (4613937818241073152 : UInt64) = FP.i2d (3 : Int32) from by decide +kernel]; exact own_div_eq dr DA (own_dyI (3 : Int32)) (by decide) _) ?_
    refine Own.if_ne 415 411 X79 hx (hb hby at_408) (by decide) rfl (fun tk => absurd tk (by decide)) (fun tk => ?_)
    refine Own.iconst 412 X79 hx ((1 : Int32)) (hb hby at_411) rfl rfl ?_
    refine Own.goto 416 X79 hx (hb hby at_412) (by decide) ?_
    refine Own.retBool X79 hx hlk hret (hb hby at_416) (by decide) (by decide) ?_
    exact ⟨rfl, N79⟩
set_option maxRecDepth 65536 in
set_option maxHeartbeats 40000000 in
theorem comes_1 {Post : Tables → Env → Array Value → State → Outcome → State → Prop} (hpost : ∀ tb e args s v u, (limb_1_1.after args s (.returned v) u = true ∧ limb_1_2.after args s (.returned v) u = true ∧ True) → FrameEnd s (.returned v) u (Jvm.fieldLocs frame_1_writes args s ++ Jvm.arrayLocs frame_1_arrays args s ++ Jvm.staticLocs frame_1_statics s) 16 128 → Post tb e args s (.returned v) u) :
    ArmFor flags0 classFile x code maxLocals ret World_1 tables_1 room_1 Calls_1 rest_1 Pre_1 Post := by
  intro l hfl _ _ p e ha hc hk s m args below hf hA hF happ hP
  obtain ⟨hcalls, hrest, hpre⟩ := hP
  obtain ⟨-, -, -, hnamed, -, -, -, hat⟩ := (Spec.applies_iff hf).mp happ
  obtain ⟨hg, hn⟩ := and_e (Cond.before_iff.mp (show (Jvm.Cond.and given_1 narrow_1).before args s = true from hpre))
  obtain ⟨g1, g2⟩ := and_e hg
  obtain ⟨g3, g4⟩ := and_e g2
  obtain ⟨g5, g6⟩ := and_e g4
  obtain ⟨g7, g8⟩ := and_e g6
  obtain ⟨g9, g10⟩ := and_e g8
  obtain ⟨g11, g12⟩ := and_e g10
  obtain ⟨w0, w1, w2, w3, w4, w5, rfl⟩ : ∃ w0 w1 w2 w3 w4 w5 : Value, args = #[w0, w1, w2, w3, w4, w5] := by
    have hs : args.size = 6 := by simpa [Cond.value, given_1] using g1
    obtain ⟨L⟩ := args
    match L, hs with
    | [w0, w1, w2, w3, w4, w5], _ => exact ⟨w0, w1, w2, w3, w4, w5, rfl⟩
  have hw := fun d (hd : d ∈ tables_1) => atoms_spec (ws := Jvm.Cond.code x code maxLocals ret :: tables_1) hat d (List.mem_cons_of_mem _ hd)
  obtain ⟨i0, ei0⟩ := is_v g3
  obtain rfl : w0 = (.int i0) := Option.some.inj ei0
  obtain ⟨i1, ei1⟩ := is_v g5
  obtain rfl : w1 = (.int i1) := Option.some.inj ei1
  obtain ⟨i2, ei2⟩ := is_v g7
  obtain rfl : w2 = (.int i2) := Option.some.inj ei2
  obtain ⟨i3, ei3⟩ := is_v g9
  obtain rfl : w3 = (.int i3) := Option.some.inj ei3
  obtain ⟨i4, ei4⟩ := is_v g11
  obtain rfl : w4 = (.int i4) := Option.some.inj ei4
  obtain ⟨i5, ei5⟩ := is_v g12
  obtain rfl : w5 = (.int i5) := Option.some.inj ei5
  obtain ⟨n, o, h1, h2, h3, _, L, rfl, ⟨rfl, N⟩, hq⟩ := m0 l s _ (fun i {d} h => hw d (List.mem_of_getElem? h)) i0 i1 i2 i3 i4 i5  s.heap s.heap.size (Nat.le_refl _) p e ha hc hk s m _ below hf ((Spec.applies_iff_loose hf).mp happ).1 ⟨rfl, State.Warmed39.refl s, rfl⟩ trivial
  refine ⟨n, _, h1, h2, h3, hpost _ _ _ _ _ _ ⟨Cond.after_iff.mpr rfl, Cond.after_iff.mpr (eq_i res_at (Term.int_eval (1)) rfl), trivial⟩ ⟨hq.1, hq.2.1, (hq.2.2.sift fun y hy => Or.inr (N y hy)).mono (by decide) (by decide)⟩⟩
theorem main_1_1 : Claimed_1_1 := comes_1 fun _ _ _ _ _ _ h hF => ⟨h.1, hF⟩
theorem main_1_2 : Claimed_1_2 := comes_1 fun _ _ _ _ _ _ h hF => ⟨h.2.1, hF⟩
end Jvm.Pilot.@@N@@
namespace Jvm.Pilot.@@N@@
open Jvm Jvm.ClassFile Sem Op Lib Jvm.Free Jvm.Stand Jvm.Pilot.@@N@@.Jvm.D
/-! MADE BY PROGRAM (witnessworld.py) out of the Statement's table words and the real class files: 9 classes; the members and pool entries that the words name. The judged class is class 1, her method 2. -/
namespace start1
open Jvm.ClassFile
def u (s : String) : CpInfo := .utf8 (stringToUtf16 s)
/-- a pool by its gaps: so many unusable entries, then the entry; so many at the end -/
def gap : Nat → List CpInfo → List CpInfo
  | 0, r => r
  | n + 1, r => .unusable :: gap n r
def poolList (es : List (Nat × CpInfo)) (last : Nat) : List CpInfo := es.foldr (fun e r => gap e.1 (e.2 :: r)) (gap last [])
def pool (es : List (Nat × CpInfo)) (last : Nat) : Array CpInfo := ⟨poolList es last⟩
def fileOf (pool : Array CpInfo) (this : Nat) (attrs : Array Attribute := #[]) (ms : Array MethodInfo := #[]) (fl : Nat := 33) (sup : Nat := 0) (ifs : Array Nat := #[]) (fds : Array FieldInfo := #[]) : ClassFile where
  minorVersion := 0
  majorVersion := 65
  constantPool := pool
  accessFlags := fl
  thisClass := this
  superClass := sup
  interfaces := ifs
  fields := fds
  methods := ms
  attributes := attrs
def plain (name : String) (sup : Option ClassId) : Class where
  name := name
  kind := .ordinary
  loader := none
  accessFlags := 33
  super := sup
  interfaces := #[]
  cf := none
  fields := #[]
  methods := #[]
  instanceTypes := #[]
  staticTypes := #[]
  resolved := #[]
  callSites := []
  init := .initialized
  statics := none
  mirror := none

def pool0 : Array CpInfo := pool [(5, u "<init>"), (0, u "()V"), (1, .class_ 10), (1, u "java/lang/Object")] 113

def k0m0 : Method := { name := "<init>", desc := "()V", sig := { parameters := [], returnType := none }, accessFlags := 1, code := none }
/-- java/lang/Object -/
def k0 : Class := { plain "java/lang/Object" none with
  accessFlags := 33
  interfaces := #[]
  cf := some (fileOf pool0 8 #[] #[{ accessFlags := 1, nameIndex := 5, descriptorIndex := 6, attributes := #[] }] 33 0 #[] #[])
  fields := #[]
  methods := #[k0m0]
  instanceTypes := #[]
  staticTypes := #[]
  resolved := Array.replicate 124 none
  statics := none }

def pool1 : Array CpInfo := pool [(2, .class_ 4), (1, u "java/lang/Object"), (0, u "<init>"), (0, u "()V"), (0, .integer 4194303), (0, .methodref 9 10), (0, .class_ 11), (0, .nameAndType 12 13), (0, u "com/example/skuld/skuld/team/Parallelism"), (0, u "of"), (0, u "([I)D"), (0, .double 4611686018427387904), (1, .methodref 17 18), (0, .class_ 19), (0, .nameAndType 20 21), (0, u "com/example/skuld/skuld/team/ParallelismOfPinLaw"), (0, u "toward"), (0, u "(IJ)I"), (0, .long 3), (1, .long 4), (1, .double 4625196817309499392), (1, .double 4613937818241073152), (4, u "law"), (0, u "(IIIIII)Z")] 2

def k1m0 : Method := { name := "<init>", desc := "()V", sig := { parameters := [], returnType := none }, accessFlags := 2, code := none }
def k1c1 : Code := { maxStack := 2, maxLocals := 4, code := method_2_code, exceptionTable := #[], attributes := #[] }
def k1m1 : Method := { name := "toward", desc := "(IJ)I", sig := { parameters := [.int, .long], returnType := some .int }, accessFlags := 10, code := some k1c1 }
def k1c2 : Code := { maxStack := 8, maxLocals := 31, code := code, exceptionTable := #[], attributes := #[] }
def k1m2 : Method := { name := "law", desc := "(IIIIII)Z", sig := { parameters := [.int, .int, .int, .int, .int, .int], returnType := some .boolean }, accessFlags := 9, code := some k1c2 }
/-- com/example/skuld/skuld/team/ParallelismOfPinLaw -/
def k1 : Class := { plain "com/example/skuld/skuld/team/ParallelismOfPinLaw" (some 0) with
  accessFlags := 49
  interfaces := #[]
  cf := some (fileOf pool1 17 #[] #[{ accessFlags := 2, nameIndex := 5, descriptorIndex := 6, attributes := #[] }, { accessFlags := 10, nameIndex := 20, descriptorIndex := 21, attributes := #[] }, { accessFlags := 9, nameIndex := 33, descriptorIndex := 34, attributes := #[] }] 49 2 #[] #[])
  fields := #[]
  methods := #[k1m0, k1m1, k1m2]
  instanceTypes := #[]
  staticTypes := #[]
  resolved := Array.replicate 37 none
  statics := none }

def pool2 : Array CpInfo := pool [(2, .class_ 4), (1, u "java/lang/Object"), (0, u "<init>"), (0, u "()V"), (7, .class_ 15), (0, u "com/example/skuld/skuld/team/Parallelism"), (2, u "of"), (0, u "([I)D")] 5

def k2m0 : Method := { name := "<init>", desc := "()V", sig := { parameters := [], returnType := none }, accessFlags := 2, code := none }
def k2c1 : Code := { maxStack := 6, maxLocals := 14, code := prog_88_method_2_code, exceptionTable := #[], attributes := #[] }
def k2m1 : Method := { name := "of", desc := "([I)D", sig := { parameters := [(.array .int)], returnType := some .double }, accessFlags := 137, code := some k2c1 }
/-- com/example/skuld/skuld/team/Parallelism -/
def k2 : Class := { plain "com/example/skuld/skuld/team/Parallelism" (some 0) with
  accessFlags := 49
  interfaces := #[]
  cf := some (fileOf pool2 14 #[] #[{ accessFlags := 2, nameIndex := 5, descriptorIndex := 6, attributes := #[] }, { accessFlags := 137, nameIndex := 18, descriptorIndex := 19, attributes := #[] }] 49 2 #[] #[])
  fields := #[]
  methods := #[k2m0, k2m1]
  instanceTypes := #[]
  staticTypes := #[]
  resolved := Array.replicate 25 none
  statics := none }

def pool3 : Array CpInfo := pool [(1, u "java/lang/Cloneable"), (0, .class_ 1), (0, u "java/lang/Object"), (0, .class_ 3)] 3

/-- java/lang/Cloneable -/
def k3 : Class := { plain "java/lang/Cloneable" (some 0) with
  accessFlags := 1537
  interfaces := #[]
  cf := some (fileOf pool3 2 #[] #[] 1537 4 #[] #[])
  fields := #[]
  methods := #[]
  instanceTypes := #[]
  staticTypes := #[]
  resolved := Array.replicate 8 none
  statics := none }

def pool4 : Array CpInfo := pool [(1, u "java/io/Serializable"), (0, .class_ 1), (0, u "java/lang/Object"), (0, .class_ 3)] 3

/-- java/io/Serializable -/
def k4 : Class := { plain "java/io/Serializable" (some 0) with
  accessFlags := 1537
  interfaces := #[]
  cf := some (fileOf pool4 2 #[] #[] 1537 4 #[] #[])
  fields := #[]
  methods := #[]
  instanceTypes := #[]
  staticTypes := #[]
  resolved := Array.replicate 8 none
  statics := none }

/-- the primitive byte -/
def k5 : Class := { plain "byte" none with kind := .primitive 'B', accessFlags := 0x411 }
/-- [B -/
def k6 : Class := { plain "[B" (some 0) with kind := .array 5 .byte, interfaces := #[3, 4], accessFlags := 1041 }

/-- the primitive int -/
def k7 : Class := { plain "int" none with kind := .primitive 'I', accessFlags := 0x411 }
/-- [I -/
def k8 : Class := { plain "[I" (some 0) with kind := .array 7 .int, interfaces := #[3, 4], accessFlags := 1041 }

def heap : Heap := #[]
def classes : Array Class := #[k0, k1, k2, k3, k4, k5, k6, k7, k8]
def interned : List (Array UInt16 × Addr) := []
def slotsUsed : Nat := 0
def theMethod : MethodId := ⟨1, 2⟩
def args0 : Array Value := #[.int 3, .int 1, .int 2, .int 3, .int 5, .int 4]
def aboutOver (below : List Frame) : State where
  vm := { classes := classes, interned := interned.toArray }
  heap := heap
  slotsUsed := slotsUsed
  threads := #[{ frames := .invoking theMethod args0 :: below }]
def below0 : List Frame := [.native { method := ⟨0, 0⟩, args := #[] }]
def about1 : State := aboutOver below0
def p0 : Program := .bare "" "" ""
def e0 : Env := launch0.env 0 0 0
theorem w_frames : about1.frames = Frame.invoking theMethod args0 :: below0 := rfl
set_option maxRecDepth 65536 in
theorem w_args : argsFit about1.vm theMethod args0 = true := by decide +kernel
set_option maxRecDepth 65536 in
theorem w_heap : heapFits about1 = true := by decide +kernel
set_option maxRecDepth 65536 in
theorem w_runnable : about1.curStatus? = some .runnable := by decide +kernel
set_option maxRecDepth 65536 in
theorem w_alone : about1.alone = true := by decide +kernel
set_option maxRecDepth 65536 in
theorem w_named : about1.methodNamed? x = some theMethod := by decide +kernel
set_option maxRecDepth 65536 in
theorem w_hears : about1.hears theMethod below0 = true := by decide +kernel
set_option maxRecDepth 65536 in
theorem w_ripe : about1.ripe theMethod args0 below0 = true := by decide +kernel
theorem w_running : about1.status = .running := rfl
set_option maxRecDepth 65536 in
theorem w_room : about1.hasRoom e0.platform room_1 = true :=
  launch0.hasRoom_least _ room_1 (by decide +kernel) (by decide +kernel) (by decide +kernel) (by decide +kernel) (by decide +kernel) (by decide +kernel)
theorem allAtoms_all (ts : List Jvm.Cond) (a : Array Jvm.Value) (st : Jvm.State) : (allAtoms ts).before a st = ts.all (fun c => c.before a st) := by
  induction ts with
  | nil => rfl
  | cons c t ih =>
    show (Jvm.Cond.and c (allAtoms t)).before a st = _
    rw [Jvm.Cond.before_and, ih, List.all_cons]
def words1 : List Jvm.Cond := Jvm.Cond.code x code maxLocals ret :: tables_1
/-- a 'code' word, met by the world's own term for the bytes: nothing is compared byte by byte -/
theorem code_word {y : MethodName} {bytes : ByteArray} {mx : Nat} {rt : Option FieldType} {a : Array Value} {s : State} {m : MethodId} {meth : Method} {c : Code} (h1 : s.methodNamed? y = some m) (h2 : s.vm.method? m = some meth) (h3 : meth.code = some c) (h4 : c.code = bytes)
    (h5 : (c.maxLocals == mx && c.exceptionTable.isEmpty && decide (c.maxStack ≤ mostOperands) && decide (meth.sig.returnType = rt) && !meth.locks && decide (parseMethodDescriptor y.desc = some meth.sig)) = true) : (Jvm.Cond.code y bytes mx rt).before a s = true := by
  simp only [Bool.and_eq_true, beq_iff_eq, Bool.not_eq_true', decide_eq_true_eq] at h5
  obtain ⟨⟨⟨⟨⟨g1, g2⟩, g3⟩, g4⟩, g5⟩, g6⟩ := h5
  simp [Cond.before, Cond.holds, Cond.value, h1, h2, h3, h4, g1, g2, g3, g4, g5, g6]
def isCode : Jvm.Cond → Bool
  | .code _ _ _ _ => true
  | _ => false
theorem all_split {L : List Jvm.Cond} {P : Jvm.Cond → Bool} (h1 : L.all (fun c => isCode c || P c) = true) (h2 : ∀ c ∈ L.filter isCode, P c = true) : L.all P = true := by
  refine List.all_eq_true.mpr fun c hc => ?_
  have h := List.all_eq_true.mp h1 c hc
  rcases Bool.eq_false_or_eq_true (isCode c) with hi | hi
  · exact h2 c (List.mem_filter.mpr ⟨hc, hi⟩)
  · simpa [hi] using h
set_option maxRecDepth 65536 in
theorem w_c0 : (Jvm.Cond.code x code maxLocals ret).before args0 about1 = true := code_word (m := ⟨1, 2⟩) (meth := k1m2) (c := k1c2) (by decide +kernel) rfl rfl rfl (by decide +kernel)
set_option maxRecDepth 65536 in
theorem w_c1 : (Jvm.Cond.code ({ cls := "com/example/skuld/skuld/team/Parallelism", name := "of", desc := "([I)D" } : Jvm.MethodName) prog_88_method_2_code (14 : Nat) (Option.some Jvm.ClassFile.FieldType.double)).before args0 about1 = true := code_word (m := ⟨2, 1⟩) (meth := k2m1) (c := k2c1) (by decide +kernel) rfl rfl rfl (by decide +kernel)
set_option maxRecDepth 65536 in
theorem w_c2 : (Jvm.Cond.code ({ cls := "com/example/skuld/skuld/team/ParallelismOfPinLaw", name := "toward", desc := "(IJ)I" } : Jvm.MethodName) method_2_code (4 : Nat) (Option.some Jvm.ClassFile.FieldType.int)).before args0 about1 = true := code_word (m := ⟨1, 1⟩) (meth := k1m1) (c := k1c1) (by decide +kernel) rfl rfl rfl (by decide +kernel)
def codes1 : List Jvm.Cond := [Jvm.Cond.code x code maxLocals ret, Jvm.Cond.code ({ cls := "com/example/skuld/skuld/team/Parallelism", name := "of", desc := "([I)D" } : Jvm.MethodName) prog_88_method_2_code (14 : Nat) (Option.some Jvm.ClassFile.FieldType.double), Jvm.Cond.code ({ cls := "com/example/skuld/skuld/team/ParallelismOfPinLaw", name := "toward", desc := "(IJ)I" } : Jvm.MethodName) method_2_code (4 : Nat) (Option.some Jvm.ClassFile.FieldType.int)]
set_option maxRecDepth 65536 in
theorem codes_eq : words1.filter isCode = codes1 := rfl
theorem w_codes : ∀ c ∈ words1.filter isCode, c.before args0 about1 = true := by
  rw [codes_eq]
  intro c hc
  simp only [codes1, List.mem_cons, List.not_mem_nil, or_false] at hc
  rcases hc with rfl | rfl | rfl
  · exact w_c0
  · exact w_c1
  · exact w_c2
set_option maxRecDepth 65536 in
theorem w_t1 : words1.all (fun c => isCode c || c.before args0 about1) = true := by decide +kernel
theorem w_tables : (allAtoms (Jvm.Cond.code x code maxLocals ret :: tables_1)).before args0 about1 = true := by
  rw [allAtoms_all]
  show words1.all (fun c => c.before args0 about1) = true
  refine all_split ?_ w_codes
  rw [w_t1]
set_option maxRecDepth 65536 in
theorem w_case : (Jvm.Cond.and given_1 narrow_1).before args0 about1 = true := by decide +kernel
theorem w_applies : (headSpec (Jvm.Cond.code x code maxLocals ret :: tables_1) room_1).applies x e0.platform about1 = true :=
  (Spec.applies_iff w_frames).mpr ⟨w_running, w_runnable, w_alone, w_named, w_hears, w_ripe, w_room, w_tables⟩
theorem atStart : AtStart classFile x code maxLocals ret World_1 tables_1 room_1 Calls_1 rest_1 Pre_1 launch0 p0 e0 about1 theMethod args0 below0 :=
  ⟨lists_1, trivial, launch0.admits_env _ _ _, launch0.least_env, fairChoices_fair.cas, fairChoices_fair.clock, w_frames, w_args, w_heap, w_applies, trivial, trivial, w_case⟩
end start1
theorem witness_1 : WitnessClaimed_1 := ⟨start1.p0, start1.e0, start1.about1, start1.theMethod, start1.args0, start1.below0, start1.atStart⟩
end Jvm.Pilot.@@N@@
