import JvmDerived
import JvmDerived.Pilot.@@N@@Statement
import JvmDerived.Pilot.@@N@@Code
set_option linter.unusedVariables false
set_option linter.unusedSimpArgs false
namespace Jvm.Own
open Jvm Sem ClassFile Op Lib Jvm.Stand Jvm.Free Jvm.LawKit Jvm.RoadKit Bundle
/-- from the state U on the body comes to its end, and what it leaves answers to Q -/
def Ends (tb : Tables) (e : Env) (below : List Frame) (Q : Option Value → Heap → List Loc → Prop) (F : Outcome → State → List Loc → Prop) (U : State) : Prop :=
  ∃ s₂ o, Steps tb e below U s₂ ∧ s₂.status = .running ∧ Ended s₂ below o ∧ ∃ v L, o = .returned v ∧ Q v s₂.heap L ∧ F o s₂ L
/-- the frame that a body keeps; the wide one of a body that may load a String constant -/
abbrev FE (s : State) (C S : Nat) : Outcome → State → List Loc → Prop := fun o t L => FrameEnd s o t L C S
abbrev FW (s : State) (C S : Nat) : Outcome → State → List Loc → Prop := fun o t L => ReturnedEndW s o t L C S
section Walk
variable {p : Program} {l : Launch} {e : Env} {R : Room} {s : State} {m : MethodId} {args : Array Value} {below : List Frame} {meth : Method} {c : Code} {T : State} {locs : List Loc} {cells slots : Nat} {Q : Option Value → Heap → List Loc → Prop} {F : Outcome → State → List Loc → Prop} {C S : Nat} {pc : Nat} {Ls : Array Slot} {st : List Value} {Z : State} {a0 : Array Value} {h : Heap}
theorem Ends.step {tb : Tables} {U V : State} (k : Ends tb e below Q F V) (hs : ∀ t, Steps tb e below V t → Steps tb e below U t) : Ends tb e below Q F U := by
  obtain ⟨s₂, o, h1, r⟩ := k
  exact ⟨s₂, o, hs _ h1, r⟩
theorem Ends.mono {tb : Tables} {U : State} {Q' : Option Value → Heap → List Loc → Prop} (k : Ends tb e below Q' F U) (hq : ∀ v h L, Q' v h L → Q v h L) : Ends tb e below Q F U := by
  obtain ⟨s₂, o, h1, h2, h3, v, L, h4, h5, h6⟩ := k
  exact ⟨s₂, o, h1, h2, h3, v, L, h4, hq _ _ _ h5, h6⟩
theorem iload (n : Nat) (X : Stand p l e R s m args below meth c T locs cells slots) (hx : p.tables.exec = Jvm.exec) {k : Nat} {v : Int32} (hd : decode c.code pc = .ok (.iload k, 2)) (hn : pc + 2 = n) (hl : Ls[k]? = some (.val (.int v))) (K : Ends p.tables e below Q F (T.setTop (mkF m n Ls (.int v :: st)))) : Ends p.tables e below Q F (T.setTop (mkF m pc Ls (st))) := by
  subst hn; exact K.step fun t k => XS.iload (g := mkF m pc Ls (st)) X.here hx rfl hd hl k
theorem iloadN (n : Nat) (X : Stand p l e R s m args below meth c T locs cells slots) (hx : p.tables.exec = Jvm.exec) {k : Fin 4} {v : Int32} (hd : decode c.code pc = .ok (.iload_n k, 1)) (hn : pc + 1 = n) (hl : Ls[k.val]? = some (.val (.int v))) (K : Ends p.tables e below Q F (T.setTop (mkF m n Ls (.int v :: st)))) : Ends p.tables e below Q F (T.setTop (mkF m pc Ls (st))) := by
  subst hn; exact K.step fun t k => XS.iloadN (g := mkF m pc Ls (st)) X.here hx rfl hd hl k
theorem lload (n : Nat) (X : Stand p l e R s m args below meth c T locs cells slots) (hx : p.tables.exec = Jvm.exec) {k : Nat} {v : Int64} (hd : decode c.code pc = .ok (.lload k, 2)) (hn : pc + 2 = n) (hl : Ls[k]? = some (.val (.long v))) (K : Ends p.tables e below Q F (T.setTop (mkF m n Ls (.long v :: st)))) : Ends p.tables e below Q F (T.setTop (mkF m pc Ls (st))) := by
  subst hn; exact K.step fun t k => XS.lload (g := mkF m pc Ls (st)) X.here hx rfl hd hl k
theorem lloadN (n : Nat) (X : Stand p l e R s m args below meth c T locs cells slots) (hx : p.tables.exec = Jvm.exec) {k : Fin 4} {v : Int64} (hd : decode c.code pc = .ok (.lload_n k, 1)) (hn : pc + 1 = n) (hl : Ls[k.val]? = some (.val (.long v))) (K : Ends p.tables e below Q F (T.setTop (mkF m n Ls (.long v :: st)))) : Ends p.tables e below Q F (T.setTop (mkF m pc Ls (st))) := by
  subst hn; exact K.step fun t k => XS.lloadN (g := mkF m pc Ls (st)) X.here hx rfl hd hl k
theorem aload (n : Nat) (X : Stand p l e R s m args below meth c T locs cells slots) (hx : p.tables.exec = Jvm.exec) {k : Nat} {v : Value} (hd : decode c.code pc = .ok (.aload k, 2)) (hn : pc + 2 = n) (hl : Ls[k]? = some (.val v)) (hv : v.isRef = true) (K : Ends p.tables e below Q F (T.setTop (mkF m n Ls (v :: st)))) : Ends p.tables e below Q F (T.setTop (mkF m pc Ls (st))) := by
  subst hn; exact K.step fun t k => XS.aload (g := mkF m pc Ls (st)) X.here hx rfl hd hl hv k
theorem aloadN (n : Nat) (X : Stand p l e R s m args below meth c T locs cells slots) (hx : p.tables.exec = Jvm.exec) {k : Fin 4} {v : Value} (hd : decode c.code pc = .ok (.aload_n k, 1)) (hn : pc + 1 = n) (hl : Ls[k.val]? = some (.val v)) (hv : v.isRef = true) (K : Ends p.tables e below Q F (T.setTop (mkF m n Ls (v :: st)))) : Ends p.tables e below Q F (T.setTop (mkF m pc Ls (st))) := by
  subst hn; exact K.step fun t k => XS.aloadN (g := mkF m pc Ls (st)) X.here hx rfl hd hl hv k
theorem iconst (n : Nat) (X : Stand p l e R s m args below meth c T locs cells slots) (hx : p.tables.exec = Jvm.exec) {i : Int} (v : Int32) (hd : decode c.code pc = .ok (.iconst i, 1)) (hn : pc + 1 = n) (hv : Int32.ofInt i = v) (K : Ends p.tables e below Q F (T.setTop (mkF m n Ls (.int v :: st)))) : Ends p.tables e below Q F (T.setTop (mkF m pc Ls (st))) := by
  subst hn; exact K.step fun t k => XS.iconst (g := mkF m pc Ls (st)) X.here hx rfl hd (hv ▸ k)
theorem bipush (n : Nat) (X : Stand p l e R s m args below meth c T locs cells slots) (hx : p.tables.exec = Jvm.exec) {i : Int} (v : Int32) (hd : decode c.code pc = .ok (.bipush i, 2)) (hn : pc + 2 = n) (hv : (Int8.ofInt i).toInt32 = v) (K : Ends p.tables e below Q F (T.setTop (mkF m n Ls (.int v :: st)))) : Ends p.tables e below Q F (T.setTop (mkF m pc Ls (st))) := by
  subst hn; exact K.step fun t k => XS.bipush (g := mkF m pc Ls (st)) X.here hx rfl hd (hv ▸ k)
theorem sipush (n : Nat) (X : Stand p l e R s m args below meth c T locs cells slots) (hx : p.tables.exec = Jvm.exec) {i : Int} (v : Int32) (hd : decode c.code pc = .ok (.sipush i, 3)) (hn : pc + 3 = n) (hv : (Int16.ofInt i).toInt32 = v) (K : Ends p.tables e below Q F (T.setTop (mkF m n Ls (.int v :: st)))) : Ends p.tables e below Q F (T.setTop (mkF m pc Ls (st))) := by
  subst hn; exact K.step fun t k => XS.sipush (g := mkF m pc Ls (st)) X.here hx rfl hd (hv ▸ k)
theorem lconst (n : Nat) (X : Stand p l e R s m args below meth c T locs cells slots) (hx : p.tables.exec = Jvm.exec) {i : Fin 2} (v : Int64) (hd : decode c.code pc = .ok (.lconst i, 1)) (hn : pc + 1 = n) (hv : Int64.ofNat i = v) (K : Ends p.tables e below Q F (T.setTop (mkF m n Ls (.long v :: st)))) : Ends p.tables e below Q F (T.setTop (mkF m pc Ls (st))) := by
  subst hn; exact K.step fun t k => XS.lconst (g := mkF m pc Ls (st)) X.here hx rfl hd (hv ▸ k)
theorem aconstNull (n : Nat) (X : Stand p l e R s m args below meth c T locs cells slots) (hx : p.tables.exec = Jvm.exec)  (hd : decode c.code pc = .ok (.aconst_null, 1)) (hn : pc + 1 = n)  (K : Ends p.tables e below Q F (T.setTop (mkF m n Ls (.null :: st)))) : Ends p.tables e below Q F (T.setTop (mkF m pc Ls (st))) := by
  subst hn; exact K.step fun t k => XS.aconstNull (g := mkF m pc Ls (st)) X.here hx rfl hd k
theorem iadd (n : Nat) (X : Stand p l e R s m args below meth c T locs cells slots) (hx : p.tables.exec = Jvm.exec) {x y r : Int32} {rest : List Value} (hd : decode c.code pc = .ok (.iadd, 1)) (hn : pc + 1 = n) (hr : x + y = r) (K : Ends p.tables e below Q F (T.setTop (mkF m n Ls (.int r :: rest)))) : Ends p.tables e below Q F (T.setTop (mkF m pc Ls (.int y :: .int x :: rest))) := by
  subst hn; exact K.step fun t k => XS.iadd (g := mkF m pc Ls (.int y :: .int x :: rest)) X.here hx rfl hd rfl (hr ▸ k)
theorem isub (n : Nat) (X : Stand p l e R s m args below meth c T locs cells slots) (hx : p.tables.exec = Jvm.exec) {x y r : Int32} {rest : List Value} (hd : decode c.code pc = .ok (.isub, 1)) (hn : pc + 1 = n) (hr : x - y = r) (K : Ends p.tables e below Q F (T.setTop (mkF m n Ls (.int r :: rest)))) : Ends p.tables e below Q F (T.setTop (mkF m pc Ls (.int y :: .int x :: rest))) := by
  subst hn; exact K.step fun t k => XS.isub (g := mkF m pc Ls (.int y :: .int x :: rest)) X.here hx rfl hd rfl (hr ▸ k)
theorem iand (n : Nat) (X : Stand p l e R s m args below meth c T locs cells slots) (hx : p.tables.exec = Jvm.exec) {x y r : Int32} {rest : List Value} (hd : decode c.code pc = .ok (.iand, 1)) (hn : pc + 1 = n) (hr : x &&& y = r) (K : Ends p.tables e below Q F (T.setTop (mkF m n Ls (.int r :: rest)))) : Ends p.tables e below Q F (T.setTop (mkF m pc Ls (.int y :: .int x :: rest))) := by
  subst hn; exact K.step fun t k => XS.iand (g := mkF m pc Ls (.int y :: .int x :: rest)) X.here hx rfl hd rfl (hr ▸ k)
theorem imul (n : Nat) (X : Stand p l e R s m args below meth c T locs cells slots) (hx : p.tables.exec = Jvm.exec) {x y r : Int32} {rest : List Value} (hd : decode c.code pc = .ok (.imul, 1)) (hn : pc + 1 = n) (hr : x * y = r) (K : Ends p.tables e below Q F (T.setTop (mkF m n Ls (.int r :: rest)))) : Ends p.tables e below Q F (T.setTop (mkF m pc Ls (.int y :: .int x :: rest))) := by
  subst hn; exact K.step fun t k => XS.imul (g := mkF m pc Ls (.int y :: .int x :: rest)) X.here hx rfl hd rfl (hr ▸ k)
theorem ior (n : Nat) (X : Stand p l e R s m args below meth c T locs cells slots) (hx : p.tables.exec = Jvm.exec) {x y r : Int32} {rest : List Value} (hd : decode c.code pc = .ok (.ior, 1)) (hn : pc + 1 = n) (hr : x ||| y = r) (K : Ends p.tables e below Q F (T.setTop (mkF m n Ls (.int r :: rest)))) : Ends p.tables e below Q F (T.setTop (mkF m pc Ls (.int y :: .int x :: rest))) := by
  subst hn; exact K.step fun t k => XS.ior (g := mkF m pc Ls (.int y :: .int x :: rest)) X.here hx rfl hd rfl (hr ▸ k)
theorem ixor (n : Nat) (X : Stand p l e R s m args below meth c T locs cells slots) (hx : p.tables.exec = Jvm.exec) {x y r : Int32} {rest : List Value} (hd : decode c.code pc = .ok (.ixor, 1)) (hn : pc + 1 = n) (hr : x ^^^ y = r) (K : Ends p.tables e below Q F (T.setTop (mkF m n Ls (.int r :: rest)))) : Ends p.tables e below Q F (T.setTop (mkF m pc Ls (.int y :: .int x :: rest))) := by
  subst hn; exact K.step fun t k => XS.ixor (g := mkF m pc Ls (.int y :: .int x :: rest)) X.here hx rfl hd rfl (hr ▸ k)
theorem ishl (n : Nat) (X : Stand p l e R s m args below meth c T locs cells slots) (hx : p.tables.exec = Jvm.exec) {x y r : Int32} {rest : List Value} (hd : decode c.code pc = .ok (.ishl, 1)) (hn : pc + 1 = n) (hr : x <<< (y &&& 31) = r) (K : Ends p.tables e below Q F (T.setTop (mkF m n Ls (.int r :: rest)))) : Ends p.tables e below Q F (T.setTop (mkF m pc Ls (.int y :: .int x :: rest))) := by
  subst hn; exact K.step fun t k => XS.ishl (g := mkF m pc Ls (.int y :: .int x :: rest)) X.here hx rfl hd rfl (hr ▸ k)
theorem ishr (n : Nat) (X : Stand p l e R s m args below meth c T locs cells slots) (hx : p.tables.exec = Jvm.exec) {x y r : Int32} {rest : List Value} (hd : decode c.code pc = .ok (.ishr, 1)) (hn : pc + 1 = n) (hr : x >>> (y &&& 31) = r) (K : Ends p.tables e below Q F (T.setTop (mkF m n Ls (.int r :: rest)))) : Ends p.tables e below Q F (T.setTop (mkF m pc Ls (.int y :: .int x :: rest))) := by
  subst hn; exact K.step fun t k => XS.ishr (g := mkF m pc Ls (.int y :: .int x :: rest)) X.here hx rfl hd rfl (hr ▸ k)
theorem iushr (n : Nat) (X : Stand p l e R s m args below meth c T locs cells slots) (hx : p.tables.exec = Jvm.exec) {x y r : Int32} {rest : List Value} (hd : decode c.code pc = .ok (.iushr, 1)) (hn : pc + 1 = n) (hr : (x.toUInt32 >>> (y &&& 31).toUInt32).toInt32 = r) (K : Ends p.tables e below Q F (T.setTop (mkF m n Ls (.int r :: rest)))) : Ends p.tables e below Q F (T.setTop (mkF m pc Ls (.int y :: .int x :: rest))) := by
  subst hn; exact K.step fun t k => XS.iushr (g := mkF m pc Ls (.int y :: .int x :: rest)) X.here hx rfl hd rfl (hr ▸ k)
theorem ladd (n : Nat) (X : Stand p l e R s m args below meth c T locs cells slots) (hx : p.tables.exec = Jvm.exec) {x y r : Int64} {rest : List Value} (hd : decode c.code pc = .ok (.ladd, 1)) (hn : pc + 1 = n) (hr : x + y = r) (K : Ends p.tables e below Q F (T.setTop (mkF m n Ls (.long r :: rest)))) : Ends p.tables e below Q F (T.setTop (mkF m pc Ls (.long y :: .long x :: rest))) := by
  subst hn; exact K.step fun t k => XS.ladd (g := mkF m pc Ls (.long y :: .long x :: rest)) X.here hx rfl hd rfl (hr ▸ k)
theorem lsub (n : Nat) (X : Stand p l e R s m args below meth c T locs cells slots) (hx : p.tables.exec = Jvm.exec) {x y r : Int64} {rest : List Value} (hd : decode c.code pc = .ok (.lsub, 1)) (hn : pc + 1 = n) (hr : x - y = r) (K : Ends p.tables e below Q F (T.setTop (mkF m n Ls (.long r :: rest)))) : Ends p.tables e below Q F (T.setTop (mkF m pc Ls (.long y :: .long x :: rest))) := by
  subst hn; exact K.step fun t k => XS.lsub (g := mkF m pc Ls (.long y :: .long x :: rest)) X.here hx rfl hd rfl (hr ▸ k)
theorem land (n : Nat) (X : Stand p l e R s m args below meth c T locs cells slots) (hx : p.tables.exec = Jvm.exec) {x y r : Int64} {rest : List Value} (hd : decode c.code pc = .ok (.land, 1)) (hn : pc + 1 = n) (hr : x &&& y = r) (K : Ends p.tables e below Q F (T.setTop (mkF m n Ls (.long r :: rest)))) : Ends p.tables e below Q F (T.setTop (mkF m pc Ls (.long y :: .long x :: rest))) := by
  subst hn; exact K.step fun t k => XS.land (g := mkF m pc Ls (.long y :: .long x :: rest)) X.here hx rfl hd rfl (hr ▸ k)
theorem lmul (n : Nat) (X : Stand p l e R s m args below meth c T locs cells slots) (hx : p.tables.exec = Jvm.exec) {x y r : Int64} {rest : List Value} (hd : decode c.code pc = .ok (.lmul, 1)) (hn : pc + 1 = n) (hr : x * y = r) (K : Ends p.tables e below Q F (T.setTop (mkF m n Ls (.long r :: rest)))) : Ends p.tables e below Q F (T.setTop (mkF m pc Ls (.long y :: .long x :: rest))) := by
  subst hn; exact K.step fun t k => XS.lmul (g := mkF m pc Ls (.long y :: .long x :: rest)) X.here hx rfl hd rfl (hr ▸ k)
theorem lor (n : Nat) (X : Stand p l e R s m args below meth c T locs cells slots) (hx : p.tables.exec = Jvm.exec) {x y r : Int64} {rest : List Value} (hd : decode c.code pc = .ok (.lor, 1)) (hn : pc + 1 = n) (hr : x ||| y = r) (K : Ends p.tables e below Q F (T.setTop (mkF m n Ls (.long r :: rest)))) : Ends p.tables e below Q F (T.setTop (mkF m pc Ls (.long y :: .long x :: rest))) := by
  subst hn; exact K.step fun t k => XS.lor (g := mkF m pc Ls (.long y :: .long x :: rest)) X.here hx rfl hd rfl (hr ▸ k)
theorem lxor (n : Nat) (X : Stand p l e R s m args below meth c T locs cells slots) (hx : p.tables.exec = Jvm.exec) {x y r : Int64} {rest : List Value} (hd : decode c.code pc = .ok (.lxor, 1)) (hn : pc + 1 = n) (hr : x ^^^ y = r) (K : Ends p.tables e below Q F (T.setTop (mkF m n Ls (.long r :: rest)))) : Ends p.tables e below Q F (T.setTop (mkF m pc Ls (.long y :: .long x :: rest))) := by
  subst hn; exact K.step fun t k => XS.lxor (g := mkF m pc Ls (.long y :: .long x :: rest)) X.here hx rfl hd rfl (hr ▸ k)
theorem lshl (n : Nat) (X : Stand p l e R s m args below meth c T locs cells slots) (hx : p.tables.exec = Jvm.exec) {x r : Int64} {y : Int32} {rest : List Value} (hd : decode c.code pc = .ok (.lshl, 1)) (hn : pc + 1 = n) (hr : x <<< (y &&& 0x3f).toInt64 = r) (K : Ends p.tables e below Q F (T.setTop (mkF m n Ls (.long r :: rest)))) : Ends p.tables e below Q F (T.setTop (mkF m pc Ls (.int y :: .long x :: rest))) := by
  subst hn; exact K.step fun t k => XS.lshl (g := mkF m pc Ls (.int y :: .long x :: rest)) X.here hx rfl hd rfl (hr ▸ k)
theorem lshr (n : Nat) (X : Stand p l e R s m args below meth c T locs cells slots) (hx : p.tables.exec = Jvm.exec) {x r : Int64} {y : Int32} {rest : List Value} (hd : decode c.code pc = .ok (.lshr, 1)) (hn : pc + 1 = n) (hr : x >>> (y &&& 0x3f).toInt64 = r) (K : Ends p.tables e below Q F (T.setTop (mkF m n Ls (.long r :: rest)))) : Ends p.tables e below Q F (T.setTop (mkF m pc Ls (.int y :: .long x :: rest))) := by
  subst hn; exact K.step fun t k => XS.lshr (g := mkF m pc Ls (.int y :: .long x :: rest)) X.here hx rfl hd rfl (hr ▸ k)
theorem lushr (n : Nat) (X : Stand p l e R s m args below meth c T locs cells slots) (hx : p.tables.exec = Jvm.exec) {x r : Int64} {y : Int32} {rest : List Value} (hd : decode c.code pc = .ok (.lushr, 1)) (hn : pc + 1 = n) (hr : (x.toUInt64 >>> (y &&& 0x3f).toInt64.toUInt64).toInt64 = r) (K : Ends p.tables e below Q F (T.setTop (mkF m n Ls (.long r :: rest)))) : Ends p.tables e below Q F (T.setTop (mkF m pc Ls (.int y :: .long x :: rest))) := by
  subst hn; exact K.step fun t k => XS.lushr (g := mkF m pc Ls (.int y :: .long x :: rest)) X.here hx rfl hd rfl (hr ▸ k)
theorem idiv (n : Nat) (X : Stand p l e R s m args below meth c T locs cells slots) (hx : p.tables.exec = Jvm.exec) {x y r : Int32} {rest : List Value} (hd : decode c.code pc = .ok (.idiv, 1)) (hn : pc + 1 = n) (hy : y ≠ 0) (hr : x / y = r) (K : Ends p.tables e below Q F (T.setTop (mkF m n Ls (.int r :: rest)))) : Ends p.tables e below Q F (T.setTop (mkF m pc Ls (.int y :: .int x :: rest))) := by
  subst hn; exact K.step fun t k => XS.idiv (g := mkF m pc Ls (.int y :: .int x :: rest)) X.here hx rfl hd rfl hy (hr ▸ k)
theorem irem (n : Nat) (X : Stand p l e R s m args below meth c T locs cells slots) (hx : p.tables.exec = Jvm.exec) {x y r : Int32} {rest : List Value} (hd : decode c.code pc = .ok (.irem, 1)) (hn : pc + 1 = n) (hy : y ≠ 0) (hr : x % y = r) (K : Ends p.tables e below Q F (T.setTop (mkF m n Ls (.int r :: rest)))) : Ends p.tables e below Q F (T.setTop (mkF m pc Ls (.int y :: .int x :: rest))) := by
  subst hn; exact K.step fun t k => iremM (g := mkF m pc Ls (.int y :: .int x :: rest)) X hx rfl hd rfl hy (hr ▸ k)
theorem ldiv (n : Nat) (X : Stand p l e R s m args below meth c T locs cells slots) (hx : p.tables.exec = Jvm.exec) {x y r : Int64} {rest : List Value} (hd : decode c.code pc = .ok (.ldiv, 1)) (hn : pc + 1 = n) (hy : y ≠ 0) (hr : x / y = r) (K : Ends p.tables e below Q F (T.setTop (mkF m n Ls (.long r :: rest)))) : Ends p.tables e below Q F (T.setTop (mkF m pc Ls (.long y :: .long x :: rest))) := by
  subst hn; exact K.step fun t k => XS.ldiv (g := mkF m pc Ls (.long y :: .long x :: rest)) X.here hx rfl hd rfl hy (hr ▸ k)
theorem lrem (n : Nat) (X : Stand p l e R s m args below meth c T locs cells slots) (hx : p.tables.exec = Jvm.exec) {x y r : Int64} {rest : List Value} (hd : decode c.code pc = .ok (.lrem, 1)) (hn : pc + 1 = n) (hy : y ≠ 0) (hr : x % y = r) (K : Ends p.tables e below Q F (T.setTop (mkF m n Ls (.long r :: rest)))) : Ends p.tables e below Q F (T.setTop (mkF m pc Ls (.long y :: .long x :: rest))) := by
  subst hn; exact K.step fun t k => XS.lrem (g := mkF m pc Ls (.long y :: .long x :: rest)) X.here hx rfl hd rfl hy (by rw [lrem_mod, hr]; exact k)
theorem ineg (n : Nat) (X : Stand p l e R s m args below meth c T locs cells slots) (hx : p.tables.exec = Jvm.exec) {x : Int32} {r : Int32} {rest : List Value} (hd : decode c.code pc = .ok (.ineg, 1)) (hn : pc + 1 = n) (hr : -x = r) (K : Ends p.tables e below Q F (T.setTop (mkF m n Ls (.int r :: rest)))) : Ends p.tables e below Q F (T.setTop (mkF m pc Ls (.int x :: rest))) := by
  subst hn; exact K.step fun t k => XS.ineg (g := mkF m pc Ls (.int x :: rest)) X.here hx rfl hd rfl (hr ▸ k)
theorem lneg (n : Nat) (X : Stand p l e R s m args below meth c T locs cells slots) (hx : p.tables.exec = Jvm.exec) {x : Int64} {r : Int64} {rest : List Value} (hd : decode c.code pc = .ok (.lneg, 1)) (hn : pc + 1 = n) (hr : -x = r) (K : Ends p.tables e below Q F (T.setTop (mkF m n Ls (.long r :: rest)))) : Ends p.tables e below Q F (T.setTop (mkF m pc Ls (.long x :: rest))) := by
  subst hn; exact K.step fun t k => XS.lneg (g := mkF m pc Ls (.long x :: rest)) X.here hx rfl hd rfl (hr ▸ k)
theorem i2l (n : Nat) (X : Stand p l e R s m args below meth c T locs cells slots) (hx : p.tables.exec = Jvm.exec) {x : Int32} {r : Int64} {rest : List Value} (hd : decode c.code pc = .ok (.i2l, 1)) (hn : pc + 1 = n) (hr : x.toInt64 = r) (K : Ends p.tables e below Q F (T.setTop (mkF m n Ls (.long r :: rest)))) : Ends p.tables e below Q F (T.setTop (mkF m pc Ls (.int x :: rest))) := by
  subst hn; exact K.step fun t k => XS.i2l (g := mkF m pc Ls (.int x :: rest)) X.here hx rfl hd rfl (hr ▸ k)
theorem l2i (n : Nat) (X : Stand p l e R s m args below meth c T locs cells slots) (hx : p.tables.exec = Jvm.exec) {x : Int64} {r : Int32} {rest : List Value} (hd : decode c.code pc = .ok (.l2i, 1)) (hn : pc + 1 = n) (hr : x.toInt32 = r) (K : Ends p.tables e below Q F (T.setTop (mkF m n Ls (.int r :: rest)))) : Ends p.tables e below Q F (T.setTop (mkF m pc Ls (.long x :: rest))) := by
  subst hn; exact K.step fun t k => XS.l2i (g := mkF m pc Ls (.long x :: rest)) X.here hx rfl hd rfl (hr ▸ k)
theorem i2b (n : Nat) (X : Stand p l e R s m args below meth c T locs cells slots) (hx : p.tables.exec = Jvm.exec) {x : Int32} {r : Int32} {rest : List Value} (hd : decode c.code pc = .ok (.i2b, 1)) (hn : pc + 1 = n) (hr : x.toInt8.toInt32 = r) (K : Ends p.tables e below Q F (T.setTop (mkF m n Ls (.int r :: rest)))) : Ends p.tables e below Q F (T.setTop (mkF m pc Ls (.int x :: rest))) := by
  subst hn; exact K.step fun t k => XS.i2b (g := mkF m pc Ls (.int x :: rest)) X.here hx rfl hd rfl (hr ▸ k)
theorem i2c (n : Nat) (X : Stand p l e R s m args below meth c T locs cells slots) (hx : p.tables.exec = Jvm.exec) {x : Int32} {r : Int32} {rest : List Value} (hd : decode c.code pc = .ok (.i2c, 1)) (hn : pc + 1 = n) (hr : x.toUInt32.toUInt16.toUInt32.toInt32 = r) (K : Ends p.tables e below Q F (T.setTop (mkF m n Ls (.int r :: rest)))) : Ends p.tables e below Q F (T.setTop (mkF m pc Ls (.int x :: rest))) := by
  subst hn; exact K.step fun t k => XS.i2c (g := mkF m pc Ls (.int x :: rest)) X.here hx rfl hd rfl (hr ▸ k)
theorem i2s (n : Nat) (X : Stand p l e R s m args below meth c T locs cells slots) (hx : p.tables.exec = Jvm.exec) {x : Int32} {r : Int32} {rest : List Value} (hd : decode c.code pc = .ok (.i2s, 1)) (hn : pc + 1 = n) (hr : x.toInt16.toInt32 = r) (K : Ends p.tables e below Q F (T.setTop (mkF m n Ls (.int r :: rest)))) : Ends p.tables e below Q F (T.setTop (mkF m pc Ls (.int x :: rest))) := by
  subst hn; exact K.step fun t k => XS.i2s (g := mkF m pc Ls (.int x :: rest)) X.here hx rfl hd rfl (hr ▸ k)
theorem dup (n : Nat) (X : Stand p l e R s m args below meth c T locs cells slots) (hx : p.tables.exec = Jvm.exec) {x : Value} {rest : List Value} (hd : decode c.code pc = .ok (.dup, 1)) (hn : pc + 1 = n) (hc : x.category = 1) (K : Ends p.tables e below Q F (T.setTop (mkF m n Ls (x :: x :: rest)))) : Ends p.tables e below Q F (T.setTop (mkF m pc Ls (x :: rest))) := by
  subst hn; exact K.step fun t k => XS.dup (g := mkF m pc Ls (x :: rest)) X.here hx rfl hd rfl hc k
theorem pop (n : Nat) (X : Stand p l e R s m args below meth c T locs cells slots) (hx : p.tables.exec = Jvm.exec) {x : Value} {rest : List Value} (hd : decode c.code pc = .ok (.pop, 1)) (hn : pc + 1 = n) (hc : x.category = 1) (K : Ends p.tables e below Q F (T.setTop (mkF m n Ls (rest)))) : Ends p.tables e below Q F (T.setTop (mkF m pc Ls (x :: rest))) := by
  subst hn; exact K.step fun t k => XS.pop (g := mkF m pc Ls (x :: rest)) X.here hx rfl hd rfl hc k
theorem dupX1 (n : Nat) (X : Stand p l e R s m args below meth c T locs cells slots) (hx : p.tables.exec = Jvm.exec) {x y : Value} {rest : List Value} (hd : decode c.code pc = .ok (.dup_x1, 1)) (hn : pc + 1 = n) (hc : x.category = 1) (hc2 : y.category = 1) (K : Ends p.tables e below Q F (T.setTop (mkF m n Ls (x :: y :: x :: rest)))) : Ends p.tables e below Q F (T.setTop (mkF m pc Ls (x :: y :: rest))) := by
  subst hn; exact K.step fun t k => XS.dupX1 (g := mkF m pc Ls (x :: y :: rest)) X.here hx rfl hd rfl hc hc2 k
theorem istore (n : Nat) (Fs : Int32 → Array Slot) (X : Stand p l e R s m args below meth c T locs cells slots) (hx : p.tables.exec = Jvm.exec) {k : Nat} {x : Int32} {rest : List Value} (hd : decode c.code pc = .ok (.istore k, 2)) (hn : pc + 2 = n) (hl : ∀ z, storeLocals Ls k (.int z) = some (Fs z)) (K : ∀ z, z = x → Ends p.tables e below Q F (T.setTop (mkF m n (Fs z) (rest)))) : Ends p.tables e below Q F (T.setTop (mkF m pc Ls (.int x :: rest))) := by
  subst hn; exact (K x rfl).step fun t k => XS.istore (g := mkF m pc Ls (.int x :: rest)) X.here hx rfl hd rfl (hl x) k
theorem istoreV (n : Nat) (L1 : Array Slot) (X : Stand p l e R s m args below meth c T locs cells slots) (hx : p.tables.exec = Jvm.exec) {k : Nat} {x : Int32} {rest : List Value} (hd : decode c.code pc = .ok (.istore k, 2)) (hn : pc + 2 = n) (hl : storeLocals Ls k (.int x) = some L1) (K : Ends p.tables e below Q F (T.setTop (mkF m n L1 (rest)))) : Ends p.tables e below Q F (T.setTop (mkF m pc Ls (.int x :: rest))) := by
  subst hn; exact K.step fun t k => XS.istore (g := mkF m pc Ls (.int x :: rest)) X.here hx rfl hd rfl hl k
theorem istoreN (n : Nat) (Fs : Int32 → Array Slot) (X : Stand p l e R s m args below meth c T locs cells slots) (hx : p.tables.exec = Jvm.exec) {k : Fin 4} {x : Int32} {rest : List Value} (hd : decode c.code pc = .ok (.istore_n k, 1)) (hn : pc + 1 = n) (hl : ∀ z, storeLocals Ls k.val (.int z) = some (Fs z)) (K : ∀ z, z = x → Ends p.tables e below Q F (T.setTop (mkF m n (Fs z) (rest)))) : Ends p.tables e below Q F (T.setTop (mkF m pc Ls (.int x :: rest))) := by
  subst hn; exact (K x rfl).step fun t k => XS.istoreN (g := mkF m pc Ls (.int x :: rest)) X.here hx rfl hd rfl (hl x) k
theorem istoreNV (n : Nat) (L1 : Array Slot) (X : Stand p l e R s m args below meth c T locs cells slots) (hx : p.tables.exec = Jvm.exec) {k : Fin 4} {x : Int32} {rest : List Value} (hd : decode c.code pc = .ok (.istore_n k, 1)) (hn : pc + 1 = n) (hl : storeLocals Ls k.val (.int x) = some L1) (K : Ends p.tables e below Q F (T.setTop (mkF m n L1 (rest)))) : Ends p.tables e below Q F (T.setTop (mkF m pc Ls (.int x :: rest))) := by
  subst hn; exact K.step fun t k => XS.istoreN (g := mkF m pc Ls (.int x :: rest)) X.here hx rfl hd rfl hl k
theorem lstore (n : Nat) (Fs : Int64 → Array Slot) (X : Stand p l e R s m args below meth c T locs cells slots) (hx : p.tables.exec = Jvm.exec) {k : Nat} {x : Int64} {rest : List Value} (hd : decode c.code pc = .ok (.lstore k, 2)) (hn : pc + 2 = n) (hl : ∀ z, storeLocals Ls k (.long z) = some (Fs z)) (K : ∀ z, z = x → Ends p.tables e below Q F (T.setTop (mkF m n (Fs z) (rest)))) : Ends p.tables e below Q F (T.setTop (mkF m pc Ls (.long x :: rest))) := by
  subst hn; exact (K x rfl).step fun t k => XS.lstore (g := mkF m pc Ls (.long x :: rest)) X.here hx rfl hd rfl (hl x) k
theorem lstoreV (n : Nat) (L1 : Array Slot) (X : Stand p l e R s m args below meth c T locs cells slots) (hx : p.tables.exec = Jvm.exec) {k : Nat} {x : Int64} {rest : List Value} (hd : decode c.code pc = .ok (.lstore k, 2)) (hn : pc + 2 = n) (hl : storeLocals Ls k (.long x) = some L1) (K : Ends p.tables e below Q F (T.setTop (mkF m n L1 (rest)))) : Ends p.tables e below Q F (T.setTop (mkF m pc Ls (.long x :: rest))) := by
  subst hn; exact K.step fun t k => XS.lstore (g := mkF m pc Ls (.long x :: rest)) X.here hx rfl hd rfl hl k
theorem lstoreN (n : Nat) (Fs : Int64 → Array Slot) (X : Stand p l e R s m args below meth c T locs cells slots) (hx : p.tables.exec = Jvm.exec) {k : Fin 4} {x : Int64} {rest : List Value} (hd : decode c.code pc = .ok (.lstore_n k, 1)) (hn : pc + 1 = n) (hl : ∀ z, storeLocals Ls k.val (.long z) = some (Fs z)) (K : ∀ z, z = x → Ends p.tables e below Q F (T.setTop (mkF m n (Fs z) (rest)))) : Ends p.tables e below Q F (T.setTop (mkF m pc Ls (.long x :: rest))) := by
  subst hn; exact (K x rfl).step fun t k => XS.lstoreN (g := mkF m pc Ls (.long x :: rest)) X.here hx rfl hd rfl (hl x) k
theorem lstoreNV (n : Nat) (L1 : Array Slot) (X : Stand p l e R s m args below meth c T locs cells slots) (hx : p.tables.exec = Jvm.exec) {k : Fin 4} {x : Int64} {rest : List Value} (hd : decode c.code pc = .ok (.lstore_n k, 1)) (hn : pc + 1 = n) (hl : storeLocals Ls k.val (.long x) = some L1) (K : Ends p.tables e below Q F (T.setTop (mkF m n L1 (rest)))) : Ends p.tables e below Q F (T.setTop (mkF m pc Ls (.long x :: rest))) := by
  subst hn; exact K.step fun t k => XS.lstoreN (g := mkF m pc Ls (.long x :: rest)) X.here hx rfl hd rfl hl k
theorem astore (n : Nat) (L1 : Array Slot) (X : Stand p l e R s m args below meth c T locs cells slots) (hx : p.tables.exec = Jvm.exec) {k : Nat} {x : Value} {rest : List Value} (hd : decode c.code pc = .ok (.astore k, 2)) (hn : pc + 2 = n) (hv : x.isRef = true) (hl : storeLocals Ls k x = some L1) (K : Ends p.tables e below Q F (T.setTop (mkF m n L1 (rest)))) : Ends p.tables e below Q F (T.setTop (mkF m pc Ls (x :: rest))) := by
  subst hn; exact K.step fun t k => XS.astore (g := mkF m pc Ls (x :: rest)) X.here hx rfl hd rfl hv hl k
theorem astoreN (n : Nat) (L1 : Array Slot) (X : Stand p l e R s m args below meth c T locs cells slots) (hx : p.tables.exec = Jvm.exec) {k : Fin 4} {x : Value} {rest : List Value} (hd : decode c.code pc = .ok (.astore_n k, 1)) (hn : pc + 1 = n) (hv : x.isRef = true) (hl : storeLocals Ls k.val x = some L1) (K : Ends p.tables e below Q F (T.setTop (mkF m n L1 (rest)))) : Ends p.tables e below Q F (T.setTop (mkF m pc Ls (x :: rest))) := by
  subst hn; exact K.step fun t k => XS.astoreN (g := mkF m pc Ls (x :: rest)) X.here hx rfl hd rfl hv hl k
theorem iinc (n : Nat) (Fs : Int32 → Array Slot) (X : Stand p l e R s m args below meth c T locs cells slots) (hx : p.tables.exec = Jvm.exec) {k : Nat} {cst : Int} {x : Int32} (d : Int32) (hd : decode c.code pc = .ok (.iinc k cst, 3)) (hn : pc + 3 = n) (hc : Int32.ofInt cst = d) (hl : Ls[k]? = some (.val (.int x))) (hl2 : ∀ z, storeLocals Ls k (.int z) = some (Fs z)) (K : ∀ z, z = x + d → Ends p.tables e below Q F (T.setTop (mkF m n (Fs z) (st)))) : Ends p.tables e below Q F (T.setTop (mkF m pc Ls (st))) := by
  subst hn hc; exact (K _ rfl).step fun t k => XS.iinc (g := mkF m pc Ls st) X.here hx rfl hd hl (hl2 _) k
theorem goto (n : Nat) (X : Stand p l e R s m args below meth c T locs cells slots) (hx : p.tables.exec = Jvm.exec) {o : Int} (hd : decode c.code pc = .ok (.goto o, 3)) (hn : 0 ≤ (pc : Int) + o ∧ ((pc : Int) + o).toNat = n) (K : Ends p.tables e below Q F (T.setTop (mkF m n Ls (st)))) : Ends p.tables e below Q F (T.setTop (mkF m pc Ls (st))) :=
  K.step fun t k => XS.goto (g := mkF m pc Ls st) X.here hx rfl (pc0 := pc) (pc' := n) rfl hd hn.1 hn.2 k
theorem icmpB (nY nN : Nat) (X : Stand p l e R s m args below meth c T locs cells slots) (hx : p.tables.exec = Jvm.exec) {cd : ClassFile.Cond} {o : Int} {x y : Int32} {rest : List Value} (hd : decode c.code pc = .ok (.if_icmp cd o, 3)) (hY : 0 ≤ (pc : Int) + o ∧ ((pc : Int) + o).toNat = nY) (hN : pc + 3 = nN) (KY : if_icmp.holds cd x y = true → Ends p.tables e below Q F (T.setTop (mkF m nY Ls (rest)))) (KN : if_icmp.holds cd x y = false → Ends p.tables e below Q F (T.setTop (mkF m nN Ls (rest)))) : Ends p.tables e below Q F (T.setTop (mkF m pc Ls (.int y :: .int x :: rest))) := by
  subst hN
  cases hb : if_icmp.holds cd x y with
  | true => exact (KY hb).step fun t k => XS.icmpYes (g := mkF m pc Ls (.int y :: .int x :: rest)) X.here hx rfl (pc0 := pc) (pc' := nY) rfl hd rfl hb hY.1 hY.2 k
  | false => exact (KN hb).step fun t k => XS.icmpNo (g := mkF m pc Ls (.int y :: .int x :: rest)) X.here hx rfl hd rfl hb k
theorem ifB (nY nN : Nat) (X : Stand p l e R s m args below meth c T locs cells slots) (hx : p.tables.exec = Jvm.exec) {cd : ClassFile.Cond} {o : Int} {x : Int32} {rest : List Value} (hd : decode c.code pc = .ok (.ifCond cd o, 3)) (hY : 0 ≤ (pc : Int) + o ∧ ((pc : Int) + o).toNat = nY) (hN : pc + 3 = nN) (KY : if_icmp.holds cd x 0 = true → Ends p.tables e below Q F (T.setTop (mkF m nY Ls (rest)))) (KN : if_icmp.holds cd x 0 = false → Ends p.tables e below Q F (T.setTop (mkF m nN Ls (rest)))) : Ends p.tables e below Q F (T.setTop (mkF m pc Ls (.int x :: rest))) := by
  subst hN
  cases hb : if_icmp.holds cd x 0 with
  | true => exact (KY hb).step fun t k => XS.ifYes (g := mkF m pc Ls (.int x :: rest)) X.here hx rfl (pc0 := pc) (pc' := nY) rfl hd rfl ((if0 _ _).trans hb) hY.1 hY.2 k
  | false => exact (KN hb).step fun t k => XS.ifNo (g := mkF m pc Ls (.int x :: rest)) X.here hx rfl hd rfl ((if0 _ _).trans hb) k
theorem h_lt {x y : Int32} : (if_icmp.holds .lt x y = true → x < y) ∧ (if_icmp.holds .lt x y = false → ¬ x < y) := by simp [if_icmp.holds]
theorem h_ge {x y : Int32} : (if_icmp.holds .ge x y = true → ¬ x < y) ∧ (if_icmp.holds .ge x y = false → x < y) := by simp [if_icmp.holds, Int32.not_lt, Int32.not_le]
theorem h_gt {x y : Int32} : (if_icmp.holds .gt x y = true → y < x) ∧ (if_icmp.holds .gt x y = false → ¬ y < x) := by simp [if_icmp.holds, Int32.not_lt, Int32.not_le]
theorem h_le {x y : Int32} : (if_icmp.holds .le x y = true → ¬ y < x) ∧ (if_icmp.holds .le x y = false → y < x) := by simp [if_icmp.holds, Int32.not_lt, Int32.not_le]
theorem h_eq {x y : Int32} : (if_icmp.holds .eq x y = true → x = y) ∧ (if_icmp.holds .eq x y = false → ¬ x = y) := by simp [if_icmp.holds]
theorem h_ne {x y : Int32} : (if_icmp.holds .ne x y = true → ¬ x = y) ∧ (if_icmp.holds .ne x y = false → x = y) := by simp [if_icmp.holds]
theorem icmp_lt (nY nN : Nat) (X : Stand p l e R s m args below meth c T locs cells slots) (hx : p.tables.exec = Jvm.exec) {o : Int} {x y : Int32} {rest : List Value} (hd : decode c.code pc = .ok (.if_icmp .lt o, 3)) (hY : 0 ≤ (pc : Int) + o ∧ ((pc : Int) + o).toNat = nY) (hN : pc + 3 = nN) (KY : x < y → Ends p.tables e below Q F (T.setTop (mkF m nY Ls (rest)))) (KN : ¬ x < y → Ends p.tables e below Q F (T.setTop (mkF m nN Ls (rest)))) : Ends p.tables e below Q F (T.setTop (mkF m pc Ls (.int y :: .int x :: rest))) :=
  icmpB nY nN X hx hd hY hN (fun hb => KY (h_lt.1 hb)) (fun hb => KN (h_lt.2 hb))
theorem if_lt (nY nN : Nat) (X : Stand p l e R s m args below meth c T locs cells slots) (hx : p.tables.exec = Jvm.exec) {o : Int} {x : Int32} {rest : List Value} (hd : decode c.code pc = .ok (.ifCond .lt o, 3)) (hY : 0 ≤ (pc : Int) + o ∧ ((pc : Int) + o).toNat = nY) (hN : pc + 3 = nN) (KY : x < 0 → Ends p.tables e below Q F (T.setTop (mkF m nY Ls (rest)))) (KN : ¬ x < 0 → Ends p.tables e below Q F (T.setTop (mkF m nN Ls (rest)))) : Ends p.tables e below Q F (T.setTop (mkF m pc Ls (.int x :: rest))) :=
  ifB nY nN X hx hd hY hN (fun hb => KY (h_lt.1 hb)) (fun hb => KN (h_lt.2 hb))
theorem icmp_ge (nY nN : Nat) (X : Stand p l e R s m args below meth c T locs cells slots) (hx : p.tables.exec = Jvm.exec) {o : Int} {x y : Int32} {rest : List Value} (hd : decode c.code pc = .ok (.if_icmp .ge o, 3)) (hY : 0 ≤ (pc : Int) + o ∧ ((pc : Int) + o).toNat = nY) (hN : pc + 3 = nN) (KY : ¬ x < y → Ends p.tables e below Q F (T.setTop (mkF m nY Ls (rest)))) (KN : x < y → Ends p.tables e below Q F (T.setTop (mkF m nN Ls (rest)))) : Ends p.tables e below Q F (T.setTop (mkF m pc Ls (.int y :: .int x :: rest))) :=
  icmpB nY nN X hx hd hY hN (fun hb => KY (h_ge.1 hb)) (fun hb => KN (h_ge.2 hb))
theorem if_ge (nY nN : Nat) (X : Stand p l e R s m args below meth c T locs cells slots) (hx : p.tables.exec = Jvm.exec) {o : Int} {x : Int32} {rest : List Value} (hd : decode c.code pc = .ok (.ifCond .ge o, 3)) (hY : 0 ≤ (pc : Int) + o ∧ ((pc : Int) + o).toNat = nY) (hN : pc + 3 = nN) (KY : ¬ x < 0 → Ends p.tables e below Q F (T.setTop (mkF m nY Ls (rest)))) (KN : x < 0 → Ends p.tables e below Q F (T.setTop (mkF m nN Ls (rest)))) : Ends p.tables e below Q F (T.setTop (mkF m pc Ls (.int x :: rest))) :=
  ifB nY nN X hx hd hY hN (fun hb => KY (h_ge.1 hb)) (fun hb => KN (h_ge.2 hb))
theorem icmp_gt (nY nN : Nat) (X : Stand p l e R s m args below meth c T locs cells slots) (hx : p.tables.exec = Jvm.exec) {o : Int} {x y : Int32} {rest : List Value} (hd : decode c.code pc = .ok (.if_icmp .gt o, 3)) (hY : 0 ≤ (pc : Int) + o ∧ ((pc : Int) + o).toNat = nY) (hN : pc + 3 = nN) (KY : y < x → Ends p.tables e below Q F (T.setTop (mkF m nY Ls (rest)))) (KN : ¬ y < x → Ends p.tables e below Q F (T.setTop (mkF m nN Ls (rest)))) : Ends p.tables e below Q F (T.setTop (mkF m pc Ls (.int y :: .int x :: rest))) :=
  icmpB nY nN X hx hd hY hN (fun hb => KY (h_gt.1 hb)) (fun hb => KN (h_gt.2 hb))
theorem if_gt (nY nN : Nat) (X : Stand p l e R s m args below meth c T locs cells slots) (hx : p.tables.exec = Jvm.exec) {o : Int} {x : Int32} {rest : List Value} (hd : decode c.code pc = .ok (.ifCond .gt o, 3)) (hY : 0 ≤ (pc : Int) + o ∧ ((pc : Int) + o).toNat = nY) (hN : pc + 3 = nN) (KY : 0 < x → Ends p.tables e below Q F (T.setTop (mkF m nY Ls (rest)))) (KN : ¬ 0 < x → Ends p.tables e below Q F (T.setTop (mkF m nN Ls (rest)))) : Ends p.tables e below Q F (T.setTop (mkF m pc Ls (.int x :: rest))) :=
  ifB nY nN X hx hd hY hN (fun hb => KY (h_gt.1 hb)) (fun hb => KN (h_gt.2 hb))
theorem icmp_le (nY nN : Nat) (X : Stand p l e R s m args below meth c T locs cells slots) (hx : p.tables.exec = Jvm.exec) {o : Int} {x y : Int32} {rest : List Value} (hd : decode c.code pc = .ok (.if_icmp .le o, 3)) (hY : 0 ≤ (pc : Int) + o ∧ ((pc : Int) + o).toNat = nY) (hN : pc + 3 = nN) (KY : ¬ y < x → Ends p.tables e below Q F (T.setTop (mkF m nY Ls (rest)))) (KN : y < x → Ends p.tables e below Q F (T.setTop (mkF m nN Ls (rest)))) : Ends p.tables e below Q F (T.setTop (mkF m pc Ls (.int y :: .int x :: rest))) :=
  icmpB nY nN X hx hd hY hN (fun hb => KY (h_le.1 hb)) (fun hb => KN (h_le.2 hb))
theorem if_le (nY nN : Nat) (X : Stand p l e R s m args below meth c T locs cells slots) (hx : p.tables.exec = Jvm.exec) {o : Int} {x : Int32} {rest : List Value} (hd : decode c.code pc = .ok (.ifCond .le o, 3)) (hY : 0 ≤ (pc : Int) + o ∧ ((pc : Int) + o).toNat = nY) (hN : pc + 3 = nN) (KY : ¬ 0 < x → Ends p.tables e below Q F (T.setTop (mkF m nY Ls (rest)))) (KN : 0 < x → Ends p.tables e below Q F (T.setTop (mkF m nN Ls (rest)))) : Ends p.tables e below Q F (T.setTop (mkF m pc Ls (.int x :: rest))) :=
  ifB nY nN X hx hd hY hN (fun hb => KY (h_le.1 hb)) (fun hb => KN (h_le.2 hb))
theorem icmp_eq (nY nN : Nat) (X : Stand p l e R s m args below meth c T locs cells slots) (hx : p.tables.exec = Jvm.exec) {o : Int} {x y : Int32} {rest : List Value} (hd : decode c.code pc = .ok (.if_icmp .eq o, 3)) (hY : 0 ≤ (pc : Int) + o ∧ ((pc : Int) + o).toNat = nY) (hN : pc + 3 = nN) (KY : x = y → Ends p.tables e below Q F (T.setTop (mkF m nY Ls (rest)))) (KN : ¬ x = y → Ends p.tables e below Q F (T.setTop (mkF m nN Ls (rest)))) : Ends p.tables e below Q F (T.setTop (mkF m pc Ls (.int y :: .int x :: rest))) :=
  icmpB nY nN X hx hd hY hN (fun hb => KY (h_eq.1 hb)) (fun hb => KN (h_eq.2 hb))
theorem if_eq (nY nN : Nat) (X : Stand p l e R s m args below meth c T locs cells slots) (hx : p.tables.exec = Jvm.exec) {o : Int} {x : Int32} {rest : List Value} (hd : decode c.code pc = .ok (.ifCond .eq o, 3)) (hY : 0 ≤ (pc : Int) + o ∧ ((pc : Int) + o).toNat = nY) (hN : pc + 3 = nN) (KY : x = 0 → Ends p.tables e below Q F (T.setTop (mkF m nY Ls (rest)))) (KN : ¬ x = 0 → Ends p.tables e below Q F (T.setTop (mkF m nN Ls (rest)))) : Ends p.tables e below Q F (T.setTop (mkF m pc Ls (.int x :: rest))) :=
  ifB nY nN X hx hd hY hN (fun hb => KY (h_eq.1 hb)) (fun hb => KN (h_eq.2 hb))
theorem icmp_ne (nY nN : Nat) (X : Stand p l e R s m args below meth c T locs cells slots) (hx : p.tables.exec = Jvm.exec) {o : Int} {x y : Int32} {rest : List Value} (hd : decode c.code pc = .ok (.if_icmp .ne o, 3)) (hY : 0 ≤ (pc : Int) + o ∧ ((pc : Int) + o).toNat = nY) (hN : pc + 3 = nN) (KY : ¬ x = y → Ends p.tables e below Q F (T.setTop (mkF m nY Ls (rest)))) (KN : x = y → Ends p.tables e below Q F (T.setTop (mkF m nN Ls (rest)))) : Ends p.tables e below Q F (T.setTop (mkF m pc Ls (.int y :: .int x :: rest))) :=
  icmpB nY nN X hx hd hY hN (fun hb => KY (h_ne.1 hb)) (fun hb => KN (h_ne.2 hb))
theorem if_ne (nY nN : Nat) (X : Stand p l e R s m args below meth c T locs cells slots) (hx : p.tables.exec = Jvm.exec) {o : Int} {x : Int32} {rest : List Value} (hd : decode c.code pc = .ok (.ifCond .ne o, 3)) (hY : 0 ≤ (pc : Int) + o ∧ ((pc : Int) + o).toNat = nY) (hN : pc + 3 = nN) (KY : ¬ x = 0 → Ends p.tables e below Q F (T.setTop (mkF m nY Ls (rest)))) (KN : x = 0 → Ends p.tables e below Q F (T.setTop (mkF m nN Ls (rest)))) : Ends p.tables e below Q F (T.setTop (mkF m pc Ls (.int x :: rest))) :=
  ifB nY nN X hx hd hY hN (fun hb => KY (h_ne.1 hb)) (fun hb => KN (h_ne.2 hb))
theorem w_lt {x y : Int64} : lcmpW x y < 0 → x < y := (lw_lt x y).mp
theorem w_nlt {x y : Int64} : ¬ lcmpW x y < 0 → ¬ x < y := fun q r => q ((lw_lt x y).mpr r)
theorem w_gt {x y : Int64} : 0 < lcmpW x y → y < x := (lw_gt x y).mp
theorem w_ngt {x y : Int64} : ¬ 0 < lcmpW x y → ¬ y < x := fun q r => q ((lw_gt x y).mpr r)
theorem w_eq {x y : Int64} : lcmpW x y = 0 → x = y := (lw_eq x y).mp
theorem w_neq {x y : Int64} : ¬ lcmpW x y = 0 → ¬ x = y := fun q r => q ((lw_eq x y).mpr r)
theorem lif_lt (nY nN : Nat) (X : Stand p l e R s m args below meth c T locs cells slots) (hx : p.tables.exec = Jvm.exec) {o : Int} {x y : Int64} {rest : List Value} (hd0 : decode c.code pc = .ok (.lcmp, 1)) {pc1 : Nat} (hp : pc + 1 = pc1) (hd : decode c.code pc1 = .ok (.ifCond .lt o, 3)) (hY : 0 ≤ (pc1 : Int) + o ∧ ((pc1 : Int) + o).toNat = nY) (hN : pc1 + 3 = nN) (KY : x < y → Ends p.tables e below Q F (T.setTop (mkF m nY Ls (rest)))) (KN : ¬ x < y → Ends p.tables e below Q F (T.setTop (mkF m nN Ls (rest)))) : Ends p.tables e below Q F (T.setTop (mkF m pc Ls (.long y :: .long x :: rest))) := by
  subst hp
  refine Ends.step ?_ fun t k => XS.lcmp (g := mkF m pc Ls (.long y :: .long x :: rest)) X.here hx rfl hd0 rfl k
  exact if_lt nY nN X hx hd hY hN (fun hb => KY (w_lt hb)) (fun hb => KN (w_nlt hb))
theorem lif_ge (nY nN : Nat) (X : Stand p l e R s m args below meth c T locs cells slots) (hx : p.tables.exec = Jvm.exec) {o : Int} {x y : Int64} {rest : List Value} (hd0 : decode c.code pc = .ok (.lcmp, 1)) {pc1 : Nat} (hp : pc + 1 = pc1) (hd : decode c.code pc1 = .ok (.ifCond .ge o, 3)) (hY : 0 ≤ (pc1 : Int) + o ∧ ((pc1 : Int) + o).toNat = nY) (hN : pc1 + 3 = nN) (KY : ¬ x < y → Ends p.tables e below Q F (T.setTop (mkF m nY Ls (rest)))) (KN : x < y → Ends p.tables e below Q F (T.setTop (mkF m nN Ls (rest)))) : Ends p.tables e below Q F (T.setTop (mkF m pc Ls (.long y :: .long x :: rest))) := by
  subst hp
  refine Ends.step ?_ fun t k => XS.lcmp (g := mkF m pc Ls (.long y :: .long x :: rest)) X.here hx rfl hd0 rfl k
  exact if_ge nY nN X hx hd hY hN (fun hb => KY (w_nlt hb)) (fun hb => KN (w_lt hb))
theorem lif_gt (nY nN : Nat) (X : Stand p l e R s m args below meth c T locs cells slots) (hx : p.tables.exec = Jvm.exec) {o : Int} {x y : Int64} {rest : List Value} (hd0 : decode c.code pc = .ok (.lcmp, 1)) {pc1 : Nat} (hp : pc + 1 = pc1) (hd : decode c.code pc1 = .ok (.ifCond .gt o, 3)) (hY : 0 ≤ (pc1 : Int) + o ∧ ((pc1 : Int) + o).toNat = nY) (hN : pc1 + 3 = nN) (KY : y < x → Ends p.tables e below Q F (T.setTop (mkF m nY Ls (rest)))) (KN : ¬ y < x → Ends p.tables e below Q F (T.setTop (mkF m nN Ls (rest)))) : Ends p.tables e below Q F (T.setTop (mkF m pc Ls (.long y :: .long x :: rest))) := by
  subst hp
  refine Ends.step ?_ fun t k => XS.lcmp (g := mkF m pc Ls (.long y :: .long x :: rest)) X.here hx rfl hd0 rfl k
  exact if_gt nY nN X hx hd hY hN (fun hb => KY (w_gt hb)) (fun hb => KN (w_ngt hb))
theorem lif_le (nY nN : Nat) (X : Stand p l e R s m args below meth c T locs cells slots) (hx : p.tables.exec = Jvm.exec) {o : Int} {x y : Int64} {rest : List Value} (hd0 : decode c.code pc = .ok (.lcmp, 1)) {pc1 : Nat} (hp : pc + 1 = pc1) (hd : decode c.code pc1 = .ok (.ifCond .le o, 3)) (hY : 0 ≤ (pc1 : Int) + o ∧ ((pc1 : Int) + o).toNat = nY) (hN : pc1 + 3 = nN) (KY : ¬ y < x → Ends p.tables e below Q F (T.setTop (mkF m nY Ls (rest)))) (KN : y < x → Ends p.tables e below Q F (T.setTop (mkF m nN Ls (rest)))) : Ends p.tables e below Q F (T.setTop (mkF m pc Ls (.long y :: .long x :: rest))) := by
  subst hp
  refine Ends.step ?_ fun t k => XS.lcmp (g := mkF m pc Ls (.long y :: .long x :: rest)) X.here hx rfl hd0 rfl k
  exact if_le nY nN X hx hd hY hN (fun hb => KY (w_ngt hb)) (fun hb => KN (w_gt hb))
theorem lif_eq (nY nN : Nat) (X : Stand p l e R s m args below meth c T locs cells slots) (hx : p.tables.exec = Jvm.exec) {o : Int} {x y : Int64} {rest : List Value} (hd0 : decode c.code pc = .ok (.lcmp, 1)) {pc1 : Nat} (hp : pc + 1 = pc1) (hd : decode c.code pc1 = .ok (.ifCond .eq o, 3)) (hY : 0 ≤ (pc1 : Int) + o ∧ ((pc1 : Int) + o).toNat = nY) (hN : pc1 + 3 = nN) (KY : x = y → Ends p.tables e below Q F (T.setTop (mkF m nY Ls (rest)))) (KN : ¬ x = y → Ends p.tables e below Q F (T.setTop (mkF m nN Ls (rest)))) : Ends p.tables e below Q F (T.setTop (mkF m pc Ls (.long y :: .long x :: rest))) := by
  subst hp
  refine Ends.step ?_ fun t k => XS.lcmp (g := mkF m pc Ls (.long y :: .long x :: rest)) X.here hx rfl hd0 rfl k
  exact if_eq nY nN X hx hd hY hN (fun hb => KY (w_eq hb)) (fun hb => KN (w_neq hb))
theorem lif_ne (nY nN : Nat) (X : Stand p l e R s m args below meth c T locs cells slots) (hx : p.tables.exec = Jvm.exec) {o : Int} {x y : Int64} {rest : List Value} (hd0 : decode c.code pc = .ok (.lcmp, 1)) {pc1 : Nat} (hp : pc + 1 = pc1) (hd : decode c.code pc1 = .ok (.ifCond .ne o, 3)) (hY : 0 ≤ (pc1 : Int) + o ∧ ((pc1 : Int) + o).toNat = nY) (hN : pc1 + 3 = nN) (KY : ¬ x = y → Ends p.tables e below Q F (T.setTop (mkF m nY Ls (rest)))) (KN : x = y → Ends p.tables e below Q F (T.setTop (mkF m nN Ls (rest)))) : Ends p.tables e below Q F (T.setTop (mkF m pc Ls (.long y :: .long x :: rest))) := by
  subst hp
  refine Ends.step ?_ fun t k => XS.lcmp (g := mkF m pc Ls (.long y :: .long x :: rest)) X.here hx rfl hd0 rfl k
  exact if_ne nY nN X hx hd hY hN (fun hb => KY (w_neq hb)) (fun hb => KN (w_eq hb))
theorem ifnull (nY nN : Nat) (X : Stand p l e R s m args below meth c T locs cells slots) (hx : p.tables.exec = Jvm.exec) {o : Int} {v : Value} {rest : List Value} (hd : decode c.code pc = .ok (.ifnull o, 3)) (hv : v.isRef = true) (hY : 0 ≤ (pc : Int) + o ∧ ((pc : Int) + o).toNat = nY) (hN : pc + 3 = nN) (KY : v = .null → Ends p.tables e below Q F (T.setTop (mkF m nY Ls (rest)))) (KN : ∀ a, v = .ref a → Ends p.tables e below Q F (T.setTop (mkF m nN Ls (rest)))) : Ends p.tables e below Q F (T.setTop (mkF m pc Ls (v :: rest))) := by
  subst hN
  rcases ref_cases hv with rfl | ⟨a, rfl⟩
  · exact (KY rfl).step fun t k => XS.ifnullYes (g := mkF m pc Ls (.null :: rest)) X.here hx rfl (pc0 := pc) (pc' := nY) rfl hd rfl hY.1 hY.2 k
  · exact (KN a rfl).step fun t k => XS.ifnullNo (g := mkF m pc Ls (.ref a :: rest)) X.here hx rfl hd rfl k
theorem ifnonnull (nY nN : Nat) (X : Stand p l e R s m args below meth c T locs cells slots) (hx : p.tables.exec = Jvm.exec) {o : Int} {v : Value} {rest : List Value} (hd : decode c.code pc = .ok (.ifnonnull o, 3)) (hv : v.isRef = true) (hY : 0 ≤ (pc : Int) + o ∧ ((pc : Int) + o).toNat = nY) (hN : pc + 3 = nN) (KY : ∀ a, v = .ref a → Ends p.tables e below Q F (T.setTop (mkF m nY Ls (rest)))) (KN : v = .null → Ends p.tables e below Q F (T.setTop (mkF m nN Ls (rest)))) : Ends p.tables e below Q F (T.setTop (mkF m pc Ls (v :: rest))) := by
  subst hN
  rcases ref_cases hv with rfl | ⟨a, rfl⟩
  · exact (KN rfl).step fun t k => XS.ifnonnullNo (g := mkF m pc Ls (.null :: rest)) X.here hx rfl hd rfl k
  · exact (KY a rfl).step fun t k => XS.ifnonnullYes (g := mkF m pc Ls (.ref a :: rest)) X.here hx rfl (pc0 := pc) (pc' := nY) rfl hd rfl hY.1 hY.2 k
theorem retI (X : Stand p l e R s m args below meth c T locs cells slots) (hx : p.tables.exec = Jvm.exec) {pc : Nat} {Ls : Array Slot} {z : Int32} {rest : List Value} (hret : meth.sig.returnType = some .int) (hd : decode c.code pc = .ok (.ireturn, 1)) {fs : List Frame}
    (hl : ∀ (f : JFrame) (acts : List Action), f.method = m → f.locked = none → f.entered = [] → (doReturn e (T.setTop f) acts (some (.int z))).1 = T.setFrames fs) : Steps p.tables e below (T.setTop (mkF m pc Ls (.int z :: rest))) (T.setFrames fs) := by
  have hm' : T.vm.method? m = some meth := X.method'
  have hn : narrow .int (.int z) = .int z := rfl
  show Steps p.tables e below (T.setTop { method := m, pc := pc, locals := Ls, stack := _ :: rest, locked := none }) _
  jvm_step X.here [X.here.top, hx, hd, hm', hret, hn]
  first | (intro acts; rw [hl _ acts rfl rfl rfl]) | rw [hl _ _ rfl rfl rfl]
  exact Steps.refl _
theorem fin {fs : List Frame} {v : Option Value} {U : State} (X : Stand p l e R s m args below meth c T locs cells slots) (hst : Steps p.tables e below U (T.setFrames fs)) (hrun : (T.setFrames fs).status = .running) (hend : Ended (T.setFrames fs) below (.returned v)) (hW : s.WarmedH (T.setFrames fs).vm) (hsame : s.sameButNew ({ T.setFrames fs with vm := s.vm } : State) locs cells slots) (q : Q v T.heap locs) (hC : cells ≤ C) (hS : slots ≤ S) : Ends p.tables e below Q (FE s C S) U :=
  ⟨_, _, hst, hrun, hend, _, _, rfl, q, ⟨_, rfl⟩, hW, hsame.mono hC hS⟩
theorem retInt (X : Stand p l e R s m args below meth c T locs cells slots) (hx : p.tables.exec = Jvm.exec) {z : Int32} {rest : List Value} (hlk : meth.locks = false) (hret : meth.sig.returnType = some .int) (hd : decode c.code pc = .ok (.ireturn, 1)) (hC : cells ≤ C) (hS : slots ≤ S) (q : Q (some (.int z)) T.heap locs) : Ends p.tables e below Q (FE s C S) (T.setTop (mkF m pc Ls (.int z :: rest))) := by
  obtain ⟨fs, hr, hrun, hended, hW, hsame⟩ := X.leave (v := some (.int z)) (fun h => by rw [hret] at h; cases h) hlk
  exact fin X (retI X hx hret hd hr) hrun hended hW hsame q hC hS
theorem retBool (X : Stand p l e R s m args below meth c T locs cells slots) (hx : p.tables.exec = Jvm.exec) {z : Int32} {rest : List Value} (hlk : meth.locks = false) (hret : meth.sig.returnType = some .boolean) (hd : decode c.code pc = .ok (.ireturn, 1)) (hC : cells ≤ C) (hS : slots ≤ S) (q : Q (some (.int (nar .boolean z))) T.heap locs) : Ends p.tables e below Q (FE s C S) (T.setTop (mkF m pc Ls (.int z :: rest))) := by
  obtain ⟨fs, hr, hrun, hended, hW, hsame⟩ := X.leave (v := some (.int (nar .boolean z))) (fun h => by rw [hret] at h; cases h) hlk
  exact fin X (retN X hx hret (Or.inl rfl) hd hr) hrun hended hW hsame q hC hS
theorem retLong (X : Stand p l e R s m args below meth c T locs cells slots) (hx : p.tables.exec = Jvm.exec) {z : Int64} (hlk : meth.locks = false) (hret : meth.sig.returnType = some .long) (hd : decode c.code pc = .ok (.lreturn, 1)) (hC : cells ≤ C) (hS : slots ≤ S) (q : Q (some (.long z)) T.heap locs) : Ends p.tables e below Q (FE s C S) (T.setTop (mkF m pc Ls ([.long z]))) := by
  obtain ⟨fs, hr, hrun, hended, hW, hsame⟩ := X.leave (v := some (.long z)) (fun h => by rw [hret] at h; cases h) hlk
  exact fin X (X.lreturnOut hx hret hd hr) hrun hended hW hsame q hC hS
theorem retRef (X : Stand p l e R s m args below meth c T locs cells slots) (hx : p.tables.exec = Jvm.exec) {v : Value} {t : FieldType} (hlk : meth.locks = false) (hv : v.isRef = true) (hret : meth.sig.returnType = some t) (ht : t.isReference = true) (hd : decode c.code pc = .ok (.areturn, 1)) (hC : cells ≤ C) (hS : slots ≤ S) (q : Q (some v) T.heap locs) : Ends p.tables e below Q (FE s C S) (T.setTop (mkF m pc Ls ([v]))) := by
  obtain ⟨fs, hr, hrun, hended, hW, hsame⟩ := X.leave (v := some v) (fun h => by rw [hret] at h; cases h) hlk
  exact fin X (X.areturnOut hx hv hret ht hd hr) hrun hended hW hsame q hC hS
theorem retVoid (X : Stand p l e R s m args below meth c T locs cells slots) (hx : p.tables.exec = Jvm.exec) (hlk : meth.locks = false) (hret : meth.sig.returnType = none) (hd : decode c.code pc = .ok (.return_, 1)) (hC : cells ≤ C) (hS : slots ≤ S) (q : Q none T.heap locs) : Ends p.tables e below Q (FE s C S) (T.setTop (mkF m pc Ls ([]))) := by
  obtain ⟨fs, hr, hrun, hended, hW, hsame⟩ := X.leave (v := none) (fun _ => rfl) hlk
  exact fin X (X.returnOut hx hret hd hr) hrun hended hW hsame q hC hS
theorem ldcInt (n : Nat) (X : Stand p l e R s m args below meth c T locs cells slots) (hx : p.tables.exec = Jvm.exec) (hZ : Z.Warmed39 s.vm) {own : String} {index : Nat} (v : Int32) (hown : s.vm.findClass own = some m.cls) (w : (Cond.constant own index v).before a0 Z = true) (hd : decode c.code pc = .ok (.ldc index, 2)) (hn : pc + 2 = n) (K : Ends p.tables e below Q F (T.setTop (mkF m n Ls (.int v :: st)))) : Ends p.tables e below Q F (T.setTop (mkF m pc Ls (st))) := by
  subst hn; exact K.step fun t k => X.ldcInt hx hown (mvT hZ w) (g := mkF m pc Ls st) rfl hd _ k
theorem ldcwInt (n : Nat) (X : Stand p l e R s m args below meth c T locs cells slots) (hx : p.tables.exec = Jvm.exec) (hZ : Z.Warmed39 s.vm) {own : String} {index : Nat} (v : Int32) (hown : s.vm.findClass own = some m.cls) (w : (Cond.constant own index v).before a0 Z = true) (hd : decode c.code pc = .ok (.ldc_w index, 3)) (hn : pc + 3 = n) (K : Ends p.tables e below Q F (T.setTop (mkF m n Ls (.int v :: st)))) : Ends p.tables e below Q F (T.setTop (mkF m pc Ls (st))) := by
  subst hn; exact K.step fun t k => X.ldcwInt hx hown (mvT hZ w) (g := mkF m pc Ls st) rfl hd _ k
theorem ldc2Long (n : Nat) (X : Stand p l e R s m args below meth c T locs cells slots) (hx : p.tables.exec = Jvm.exec) (hZ : Z.Warmed39 s.vm) {own : String} {index : Nat} (v : Int64) (hown : s.vm.findClass own = some m.cls) (w : (Cond.constantLong own index v).before a0 Z = true) (hd : decode c.code pc = .ok (.ldc2_w index, 3)) (hn : pc + 3 = n) (K : Ends p.tables e below Q F (T.setTop (mkF m n Ls (.long v :: st)))) : Ends p.tables e below Q F (T.setTop (mkF m pc Ls (st))) := by
  subst hn; exact K.step fun t k => X.ldc2Long hx hown (mvT hZ w) (g := mkF m pc Ls st) rfl hd _ k
theorem getFld (n : Nat) (X : Stand p l e R s m args below meth c T locs cells slots) (hx : p.tables.exec = Jvm.exec) (hZ : Z.Warmed39 s.vm) {own R0 O nm d host : String} {index : Nat} (hown : s.vm.findClass own = some m.cls) (w : (Cond.fieldLink own index R0 nm d).before a0 Z = true ∨ (Cond.fieldLinkNest own index R0 nm d host).before a0 Z = true) (via : Via Z R0 O nm d) (eT : T.heap = h) {a : Addr} {v : Value} (Fd : Fld Z h a O nm d v) {rest : List Value} (hd : decode c.code pc = .ok (.getfield index, 3)) (hn : pc + 3 = n) (K : ∀ T', Stand p l e R s m args below meth c T' locs cells slots → T'.heap = h → Ends p.tables e below Q F (T'.setTop (mkF m n Ls (v :: rest)))) : Ends p.tables e below Q F (T.setTop (mkF m pc Ls (.ref a :: rest))) := by
  subst hn
  obtain ⟨T1, X1, e1, st1⟩ := getF X hx hZ hown w via eT Fd (g := mkF m pc Ls (.ref a :: rest)) rfl rfl hd
  exact (K T1 X1 e1).step st1
theorem getSta (n : Nat) (X : Stand p l e R s m args below meth c T locs cells slots) (hx : p.tables.exec = Jvm.exec) (hZ : Z.Warmed39 s.vm) {own R0 O nm d host : String} {index : Nat} (hown : s.vm.findClass own = some m.cls) (w : (Cond.fieldLink own index R0 nm d).before a0 Z = true ∨ (Cond.fieldLinkNest own index R0 nm d host).before a0 Z = true) (via : Via Z R0 O nm d) (eT : T.heap = h) {v : Value} (Fd : Sta Z h O nm d v) (hd : decode c.code pc = .ok (.getstatic index, 3)) (hn : pc + 3 = n) (K : ∀ T', Stand p l e R s m args below meth c T' locs cells slots → T'.heap = h → Ends p.tables e below Q F (T'.setTop (mkF m n Ls (v :: st)))) : Ends p.tables e below Q F (T.setTop (mkF m pc Ls (st))) := by
  subst hn
  obtain ⟨T1, X1, e1, st1⟩ := getS2 X hx hZ hown w via eT Fd (g := mkF m pc Ls st) rfl hd
  exact (K T1 X1 e1).step st1
theorem putFld (n : Nat) (X : Stand p l e R s m args below meth c T locs cells slots) (hx : p.tables.exec = Jvm.exec) (hZ : Z.Warmed39 s.vm) {own R0 O nm d host CC : String} {index kk : Nat} {ty : FieldType} (hown : s.vm.findClass own = some m.cls) (w : (Cond.fieldLink own index R0 nm d).before a0 Z = true ∨ (Cond.fieldLinkNest own index R0 nm d host).before a0 Z = true) (via : Via Z R0 O nm d) (eT : T.heap = h) {a : Addr} {v old : Value} (Fd : Fld Z h a O nm d old) (E : Exa Z h a CC) (L : (Cond.lays CC O nm d).before a0 Z = true ∨ ((Cond.laysFinal CC O nm d).before a0 Z = true ∧ own = O ∧ meth.name = "<init>")) (wi : (Cond.instantiable CC kk).before a0 Z = true) (hty : parseFieldDescriptor d = some ty) (hnw : narrow ty v = v) (hf : fits ty v = true) {rest : List Value} (hd : decode c.code pc = .ok (.putfield index, 3)) (hn : pc + 3 = n) (K : ∀ T' h', Stand p l e R s m args below meth c T' (locs ++ [⟨a, Jvm.RoadKit.slotOf Z O nm d⟩]) cells slots → T'.heap = h' → Wr h h' a (Jvm.RoadKit.slotOf Z O nm d) v → Ends p.tables e below Q F (T'.setTop (mkF m n Ls (rest)))) : Ends p.tables e below Q F (T.setTop (mkF m pc Ls (v :: .ref a :: rest))) := by
  subst hn
  obtain ⟨T1, h1, X1, e1, W1, st1⟩ := putF X hx hZ hown w via eT Fd E L wi hty hnw hf (g := mkF m pc Ls (v :: .ref a :: rest)) rfl rfl hd
  exact (K T1 h1 X1 e1 W1).step st1
theorem newObj (n : Nat) (X : Stand p l e R s m args below meth c T locs cells slots) (hx : p.tables.exec = Jvm.exec) (hZ : Z.Warmed39 s.vm) {own CC : String} {index sz : Nat} (hown : s.vm.findClass own = some m.cls) (w : (Cond.classLink own index CC).before a0 Z = true) (wi : (Cond.instantiable CC sz).before a0 Z = true) (wz : (Cond.initialized CC).before a0 Z = true) (eT : T.heap = h) (hd : decode c.code pc = .ok (.new index, 3)) (hn : pc + 3 = n) (hc : cells + 1 ≤ R.cells) (hl : slots + sz ≤ R.slots) (K : ∀ T' h' a, a = h.size → Stand p l e R s m args below meth c T' locs (cells + 1) (slots + sz) → T'.heap = h' → Ext h h' → Exa Z h' a CC → (∀ {O nm d : String} {ty : FieldType}, Laid Z a0 CC O nm d → parseFieldDescriptor d = some ty → Fld Z h' a O nm d (defaultValue ty)) → Ends p.tables e below Q F (T'.setTop (mkF m n Ls (.ref a :: st)))) : Ends p.tables e below Q F (T.setTop (mkF m pc Ls (st))) := by
  subst hn
  obtain ⟨T1, h1, X1, e1, E1, A1, D1, -, st1⟩ := newO X hx hZ hown w wi wz eT (g := mkF m pc Ls st) rfl hd hc hl
  exact (K T1 h1 _ rfl X1 e1 E1 A1 (fun L q => D1 L q)).step st1
theorem initObj (n W : Nat) (X : Stand p l e R s m args below meth c T locs cells slots) (hx : p.tables.exec = Jvm.exec) (hZ : Z.Warmed39 s.vm) {own : String} {index : Nat} (hown : s.vm.findClass own = some m.cls) (w1 : (Cond.methodLink own index Lib.objectInit).before a0 Z = true) (w2 : (Cond.instanceMethod Lib.objectInit).before a0 Z = true) (w3 : (Cond.code Lib.objectInit ⟨#[0xb1]⟩ 1 none).before a0 Z = true) (eT : T.heap = h) {a : Addr} {rest : List Value} (hsz : Ls.size = c.maxLocals) (hd : decode c.code pc = .ok (.invokespecial index, 3)) (hn : pc + 3 = n) (hf : 1 ≤ R.frames) (hW : (rest.map fun v => v.category).sum ≤ W) (hl : W + 12 ≤ R.locals) (K : ∀ T', Stand p l e R s m args below meth c T' locs cells slots → T'.heap = h → Ends p.tables e below Q F (T'.setTop (mkF m n Ls (rest)))) : Ends p.tables e below Q F (T.setTop (mkF m pc Ls (.ref a :: rest))) := by
  subst hn
  obtain ⟨T1, X1, e1, st1⟩ := initO X hx hZ hown w1 w2 w3 eT (g := mkF m pc Ls (.ref a :: rest)) rfl hsz rfl hd hf (W := W) (by show 2 * 0 + _ ≤ _; omega) hl
  exact (K T1 X1 e1).step st1
/-- the contract of a body: entered with these arguments at this heap it returns, and what it leaves answers to QQ -/
def Met (l : Launch) (Z : State) (y : MethodName) (bytes : ByteArray) (maxL : Nat) (ret : Option FieldType) (ws : List Cond) (rm : Room) (as : Array Value) (h : Heap) (QQ : Option Value → Heap → List Loc → Prop) : Prop :=
  MetFree l y (head1 (Cond.code y bytes maxL ret :: ws) rm) (fun a U => a = as ∧ Z.Warmed39 U.vm ∧ U.heap = h) (fun _ _ _ _ _ => True) (fun _ U o U' => ∃ v L, o = .returned v ∧ QQ v U'.heap L ∧ FrameEnd U o U' L rm.cells rm.slots)
theorem Met.of {y : MethodName} {bytes : ByteArray} {maxL : Nat} {ret : Option FieldType} {ws : List Cond} {rm : Room} {as : Array Value} {QQ : Option Value → Heap → List Loc → Prop} (hp : plainFor y = true)
    (body : ∀ (p : Program) (e : Env) (s : State) (m : MethodId) (below : List Frame) (meth : Method) (c : Code) (T : State), p.tables.exec = Jvm.exec → c.code = bytes → c.maxLocals = maxL → s.vm.findClass y.cls = some m.cls → meth.name = y.name → meth.sig.returnType = ret → meth.locks = false → Z.Warmed39 s.vm → Stand p l e rm s m as below meth c T [] 0 0 → T.heap = h → Ends p.tables e below QQ (FE s rm.cells rm.slots) (T.setTop (entryFrame m as maxL))) :
    Met l Z y bytes maxL ret ws rm as h QQ := by
  refine MetFree.of_bodySF hp hisR ?_
  intro p e s m args below meth c s₁ Bd hml0 hP hK
  obtain ⟨rfl, hZ, hh⟩ := hP
  exact body p e s m below meth c s₁ Bd.exec Bd.bytes hml0 (findClass_of_methodNamed Bd.named) (name_of_methodNamed Bd.named Bd.method).1 Bd.returns Bd.notSynchronized hZ (Stand.of_body Bd) (by rw [← hh, Bd.state]; rfl)
theorem callSt (n W : Nat) (argsL rest : List Value) (X : Stand p l e R s m args below meth c T locs cells slots) (hx : p.tables.exec = Jvm.exec) (hZ : Z.Warmed39 s.vm) {own : String} {index : Nat} {y : MethodName} {bytes : ByteArray} {maxL : Nat} {ret : Option FieldType} {rm : Room} {QQ : Option Value → Heap → List Loc → Prop} (hown : s.vm.findClass own = some m.cls) (hM : Met l Z y bytes maxL ret [] rm argsL.toArray h QQ) (wl : (Cond.methodLink own index y).before a0 Z = true) (ws : (Cond.static y).before a0 Z = true) (wi : (Cond.initialized y.cls).before a0 Z = true) (wc : (Cond.code y bytes maxL ret).before a0 Z = true) (hy : y.cls ≠ "java/lang/invoke/MethodHandle" ∧ y.cls ≠ "java/lang/invoke/VarHandle") (eT : T.heap = h) (hfr : rm.frames + 1 ≤ R.frames) (hlc : W + (maxL + 11) + rm.locals ≤ R.locals) (hc : cells + rm.cells ≤ R.cells) (hs : slots + rm.slots ≤ R.slots) (hsz : Ls.size = c.maxLocals) (hlen : ∀ sig, parseMethodDescriptor y.desc = some sig → argsL.length = sig.parameters.length) (hst : st = argsL.reverse ++ rest) (hW : (rest.map fun v => v.category).sum ≤ W) (hd : decode c.code pc = .ok (.invokestatic index, 3)) (hn : pc + 3 = n) (K : ∀ v T' L', Stand p l e R s m args below meth c T' (locs ++ L') (cells + rm.cells) (slots + rm.slots) → QQ v T'.heap L' → Ends p.tables e below Q F (T'.setTop (mkF m n Ls (v.toList ++ rest)))) : Ends p.tables e below Q F (T.setTop (mkF m pc Ls (st))) := by
  subst hn
  obtain ⟨v, vm1, ⟨T1, L1, k1, n1⟩, -, X1, ⟨Lc, hQ, l1, y1, z1⟩, st1⟩ := Jvm.LawKit.callS X hx (y := y) hown (mvT hZ wl) (mvT hZ ws) (mvT hZ wi) (mvT hZ wc) hy (backOf (W := W) hM hZ wc wi hfr hlc) (g := mkF m pc Ls st) rfl hsz (argsL := argsL) (rest := rest) hlen hst (by show 2 * 0 + _ ≤ _; omega) hd (fun _ _ => ⟨rfl, eT, hc, hs⟩)
  dsimp only [Pt.U, Pt.locs, Pt.cells, Pt.slots] at X1 l1 y1 z1 st1 hQ
  subst l1 y1 z1
  exact (K v T1 Lc X1 hQ).step st1
theorem callInit (n W : Nat) (a : Addr) (argsL rest : List Value) (X : Stand p l e R s m args below meth c T locs cells slots) (hx : p.tables.exec = Jvm.exec) (hZ : Z.Warmed39 s.vm) {own : String} {index : Nat} {y : MethodName} {bytes : ByteArray} {maxL : Nat} {rm : Room} {QQ : Option Value → Heap → List Loc → Prop} (hown : s.vm.findClass own = some m.cls) (hM : Met l Z y bytes maxL none [] rm (.ref a :: argsL).toArray h QQ) (hy1 : y.name = "<init>") (wl : (Cond.methodLink own index y).before a0 Z = true) (ws : (Cond.instanceMethod y).before a0 Z = true) (wi : (Cond.initialized y.cls).before a0 Z = true) (wc : (Cond.code y bytes maxL none).before a0 Z = true) (hy : y.cls ≠ "java/lang/invoke/MethodHandle" ∧ y.cls ≠ "java/lang/invoke/VarHandle") (eT : T.heap = h) (hfr : rm.frames + 1 ≤ R.frames) (hlc : W + (maxL + 11) + rm.locals ≤ R.locals) (hc : cells + rm.cells ≤ R.cells) (hs : slots + rm.slots ≤ R.slots) (hsz : Ls.size = c.maxLocals) (hlen : ∀ sig, parseMethodDescriptor y.desc = some sig → argsL.length = sig.parameters.length) (hst : st = argsL.reverse ++ .ref a :: rest) (hW : (rest.map fun v => v.category).sum ≤ W) (hd : decode c.code pc = .ok (.invokespecial index, 3)) (hn : pc + 3 = n) (K : ∀ v T' L', Stand p l e R s m args below meth c T' (locs ++ L') (cells + rm.cells) (slots + rm.slots) → QQ v T'.heap L' → Ends p.tables e below Q F (T'.setTop (mkF m n Ls (v.toList ++ rest)))) : Ends p.tables e below Q F (T.setTop (mkF m pc Ls (st))) := by
  subst hn
  obtain ⟨v, vm1, ⟨T1, L1, k1, n1⟩, -, X1, ⟨Lc, hQ, l1, y1, z1⟩, st1⟩ := X.specialBack hx (y := y) hy1 hown (mvT hZ wl) (mvT hZ ws) (mvT hZ wc) hy (backOf (W := W) hM hZ wc wi hfr hlc) (g := mkF m pc Ls st) rfl hsz (Steps.refl _) (a := a) (argsL := argsL) (rest := rest) hlen hst (by show 2 * 0 + _ ≤ _; omega) hd (fun _ _ => ⟨rfl, eT, hc, hs⟩)
  dsimp only [Pt.U, Pt.locs, Pt.cells, Pt.slots] at X1 l1 y1 z1 st1 hQ
  subst l1 y1 z1
  exact (K v T1 Lc X1 hQ).step fun t k => st1.trans k
theorem callVt (n W : Nat) (a : Addr) (argsL rest : List Value) (X : Stand p l e R s m args below meth c T locs cells slots) (hx : p.tables.exec = Jvm.exec) (hZ : Z.Warmed39 s.vm) {own CC : String} {index : Nat} {y z : MethodName} {bytes : ByteArray} {maxL : Nat} {ret : Option FieldType} {rm : Room} {QQ : Option Value → Heap → List Loc → Prop} (hown : s.vm.findClass own = some m.cls) (hM : Met l Z z bytes maxL ret [] rm (.ref a :: argsL).toArray h QQ) (E : Exa Z h a CC) (hnf : NotFace s y) (wl : (Cond.methodLink own index y).before a0 Z = true) (wd : (Cond.declares y).before a0 Z = true) (wsel : (Cond.selects CC y z).before a0 Z = true) (ws : (Cond.instanceMethod z).before a0 Z = true) (wi : (Cond.initialized z.cls).before a0 Z = true) (wc : (Cond.code z bytes maxL ret).before a0 Z = true) (hy : y.cls ≠ "java/lang/invoke/MethodHandle" ∧ y.cls ≠ "java/lang/invoke/VarHandle") (eT : T.heap = h) (hfr : rm.frames + 1 ≤ R.frames) (hlc : W + (maxL + 11) + rm.locals ≤ R.locals) (hc : cells + rm.cells ≤ R.cells) (hs : slots + rm.slots ≤ R.slots) (hsz : Ls.size = c.maxLocals) (hlen : ∀ sig, parseMethodDescriptor y.desc = some sig → argsL.length = sig.parameters.length) (hst : st = argsL.reverse ++ .ref a :: rest) (hW : (rest.map fun v => v.category).sum ≤ W) (hd : decode c.code pc = .ok (.invokevirtual index, 3)) (hn : pc + 3 = n) (K : ∀ v T' L', Stand p l e R s m args below meth c T' (locs ++ L') (cells + rm.cells) (slots + rm.slots) → QQ v T'.heap L' → Ends p.tables e below Q F (T'.setTop (mkF m n Ls (v.toList ++ rest)))) : Ends p.tables e below Q F (T.setTop (mkF m pc Ls (st))) := by
  subst hn
  obtain ⟨cq, kq, qa, qb, qc⟩ := isOf hZ eT E
  obtain ⟨v, vm1, ⟨T1, L1, k1, n1⟩, -, X1, ⟨Lc, hQ, l1, y1, z1⟩, st1⟩ := X.virtualBack hx (y := y) (z := z) hown (mvT hZ wl) (mvT hZ wd) hnf (mvT hZ wsel) (mvT hZ ws) hy (backOf (W := W) hM hZ wc wi hfr hlc) qa qc (g := mkF m pc Ls st) rfl hsz (Steps.refl _) (argsL := argsL) (rest := rest) hlen hst (by show 2 * 0 + _ ≤ _; omega) hd (fun _ _ => ⟨rfl, eT, hc, hs⟩)
  dsimp only [Pt.U, Pt.locs, Pt.cells, Pt.slots] at X1 l1 y1 z1 st1 hQ
  subst l1 y1 z1
  exact (K v T1 Lc X1 hQ).step fun t k => st1.trans k
theorem callPr (n W : Nat) (a : Addr) (argsL rest : List Value) (X : Stand p l e R s m args below meth c T locs cells slots) (hx : p.tables.exec = Jvm.exec) (hZ : Z.Warmed39 s.vm) {own CC : String} {index : Nat} {y : MethodName} {bytes : ByteArray} {maxL : Nat} {ret : Option FieldType} {rm : Room} {QQ : Option Value → Heap → List Loc → Prop} (hown : s.vm.findClass own = some m.cls) (hM : Met l Z y bytes maxL ret [] rm (.ref a :: argsL).toArray h QQ) (E : Exa Z h a CC) (wl : (Cond.methodLink own index y).before a0 Z = true) (wp : (Cond.privateMethod y).before a0 Z = true) {kk : Nat} (wk : (Cond.instantiable y.cls kk).before a0 Z = true) (ws : (Cond.instanceMethod y).before a0 Z = true) (wi : (Cond.initialized y.cls).before a0 Z = true) (wc : (Cond.code y bytes maxL ret).before a0 Z = true) (hy : y.cls ≠ "java/lang/invoke/MethodHandle" ∧ y.cls ≠ "java/lang/invoke/VarHandle") (eT : T.heap = h) (hfr : rm.frames + 1 ≤ R.frames) (hlc : W + (maxL + 11) + rm.locals ≤ R.locals) (hc : cells + rm.cells ≤ R.cells) (hs : slots + rm.slots ≤ R.slots) (hsz : Ls.size = c.maxLocals) (hlen : ∀ sig, parseMethodDescriptor y.desc = some sig → argsL.length = sig.parameters.length) (hst : st = argsL.reverse ++ .ref a :: rest) (hW : (rest.map fun v => v.category).sum ≤ W) (hd : decode c.code pc = .ok (.invokevirtual index, 3)) (hn : pc + 3 = n) (K : ∀ v T' L', Stand p l e R s m args below meth c T' (locs ++ L') (cells + rm.cells) (slots + rm.slots) → QQ v T'.heap L' → Ends p.tables e below Q F (T'.setTop (mkF m n Ls (v.toList ++ rest)))) : Ends p.tables e below Q F (T.setTop (mkF m pc Ls (st))) := by
  subst hn
  obtain ⟨cq, qa, qb⟩ := E.cell
  obtain ⟨cI, kI, i1, i2, -, i4, -⟩ := Cond.instantiable_spec (mvT (args := args) hZ wk)
  obtain ⟨v, vm1, ⟨T1, L1, k1, n1⟩, -, X1, ⟨Lc, hQ, l1, y1, z1⟩, st1⟩ := X.privateBack hx (y := y) hown (mvT hZ wl) (mvT hZ ws) (selects_self_of_private i1 i2 (by simpa using (Bool.or_eq_false_iff.mp i4).1) (Cond.privateMethod_at (mvP hZ wp (args := #[]))) (mvT hZ ws) hy) (Cond.privateMethod_at (mvP hZ wp (args := #[]))) (mvT hZ wc) hy (backOf (W := W) hM hZ wc wi hfr hlc) (g := mkF m pc Ls st) rfl hsz (Steps.refl _) (a := a) (by rw [eT]; exact qa) qb (argsL := argsL) (rest := rest) hlen hst (by show 2 * 0 + _ ≤ _; omega) hd (fun _ _ => ⟨rfl, eT, hc, hs⟩)
  dsimp only [Pt.U, Pt.locs, Pt.cells, Pt.slots] at X1 l1 y1 z1 st1 hQ
  subst l1 y1 z1
  exact (K v T1 Lc X1 hQ).step fun t k => st1.trans k
theorem arrLen (n : Nat) (X : Stand p l e R s m args below meth c T locs cells slots) (hx : p.tables.exec = Jvm.exec) (hZ : Z.Warmed39 s.vm) (eT : T.heap = h) {a : Addr} {k : ClassId} {ty : FieldType} {z : Int32} {vs : List Value} {dv : Value} {rest : List Value} (A : Arv Z h a k ty z vs dv) (hd : decode c.code pc = .ok (.arraylength, 1)) (hn : pc + 1 = n) (K : Ends p.tables e below Q F (T.setTop (mkF m n Ls (.int z :: rest)))) : Ends p.tables e below Q F (T.setTop (mkF m pc Ls (.ref a :: rest))) := by
  subst hn
  obtain ⟨cl, Ar, -, Sz, Nz, -, -⟩ := A
  refine K.step fun t kk => X.arraylength hx (by rw [eT]; exact Ar.1) (State.isArrayOf_alike hZ.alike Ar.2.1) (g := mkF m pc Ls (.ref a :: rest)) rfl rfl hd _ ?_
  rw [len_of Sz Nz]; exact kk
theorem iaload (n : Nat) (X : Stand p l e R s m args below meth c T locs cells slots) (hx : p.tables.exec = Jvm.exec) (hZ : Z.Warmed39 s.vm) (eT : T.heap = h) {a : Addr} {k : ClassId} {z j : Int32} (v : Int32) {vs : List Value} {dv : Value} {rest : List Value} (A : Arv Z h a k .int z vs dv) (hj : ¬ j < 0 ∧ j < z) (hv : vs.getD j.toNatClampNeg dv = .int v) (hd : decode c.code pc = .ok (.iaload, 1)) (hn : pc + 1 = n) (K : Ends p.tables e below Q F (T.setTop (mkF m n Ls (.int v :: rest)))) : Ends p.tables e below Q F (T.setTop (mkF m pc Ls (.int j :: .ref a :: rest))) := by
  subst hn
  obtain ⟨cl, Ar, -, Sz, Nz, Hs, -⟩ := A
  have hin := inb_of Sz hj
  exact K.step fun t kk => X.iaload hx (j := j) (v := .int v) (by rw [eT]; exact Ar.1) (State.isArrayOf_alike hZ.alike Ar.2.1) Ar.2.2 hin (Hs.at hin hv) (g := mkF m pc Ls (.int j :: .ref a :: rest)) rfl rfl hd _ kk
theorem laload (n : Nat) (X : Stand p l e R s m args below meth c T locs cells slots) (hx : p.tables.exec = Jvm.exec) (hZ : Z.Warmed39 s.vm) (eT : T.heap = h) {a : Addr} {k : ClassId} {z j : Int32} (v : Int64) {vs : List Value} {dv : Value} {rest : List Value} (A : Arv Z h a k .long z vs dv) (hj : ¬ j < 0 ∧ j < z) (hv : vs.getD j.toNatClampNeg dv = .long v) (hd : decode c.code pc = .ok (.laload, 1)) (hn : pc + 1 = n) (K : Ends p.tables e below Q F (T.setTop (mkF m n Ls (.long v :: rest)))) : Ends p.tables e below Q F (T.setTop (mkF m pc Ls (.int j :: .ref a :: rest))) := by
  subst hn
  obtain ⟨cl, Ar, -, Sz, Nz, Hs, -⟩ := A
  have hin := inb_of Sz hj
  exact K.step fun t kk => X.laload hx (j := j) (v := .long v) (by rw [eT]; exact Ar.1) (State.isArrayOf_alike hZ.alike Ar.2.1) Ar.2.2 hin (Hs.at hin hv) (g := mkF m pc Ls (.int j :: .ref a :: rest)) rfl rfl hd _ kk
theorem baload (n : Nat) (X : Stand p l e R s m args below meth c T locs cells slots) (hx : p.tables.exec = Jvm.exec) (hZ : Z.Warmed39 s.vm) (eT : T.heap = h) {a : Addr} {k : ClassId} {z j : Int32} (v : Int32) {vs : List Value} {dv : Value} {rest : List Value} (A : Arv Z h a k .byte z vs dv) (hj : ¬ j < 0 ∧ j < z) (hv : vs.getD j.toNatClampNeg dv = .int v) (hd : decode c.code pc = .ok (.baload, 1)) (hn : pc + 1 = n) (K : Ends p.tables e below Q F (T.setTop (mkF m n Ls (.int v :: rest)))) : Ends p.tables e below Q F (T.setTop (mkF m pc Ls (.int j :: .ref a :: rest))) := by
  subst hn
  obtain ⟨cl, Ar, -, Sz, Nz, Hs, -⟩ := A
  have hin := inb_of Sz hj
  exact K.step fun t kk => X.baloadBytes hx (j := j) (v := .int v) (by rw [eT]; exact Ar.1) (State.isArrayOf_alike hZ.alike Ar.2.1) Ar.2.2 hin (Hs.at hin hv) (g := mkF m pc Ls (.int j :: .ref a :: rest)) rfl rfl hd _ kk
theorem caload (n : Nat) (X : Stand p l e R s m args below meth c T locs cells slots) (hx : p.tables.exec = Jvm.exec) (hZ : Z.Warmed39 s.vm) (eT : T.heap = h) {a : Addr} {k : ClassId} {z j : Int32} (v : Int32) {vs : List Value} {dv : Value} {rest : List Value} (A : Arv Z h a k .char z vs dv) (hj : ¬ j < 0 ∧ j < z) (hv : vs.getD j.toNatClampNeg dv = .int v) (hd : decode c.code pc = .ok (.caload, 1)) (hn : pc + 1 = n) (K : Ends p.tables e below Q F (T.setTop (mkF m n Ls (.int v :: rest)))) : Ends p.tables e below Q F (T.setTop (mkF m pc Ls (.int j :: .ref a :: rest))) := by
  subst hn
  obtain ⟨cl, Ar, -, Sz, Nz, Hs, -⟩ := A
  have hin := inb_of Sz hj
  exact K.step fun t kk => X.caload hx (j := j) (v := .int v) (by rw [eT]; exact Ar.1) (State.isArrayOf_alike hZ.alike Ar.2.1) Ar.2.2 hin (Hs.at hin hv) (g := mkF m pc Ls (.int j :: .ref a :: rest)) rfl rfl hd _ kk
theorem aaload (n : Nat) (X : Stand p l e R s m args below meth c T locs cells slots) (hx : p.tables.exec = Jvm.exec) (hZ : Z.Warmed39 s.vm) (eT : T.heap = h) {a : Addr} {k : ClassId} {z j : Int32} {ty : FieldType} (v : Value) {vs : List Value} {dv : Value} {rest : List Value} (A : Arv Z h a k ty z vs dv) (hty : ty.isReference = true) (hj : ¬ j < 0 ∧ j < z) (hv : vs.getD j.toNatClampNeg dv = v) (hd : decode c.code pc = .ok (.aaload, 1)) (hn : pc + 1 = n) (K : Ends p.tables e below Q F (T.setTop (mkF m n Ls (v :: rest)))) : Ends p.tables e below Q F (T.setTop (mkF m pc Ls (.int j :: .ref a :: rest))) := by
  subst hn
  obtain ⟨cl, Ar, -, Sz, Nz, Hs, -⟩ := A
  have hin := inb_of Sz hj
  exact K.step fun t kk => X.aaload hx (j := j) (v := v) (by rw [eT]; exact Ar.1) (State.isArrayOf_alike hZ.alike Ar.2.1) hty Ar.2.2 hin (Hs.at hin hv) (g := mkF m pc Ls (.int j :: .ref a :: rest)) rfl rfl hd _ kk
theorem iastore (n : Nat) (X : Stand p l e R s m args below meth c T locs cells slots) (hx : p.tables.exec = Jvm.exec) (hZ : Z.Warmed39 s.vm) (eT : T.heap = h) {a : Addr} {k : ClassId} {z j : Int32} {x : Int32} {vs : List Value} {dv : Value} {rest : List Value} (A : Arv Z h a k .int z vs dv) (hj : ¬ j < 0 ∧ j < z) (hlen : j.toNatClampNeg < vs.length) (hd : decode c.code pc = .ok (.iastore, 1)) (hn : pc + 1 = n) (K : ∀ T' h', Stand p l e R s m args below meth c T' (locs ++ [⟨a, j.toNatClampNeg⟩]) cells slots → T'.heap = h' → Wr h h' a j.toNatClampNeg (.int x) → Arv Z h' a k .int z (vs.set j.toNatClampNeg (.int x)) dv → Ends p.tables e below Q F (T'.setTop (mkF m n Ls (rest)))) : Ends p.tables e below Q F (T.setTop (mkF m pc Ls (.int x :: .int j :: .ref a :: rest))) := by
  subst hn
  obtain ⟨cl, Ar, q1, Sz, Nz, Hs, Gs⟩ := A
  obtain ⟨T1, h1, X1, e1, W1, st1⟩ := stI X hx hZ eT Ar (j := j) (inb_of Sz hj) (g := mkF m pc Ls (.int x :: .int j :: .ref a :: rest)) rfl rfl hd
  exact (K T1 h1 X1 e1 W1 (Arv.set Ar q1 Sz Nz Hs Gs rfl W1 _ rfl hlen)).step st1
theorem lastore (n : Nat) (X : Stand p l e R s m args below meth c T locs cells slots) (hx : p.tables.exec = Jvm.exec) (hZ : Z.Warmed39 s.vm) (eT : T.heap = h) {a : Addr} {k : ClassId} {z j : Int32} {x : Int64} {vs : List Value} {dv : Value} {rest : List Value} (A : Arv Z h a k .long z vs dv) (hj : ¬ j < 0 ∧ j < z) (hlen : j.toNatClampNeg < vs.length) (hd : decode c.code pc = .ok (.lastore, 1)) (hn : pc + 1 = n) (K : ∀ T' h', Stand p l e R s m args below meth c T' (locs ++ [⟨a, j.toNatClampNeg⟩]) cells slots → T'.heap = h' → Wr h h' a j.toNatClampNeg (.long x) → Arv Z h' a k .long z (vs.set j.toNatClampNeg (.long x)) dv → Ends p.tables e below Q F (T'.setTop (mkF m n Ls (rest)))) : Ends p.tables e below Q F (T.setTop (mkF m pc Ls (.long x :: .int j :: .ref a :: rest))) := by
  subst hn
  obtain ⟨cl, Ar, q1, Sz, Nz, Hs, Gs⟩ := A
  obtain ⟨T1, h1, X1, e1, W1, st1⟩ := stJ X hx hZ eT Ar (j := j) (inb_of Sz hj) (g := mkF m pc Ls (.long x :: .int j :: .ref a :: rest)) rfl rfl hd
  exact (K T1 h1 X1 e1 W1 (Arv.set Ar q1 Sz Nz Hs Gs rfl W1 _ rfl hlen)).step st1
theorem bastore (n : Nat) (X : Stand p l e R s m args below meth c T locs cells slots) (hx : p.tables.exec = Jvm.exec) (hZ : Z.Warmed39 s.vm) (eT : T.heap = h) {a : Addr} {k : ClassId} {z j : Int32} {x : Int32} {vs : List Value} {dv : Value} {rest : List Value} (A : Arv Z h a k .byte z vs dv) (hj : ¬ j < 0 ∧ j < z) (hlen : j.toNatClampNeg < vs.length) (hd : decode c.code pc = .ok (.bastore, 1)) (hn : pc + 1 = n) (K : ∀ T' h', Stand p l e R s m args below meth c T' (locs ++ [⟨a, j.toNatClampNeg⟩]) cells slots → T'.heap = h' → Wr h h' a j.toNatClampNeg (.int x.toInt8.toInt32) → Arv Z h' a k .byte z (vs.set j.toNatClampNeg (.int x.toInt8.toInt32)) dv → Ends p.tables e below Q F (T'.setTop (mkF m n Ls (rest)))) : Ends p.tables e below Q F (T.setTop (mkF m pc Ls (.int x :: .int j :: .ref a :: rest))) := by
  subst hn
  obtain ⟨cl, Ar, q1, Sz, Nz, Hs, Gs⟩ := A
  obtain ⟨T1, h1, X1, e1, W1, st1⟩ := stB X hx hZ eT Ar (j := j) (inb_of Sz hj) (g := mkF m pc Ls (.int x :: .int j :: .ref a :: rest)) rfl rfl hd
  exact (K T1 h1 X1 e1 W1 (Arv.set Ar q1 Sz Nz Hs Gs (fits_nar_byte _) W1 _ rfl hlen)).step st1
theorem castore (n : Nat) (X : Stand p l e R s m args below meth c T locs cells slots) (hx : p.tables.exec = Jvm.exec) (hZ : Z.Warmed39 s.vm) (eT : T.heap = h) {a : Addr} {k : ClassId} {z j : Int32} {x : Int32} {vs : List Value} {dv : Value} {rest : List Value} (A : Arv Z h a k .char z vs dv) (hj : ¬ j < 0 ∧ j < z) (hlen : j.toNatClampNeg < vs.length) (hd : decode c.code pc = .ok (.castore, 1)) (hn : pc + 1 = n) (K : ∀ T' h', Stand p l e R s m args below meth c T' (locs ++ [⟨a, j.toNatClampNeg⟩]) cells slots → T'.heap = h' → Wr h h' a j.toNatClampNeg (.int (nar .char x)) → Arv Z h' a k .char z (vs.set j.toNatClampNeg (.int (nar .char x))) dv → Ends p.tables e below Q F (T'.setTop (mkF m n Ls (rest)))) : Ends p.tables e below Q F (T.setTop (mkF m pc Ls (.int x :: .int j :: .ref a :: rest))) := by
  subst hn
  obtain ⟨cl, Ar, q1, Sz, Nz, Hs, Gs⟩ := A
  obtain ⟨T1, h1, X1, e1, W1, st1⟩ := stC X hx hZ eT Ar (j := j) (inb_of Sz hj) (g := mkF m pc Ls (.int x :: .int j :: .ref a :: rest)) rfl rfl hd
  exact (K T1 h1 X1 e1 W1 (Arv.set Ar q1 Sz Nz Hs Gs (fits_nar_char _) W1 _ rfl hlen)).step st1
theorem newArr (n cap : Nat) (X : Stand p l e R s m args below meth c T locs cells slots) (hx : p.tables.exec = Jvm.exec) (hZ : Z.Warmed39 s.vm) {aty : ArrayType} (w : (Cond.arrayClass (newarray.typeOf aty)).before a0 Z = true) (eT : T.heap = h) {z : Int32} {rest : List Value} (hz : ¬ z < 0) (hcap : z.toNatClampNeg ≤ cap) (hb : cap * 8 ≤ 536870912) (hd : decode c.code pc = .ok (.newarray aty, 2)) (hn : pc + 2 = n) (hc : cells + 1 ≤ R.cells) (hl : slots + cap ≤ R.slots) (K : ∀ T' h' a k, a = h.size → Stand p l e R s m args below meth c T' locs (cells + 1) (slots + cap) → T'.heap = h' → Ext h h' → Arv Z h' a k (newarray.typeOf aty) z (List.replicate z.toNatClampNeg (defaultValue (newarray.typeOf aty))) (defaultValue (newarray.typeOf aty)) → Ends p.tables e below Q F (T'.setTop (mkF m n Ls (.ref a :: rest)))) : Ends p.tables e below Q F (T.setTop (mkF m pc Ls (.int z :: rest))) := by
  subst hn
  obtain ⟨T1, h1, k1, X1, e1, E1, A1, st1⟩ := newP X hx hZ w eT (g := mkF m pc Ls (.int z :: rest)) rfl hd rfl hz (cap := cap) hcap hb hc hl
  exact (K T1 h1 _ k1 rfl X1 e1 E1 ((Arv.new A1 hz).pad (pad_rep [] _ _))).step st1
theorem arrCopy (n W : Nat) (X : Stand p l e R s m args below meth c T locs cells slots) (hx : p.tables.exec = Jvm.exec) (hZ : Z.Warmed39 s.vm) {own : String} {index : Nat} (hown : s.vm.findClass own = some m.cls) (w1 : (Cond.methodLink own index Jvm.Stand.acN).before a0 Z = true) (w2 : (Cond.native Jvm.Stand.acN).before a0 Z = true) (w3 : (Cond.static Jvm.Stand.acN).before a0 Z = true) (w4 : (Cond.initialized "java/lang/System").before a0 Z = true) (eT : T.heap = h) {a b : Addr} {k k2 : ClassId} {ty : FieldType} {z z2 sp dp nn : Int32} {vs vd : List Value} {dv dd : Value} (A : Arv Z h a k ty z vs dv) (B : Arv Z h b k2 ty z2 vd dd) (hty : refKind ty = false) (h1 : ¬ sp < 0) (h2 : ¬ dp < 0) (h3 : ¬ nn < 0) (h4 : sp.toNatClampNeg + nn.toNatClampNeg ≤ z.toNatClampNeg) (h5 : dp.toNatClampNeg + nn.toNatClampNeg ≤ z2.toNatClampNeg) (hl : dp.toNatClampNeg + nn.toNatClampNeg ≤ vd.length) {n0 : Nat} (N : Fr n0 locs) (ge : n0 ≤ b) (hsz : Ls.size = c.maxLocals) {rest : List Value} (hd : decode c.code pc = .ok (.invokestatic index, 3)) (hn : pc + 3 = n) (hf : 1 ≤ R.frames) (hW : (rest.map fun v => v.category).sum ≤ W) (hlo : W + (nativeFrameWords "java/lang/System" "arraycopy" 5 + 11) ≤ R.locals) (K : ∀ T' h' L vs', Stand p l e R s m args below meth c T' L cells slots → T'.heap = h' → Fr n0 L → Keep h h' [b] → vs' = vd.take dp.toNatClampNeg ++ ((List.range nn.toNatClampNeg).map fun i => vs.getD (sp.toNatClampNeg + i) dv) ++ vd.drop (dp.toNatClampNeg + nn.toNatClampNeg) → vs'.length = vd.length → Arv Z h' b k2 ty z2 vs' dd → Ends p.tables e below Q F (T'.setTop (mkF m n Ls (rest)))) : Ends p.tables e below Q F (T.setTop (mkF m pc Ls (.int nn :: .int dp :: .ref b :: .int sp :: .ref a :: rest))) := by
  subst hn
  obtain ⟨T1, hh1, L1, X1, e1, N1, K1, V1, st1⟩ := cpA X hx hZ hown w1 w2 w3 w4 eT A B (Or.inl ⟨rfl, hty⟩) h1 h2 h3 h4 h5 rfl hl N ge (g := mkF m pc Ls (.int nn :: .int dp :: .ref b :: .int sp :: .ref a :: rest)) rfl hsz rfl hd hf (W := W) (by show 2 * 0 + _ ≤ _; omega) hlo
  exact (K T1 hh1 L1 _ X1 e1 N1 K1 rfl (by simp; omega) V1).step st1
/-- an array of this kind and length, whatever it holds -/
def Ax (Z : State) (h : Heap) (a : Addr) (ty : FieldType) (z : Int32) : Prop := ∃ (k : ClassId) (vs : List Value), vs.length = z.toNatClampNeg ∧ Arv Z h a k ty z vs (defaultValue ty)
theorem Ax.lt {a : Addr} {ty : FieldType} {z : Int32} (F : Ax Z h a ty z) : a < h.size := by obtain ⟨k, vs, -, A⟩ := F; exact A.lt
theorem Ax.ext {h' : Heap} {a : Addr} {ty : FieldType} {z : Int32} (F : Ax Z h a ty z) (E : Ext h h') : Ax Z h' a ty z := by obtain ⟨k, vs, q, A⟩ := F; exact ⟨k, vs, q, A.ext E⟩
theorem Ax.keep {h' : Heap} {a : Addr} {ty : FieldType} {z : Int32} {ws : List Addr} (F : Ax Z h a ty z) (K : Keep h h' ws) (q : a ∉ ws) : Ax Z h' a ty z := by obtain ⟨k, vs, r, A⟩ := F; exact ⟨k, vs, r, A.keep K q⟩
theorem Ax.other {h' : Heap} {a b : Addr} {sl : Nat} {v : Value} {ty : FieldType} {z : Int32} (F : Ax Z h a ty z) (W : Wr h h' b sl v) (q : a ≠ b) : Ax Z h' a ty z := by obtain ⟨k, vs, r, A⟩ := F; exact ⟨k, vs, r, A.other W q⟩
theorem Ax.nn {a : Addr} {ty : FieldType} {z : Int32} (F : Ax Z h a ty z) : ¬ z < 0 := by obtain ⟨k, vs, -, c, -, -, -, N, -⟩ := F; exact N
theorem axLen (n : Nat) (X : Stand p l e R s m args below meth c T locs cells slots) (hx : p.tables.exec = Jvm.exec) (hZ : Z.Warmed39 s.vm) (eT : T.heap = h) {a : Addr} {ty : FieldType} {z : Int32} {rest : List Value} (A : Ax Z h a ty z) (hd : decode c.code pc = .ok (.arraylength, 1)) (hn : pc + 1 = n) (K : Ends p.tables e below Q F (T.setTop (mkF m n Ls (.int z :: rest)))) : Ends p.tables e below Q F (T.setTop (mkF m pc Ls (.ref a :: rest))) := by
  obtain ⟨k, vs, -, A⟩ := A
  exact arrLen n X hx hZ eT A hd hn K
theorem axLoadI (n : Nat) (X : Stand p l e R s m args below meth c T locs cells slots) (hx : p.tables.exec = Jvm.exec) (hZ : Z.Warmed39 s.vm) (eT : T.heap = h) {a : Addr} {z j : Int32} {rest : List Value} (A : Ax Z h a .int z) (hj : ¬ j < 0 ∧ j < z) (hd : decode c.code pc = .ok (.iaload, 1)) (hn : pc + 1 = n) (K : ∀ v : Int32, Ends p.tables e below Q F (T.setTop (mkF m n Ls (.int v :: rest)))) : Ends p.tables e below Q F (T.setTop (mkF m pc Ls (.int j :: .ref a :: rest))) := by
  obtain ⟨k, vs, -, A⟩ := A
  have A1 := A
  obtain ⟨cl, Ar, -, Sz, Nz, Hs, Gs⟩ := A1
  have hin := inb_of Sz hj
  have G := Gs j.toNatClampNeg (Nat.lt_of_not_le fun y => hin (Or.inr y))
  obtain ⟨v, hv⟩ := fit_I G (Or.inl rfl)
  exact iaload n X hx hZ eT v A hj hv hd hn (K v)
theorem axLoadJ (n : Nat) (X : Stand p l e R s m args below meth c T locs cells slots) (hx : p.tables.exec = Jvm.exec) (hZ : Z.Warmed39 s.vm) (eT : T.heap = h) {a : Addr} {z j : Int32} {rest : List Value} (A : Ax Z h a .long z) (hj : ¬ j < 0 ∧ j < z) (hd : decode c.code pc = .ok (.laload, 1)) (hn : pc + 1 = n) (K : ∀ v : Int64, Ends p.tables e below Q F (T.setTop (mkF m n Ls (.long v :: rest)))) : Ends p.tables e below Q F (T.setTop (mkF m pc Ls (.int j :: .ref a :: rest))) := by
  obtain ⟨k, vs, -, A⟩ := A
  have A1 := A
  obtain ⟨cl, Ar, -, Sz, Nz, Hs, Gs⟩ := A1
  have hin := inb_of Sz hj
  have G := Gs j.toNatClampNeg (Nat.lt_of_not_le fun y => hin (Or.inr y))
  obtain ⟨v, hv⟩ := fit_J G
  exact laload n X hx hZ eT v A hj hv hd hn (K v)
theorem axLoadB (n : Nat) (X : Stand p l e R s m args below meth c T locs cells slots) (hx : p.tables.exec = Jvm.exec) (hZ : Z.Warmed39 s.vm) (eT : T.heap = h) {a : Addr} {z j : Int32} {rest : List Value} (A : Ax Z h a .byte z) (hj : ¬ j < 0 ∧ j < z) (hd : decode c.code pc = .ok (.baload, 1)) (hn : pc + 1 = n) (K : ∀ v : Int32, Ends p.tables e below Q F (T.setTop (mkF m n Ls (.int v :: rest)))) : Ends p.tables e below Q F (T.setTop (mkF m pc Ls (.int j :: .ref a :: rest))) := by
  obtain ⟨k, vs, -, A⟩ := A
  have A1 := A
  obtain ⟨cl, Ar, -, Sz, Nz, Hs, Gs⟩ := A1
  have hin := inb_of Sz hj
  have G := Gs j.toNatClampNeg (Nat.lt_of_not_le fun y => hin (Or.inr y))
  obtain ⟨v, hv⟩ := fit_I G (Or.inr (Or.inr (Or.inl rfl)))
  exact baload n X hx hZ eT v A hj hv hd hn (K v)
theorem axStoreI (n : Nat) (X : Stand p l e R s m args below meth c T locs cells slots) (hx : p.tables.exec = Jvm.exec) (hZ : Z.Warmed39 s.vm) (eT : T.heap = h) {a : Addr} {z j : Int32} {x : Int32} {rest : List Value} (A : Ax Z h a .int z) (hj : ¬ j < 0 ∧ j < z) (hd : decode c.code pc = .ok (.iastore, 1)) (hn : pc + 1 = n) (K : ∀ T' h', Stand p l e R s m args below meth c T' (locs ++ [⟨a, j.toNatClampNeg⟩]) cells slots → T'.heap = h' → Wr h h' a j.toNatClampNeg (.int x) → Ax Z h' a .int z → Ends p.tables e below Q F (T'.setTop (mkF m n Ls (rest)))) : Ends p.tables e below Q F (T.setTop (mkF m pc Ls (.int x :: .int j :: .ref a :: rest))) := by
  obtain ⟨k, vs, hl, A⟩ := A
  have hjz : j.toNatClampNeg < z.toNatClampNeg := by
    have h1 := nat_of hj.1
    have h2 := hj.2
    have h3 := nat_of (Ax.nn ⟨k, vs, hl, A⟩)
    rw [Int32.lt_iff_toInt_lt] at h2
    omega
  exact iastore n X hx hZ eT A hj (by rw [hl]; exact hjz) hd hn (fun T1 h1 X1 e1 W1 A1 => K T1 h1 X1 e1 W1 ⟨k, _, by rw [List.length_set, hl], A1⟩)
theorem axStoreJ (n : Nat) (X : Stand p l e R s m args below meth c T locs cells slots) (hx : p.tables.exec = Jvm.exec) (hZ : Z.Warmed39 s.vm) (eT : T.heap = h) {a : Addr} {z j : Int32} {x : Int64} {rest : List Value} (A : Ax Z h a .long z) (hj : ¬ j < 0 ∧ j < z) (hd : decode c.code pc = .ok (.lastore, 1)) (hn : pc + 1 = n) (K : ∀ T' h', Stand p l e R s m args below meth c T' (locs ++ [⟨a, j.toNatClampNeg⟩]) cells slots → T'.heap = h' → Wr h h' a j.toNatClampNeg (.long x) → Ax Z h' a .long z → Ends p.tables e below Q F (T'.setTop (mkF m n Ls (rest)))) : Ends p.tables e below Q F (T.setTop (mkF m pc Ls (.long x :: .int j :: .ref a :: rest))) := by
  obtain ⟨k, vs, hl, A⟩ := A
  have hjz : j.toNatClampNeg < z.toNatClampNeg := by
    have h1 := nat_of hj.1
    have h2 := hj.2
    have h3 := nat_of (Ax.nn ⟨k, vs, hl, A⟩)
    rw [Int32.lt_iff_toInt_lt] at h2
    omega
  exact lastore n X hx hZ eT A hj (by rw [hl]; exact hjz) hd hn (fun T1 h1 X1 e1 W1 A1 => K T1 h1 X1 e1 W1 ⟨k, _, by rw [List.length_set, hl], A1⟩)
theorem axStoreB (n : Nat) (X : Stand p l e R s m args below meth c T locs cells slots) (hx : p.tables.exec = Jvm.exec) (hZ : Z.Warmed39 s.vm) (eT : T.heap = h) {a : Addr} {z j : Int32} {x : Int32} {rest : List Value} (A : Ax Z h a .byte z) (hj : ¬ j < 0 ∧ j < z) (hd : decode c.code pc = .ok (.bastore, 1)) (hn : pc + 1 = n) (K : ∀ T' h', Stand p l e R s m args below meth c T' (locs ++ [⟨a, j.toNatClampNeg⟩]) cells slots → T'.heap = h' → Wr h h' a j.toNatClampNeg (.int x.toInt8.toInt32) → Ax Z h' a .byte z → Ends p.tables e below Q F (T'.setTop (mkF m n Ls (rest)))) : Ends p.tables e below Q F (T.setTop (mkF m pc Ls (.int x :: .int j :: .ref a :: rest))) := by
  obtain ⟨k, vs, hl, A⟩ := A
  have hjz : j.toNatClampNeg < z.toNatClampNeg := by
    have h1 := nat_of hj.1
    have h2 := hj.2
    have h3 := nat_of (Ax.nn ⟨k, vs, hl, A⟩)
    rw [Int32.lt_iff_toInt_lt] at h2
    omega
  exact bastore n X hx hZ eT A hj (by rw [hl]; exact hjz) hd hn (fun T1 h1 X1 e1 W1 A1 => K T1 h1 X1 e1 W1 ⟨k, _, by rw [List.length_set, hl], A1⟩)
theorem axNew (n cap : Nat) (X : Stand p l e R s m args below meth c T locs cells slots) (hx : p.tables.exec = Jvm.exec) (hZ : Z.Warmed39 s.vm) {aty : ArrayType} (w : (Cond.arrayClass (newarray.typeOf aty)).before a0 Z = true) (eT : T.heap = h) {z : Int32} {rest : List Value} (hz : ¬ z < 0) (hcap : z.toNatClampNeg ≤ cap) (hb : cap * 8 ≤ 536870912) (hd : decode c.code pc = .ok (.newarray aty, 2)) (hn : pc + 2 = n) (hc : cells + 1 ≤ R.cells) (hl : slots + cap ≤ R.slots) (K : ∀ T' h' a, a = h.size → Stand p l e R s m args below meth c T' locs (cells + 1) (slots + cap) → T'.heap = h' → Ext h h' → Ax Z h' a (newarray.typeOf aty) z → Ends p.tables e below Q F (T'.setTop (mkF m n Ls (.ref a :: rest)))) : Ends p.tables e below Q F (T.setTop (mkF m pc Ls (.int z :: rest))) :=
  newArr n cap X hx hZ w eT hz hcap hb hd hn hc hl (fun T1 h1 a k q X1 e1 E1 A1 => K T1 h1 a q X1 e1 E1 ⟨k, _, List.length_replicate, A1⟩)
theorem axCopy (n W : Nat) (X : Stand p l e R s m args below meth c T locs cells slots) (hx : p.tables.exec = Jvm.exec) (hZ : Z.Warmed39 s.vm) {own : String} {index : Nat} (hown : s.vm.findClass own = some m.cls) (w1 : (Cond.methodLink own index Jvm.Stand.acN).before a0 Z = true) (w2 : (Cond.native Jvm.Stand.acN).before a0 Z = true) (w3 : (Cond.static Jvm.Stand.acN).before a0 Z = true) (w4 : (Cond.initialized "java/lang/System").before a0 Z = true) (eT : T.heap = h) {a b : Addr} {ty : FieldType} {z z2 sp dp nn : Int32} (A : Ax Z h a ty z) (B : Ax Z h b ty z2) (hty : refKind ty = false) (h1 : ¬ sp < 0) (h2 : ¬ dp < 0) (h3 : ¬ nn < 0) (h4 : sp.toNatClampNeg + nn.toNatClampNeg ≤ z.toNatClampNeg) (h5 : dp.toNatClampNeg + nn.toNatClampNeg ≤ z2.toNatClampNeg) {n0 : Nat} (N : Fr n0 locs) (ge : n0 ≤ b) (hsz : Ls.size = c.maxLocals) {rest : List Value} (hd : decode c.code pc = .ok (.invokestatic index, 3)) (hn : pc + 3 = n) (hf : 1 ≤ R.frames) (hW : (rest.map fun v => v.category).sum ≤ W) (hlo : W + (nativeFrameWords "java/lang/System" "arraycopy" 5 + 11) ≤ R.locals) (K : ∀ T' h' L, Stand p l e R s m args below meth c T' L cells slots → T'.heap = h' → Fr n0 L → Keep h h' [b] → Ax Z h' b ty z2 → Ends p.tables e below Q F (T'.setTop (mkF m n Ls (rest)))) : Ends p.tables e below Q F (T.setTop (mkF m pc Ls (.int nn :: .int dp :: .ref b :: .int sp :: .ref a :: rest))) := by
  obtain ⟨k, vs, hl, A⟩ := A
  obtain ⟨k2, vd, hl2, B⟩ := B
  exact arrCopy n W X hx hZ hown w1 w2 w3 w4 eT A B hty h1 h2 h3 h4 h5 (by rw [hl2]; exact h5) N ge hsz hd hn hf hW hlo (fun T1 hh1 L1 vs1 X1 e1 N1 K1 _ q V1 => K T1 hh1 L1 X1 e1 N1 K1 ⟨k2, vs1, q.trans hl2, V1⟩)
theorem acmp_ne (nY nN : Nat) (X : Stand p l e R s m args below meth c T locs cells slots) (hx : p.tables.exec = Jvm.exec) {o : Int} {x y : Value} {rest : List Value} (hd : decode c.code pc = .ok (.if_acmp .ne o, 3)) (h1 : x.isRef = true) (h2 : y.isRef = true) (hY : 0 ≤ (pc : Int) + o ∧ ((pc : Int) + o).toNat = nY) (hN : pc + 3 = nN) (KY : ¬ x = y → Ends p.tables e below Q F (T.setTop (mkF m nY Ls (rest)))) (KN : x = y → Ends p.tables e below Q F (T.setTop (mkF m nN Ls (rest)))) : Ends p.tables e below Q F (T.setTop (mkF m pc Ls (y :: x :: rest))) := by
  subst hN
  by_cases q : x = y
  · exact (KN q).step fun t k => acmp (g := mkF m pc Ls (y :: x :: rest)) X hx rfl h1 h2 (pc0 := pc) (pc' := pc + 3) (same := true) rfl hd rfl (decide_eq_true q) hY.1 rfl k
  · exact (KY q).step fun t k => acmp (g := mkF m pc Ls (y :: x :: rest)) X hx rfl h1 h2 (pc0 := pc) (pc' := nY) (same := false) rfl hd rfl (decide_eq_false q) hY.1 hY.2.symm k
theorem acmp_eq (nY nN : Nat) (X : Stand p l e R s m args below meth c T locs cells slots) (hx : p.tables.exec = Jvm.exec) {o : Int} {x y : Value} {rest : List Value} (hd : decode c.code pc = .ok (.if_acmp .eq o, 3)) (h1 : x.isRef = true) (h2 : y.isRef = true) (hY : 0 ≤ (pc : Int) + o ∧ ((pc : Int) + o).toNat = nY) (hN : pc + 3 = nN) (KY : x = y → Ends p.tables e below Q F (T.setTop (mkF m nY Ls (rest)))) (KN : ¬ x = y → Ends p.tables e below Q F (T.setTop (mkF m nN Ls (rest)))) : Ends p.tables e below Q F (T.setTop (mkF m pc Ls (y :: x :: rest))) := by
  subst hN
  by_cases q : x = y
  · exact (KY q).step fun t k => acmp (g := mkF m pc Ls (y :: x :: rest)) X hx rfl h1 h2 (pc0 := pc) (pc' := nY) (same := true) rfl hd rfl (decide_eq_true q) hY.1 hY.2.symm k
  · exact (KN q).step fun t k => acmp (g := mkF m pc Ls (y :: x :: rest)) X hx rfl h1 h2 (pc0 := pc) (pc' := pc + 3) (same := false) rfl hd rfl (decide_eq_false q) hY.1 rfl k
theorem callInitB (n W rc rs : Nat) (a : Addr) (argsL rest : List Value) (X : Stand p l e R s m args below meth c T locs cells slots) (hx : p.tables.exec = Jvm.exec) (hZ : Z.Warmed39 s.vm) {own : String} {index : Nat} {y : MethodName} {bytes : ByteArray} {maxL : Nat} {QQ : Option Value → Heap → List Loc → Prop} (hown : s.vm.findClass own = some m.cls) (hB : Back l R p e below s args y 3 W (fun P a' => a' = (.ref a :: argsL).toArray ∧ P.U.heap = h ∧ P.cells + rc ≤ R.cells ∧ P.slots + rs ≤ R.slots) (fun P _ v B => ∃ L, QQ v B.U.heap L ∧ B.locs = P.locs ++ L ∧ B.cells = P.cells + rc ∧ B.slots = P.slots + rs)) (hy1 : y.name = "<init>") (wl : (Cond.methodLink own index y).before a0 Z = true) (ws : (Cond.instanceMethod y).before a0 Z = true) (wc : (Cond.code y bytes maxL none).before a0 Z = true) (hy : y.cls ≠ "java/lang/invoke/MethodHandle" ∧ y.cls ≠ "java/lang/invoke/VarHandle") (eT : T.heap = h) (hc : cells + rc ≤ R.cells) (hs : slots + rs ≤ R.slots) (hsz : Ls.size = c.maxLocals) (hlen : ∀ sig, parseMethodDescriptor y.desc = some sig → argsL.length = sig.parameters.length) (hst : st = argsL.reverse ++ .ref a :: rest) (hW : (rest.map fun v => v.category).sum ≤ W) (hd : decode c.code pc = .ok (.invokespecial index, 3)) (hn : pc + 3 = n) (K : ∀ v T' L', Stand p l e R s m args below meth c T' (locs ++ L') (cells + rc) (slots + rs) → QQ v T'.heap L' → Ends p.tables e below Q F (T'.setTop (mkF m n Ls (v.toList ++ rest)))) : Ends p.tables e below Q F (T.setTop (mkF m pc Ls (st))) := by
  subst hn
  obtain ⟨v, vm1, ⟨T1, L1, k1, n1⟩, -, X1, ⟨Lc, hQ, l1, y1, z1⟩, st1⟩ := X.specialBack hx (y := y) hy1 hown (mvT hZ wl) (mvT hZ ws) (mvT hZ wc) hy hB (g := mkF m pc Ls st) rfl hsz (Steps.refl _) (a := a) (argsL := argsL) (rest := rest) hlen hst (by show 2 * 0 + _ ≤ _; omega) hd (fun _ _ => ⟨rfl, eT, hc, hs⟩)
  dsimp only [Pt.U, Pt.locs, Pt.cells, Pt.slots] at X1 l1 y1 z1 st1 hQ
  subst l1 y1 z1
  exact (K v T1 Lc X1 hQ).step fun t k => st1.trans k
theorem callVtB (n W rc rs : Nat) (a : Addr) (argsL rest : List Value) (X : Stand p l e R s m args below meth c T locs cells slots) (hx : p.tables.exec = Jvm.exec) (hZ : Z.Warmed39 s.vm) {own CC : String} {index : Nat} {y z : MethodName} {QQ : Option Value → Heap → List Loc → Prop} (hown : s.vm.findClass own = some m.cls) (hB : Back l R p e below s args z 3 W (fun P a' => a' = (.ref a :: argsL).toArray ∧ P.U.heap = h ∧ P.cells + rc ≤ R.cells ∧ P.slots + rs ≤ R.slots) (fun P _ v B => ∃ L, QQ v B.U.heap L ∧ B.locs = P.locs ++ L ∧ B.cells = P.cells + rc ∧ B.slots = P.slots + rs)) (E : Exa Z h a CC) (hnf : NotFace s y) (wl : (Cond.methodLink own index y).before a0 Z = true) (wd : (Cond.declares y).before a0 Z = true) (wsel : (Cond.selects CC y z).before a0 Z = true) (ws : (Cond.instanceMethod z).before a0 Z = true) (hy : y.cls ≠ "java/lang/invoke/MethodHandle" ∧ y.cls ≠ "java/lang/invoke/VarHandle") (eT : T.heap = h) (hc : cells + rc ≤ R.cells) (hs : slots + rs ≤ R.slots) (hsz : Ls.size = c.maxLocals) (hlen : ∀ sig, parseMethodDescriptor y.desc = some sig → argsL.length = sig.parameters.length) (hst : st = argsL.reverse ++ .ref a :: rest) (hW : (rest.map fun v => v.category).sum ≤ W) (hd : decode c.code pc = .ok (.invokevirtual index, 3)) (hn : pc + 3 = n) (K : ∀ v T' L', Stand p l e R s m args below meth c T' (locs ++ L') (cells + rc) (slots + rs) → QQ v T'.heap L' → Ends p.tables e below Q F (T'.setTop (mkF m n Ls (v.toList ++ rest)))) : Ends p.tables e below Q F (T.setTop (mkF m pc Ls (st))) := by
  subst hn
  obtain ⟨cq, kq, qa, qb, qc⟩ := isOf hZ eT E
  obtain ⟨v, vm1, ⟨T1, L1, k1, n1⟩, -, X1, ⟨Lc, hQ, l1, y1, z1⟩, st1⟩ := X.virtualBack hx (y := y) (z := z) hown (mvT hZ wl) (mvT hZ wd) hnf (mvT hZ wsel) (mvT hZ ws) hy hB qa qc (g := mkF m pc Ls st) rfl hsz (Steps.refl _) (argsL := argsL) (rest := rest) hlen hst (by show 2 * 0 + _ ≤ _; omega) hd (fun _ _ => ⟨rfl, eT, hc, hs⟩)
  dsimp only [Pt.U, Pt.locs, Pt.cells, Pt.slots] at X1 l1 y1 z1 st1 hQ
  subst l1 y1 z1
  exact (K v T1 Lc X1 hQ).step fun t k => st1.trans k
theorem eqI_v {t : Term} {k : Int32} {as : Array Value} (q : (Cond.eq t (.int k)).value as s none s [] = some true) : t.eval as s none [] s = some (.int k) := by
  cases ht : t.eval as s none [] s with
  | none => simp [Cond.value, ht] at q
  | some x => cases x <;> simp [Cond.value, Term.eval, ht] at q ⊢; exact q
theorem eqR_v {t u : Term} {b : Addr} {as : Array Value} (hu : u.eval as s none [] s = some (.ref b)) (q : (Cond.eq t u).value as s none s [] = some true) : t.eval as s none [] s = some (.ref b) := by
  cases ht : t.eval as s none [] s with
  | none => simp [Cond.value, ht] at q
  | some x => cases x <;> simp [Cond.value, hu, ht] at q ⊢; exact q
theorem Ends.wide {tb : Tables} {U : State} (k : Ends tb e below Q (FE s C S) U) : Ends tb e below Q (FW s C S) U := by
  obtain ⟨s₂, o, h1, h2, h3, v, L, h4, h5, h6⟩ := k
  exact ⟨s₂, o, h1, h2, h3, v, L, h4, h5, Jvm.RoadKit.wide h6⟩
theorem Ends.since {tb : Tables} {U : State} {vm1 : Vm} {k1 : Nat} (hS : s.Since vm1 k1) (k : Ends tb e below (fun v hh L => Q v hh L ∧ k1 ≤ hh.size) (FE (s.setVm vm1) C S) U) : Ends tb e below Q (FW s C S) U := by
  obtain ⟨s₂, o, h1, h2, h3, v, L, h4, ⟨h5, hk⟩, h6, h7, h8⟩ := k
  obtain ⟨a, b, d⟩ := hS.ended (U := s₂) h7 hk h8
  exact ⟨s₂, o, h1, h2, h3, v, L, h4, h5, h6, a, b, d⟩
theorem ldcStr (n cap : Nat) (X : Stand p l e R s m args below meth c T locs cells slots) (hx : p.tables.exec = Jvm.exec) (hZ : Z.Warmed39 s.vm) {own text : String} {index : Nat} (hown : s.vm.findClass own = some m.cls) (w : (Cond.stringLink own index text).before a0 Z = true) (wS : ∀ a ∈ Bundle.stringAtoms, a.before a0 Z = true) (eT : T.heap = h) (hd : decode c.code pc = .ok (.ldc index, 2)) (hn : pc + 2 = n) (hcap : 4 * text.toList.length ≤ cap) (hbig : cap ≤ 536870912) (hc : cells + 2 ≤ R.cells) (hl : slots + (cap + 4) ≤ R.slots) (K : ∀ (a : Addr) (T' : State) (h' : Heap), Stand p l e R (s.setVm T'.vm) m args below meth c T' locs (cells + 2) (slots + (cap + 4)) → T'.heap = h' → Ext h h' → Z.Warmed39 (s.setVm T'.vm).vm → (s.setVm T'.vm).vm.findClass own = some m.cls → Ends p.tables e below (fun v hh L => Q v hh L ∧ h'.size ≤ hh.size) (FE (s.setVm T'.vm) C S) (T'.setTop (mkF m n Ls (.ref a :: st)))) : Ends p.tables e below Q (FW s C S) (T.setTop (mkF m pc Ls st)) := by
  subst hn
  obtain ⟨a, T1, h1, k1, X1, e1, E1, S1, hk1, Z1, o1, st1⟩ := ldcS (s := s) (vm0 := s.vm) X hx hZ hown w wS eT (k0 := 0) ⟨State.Warmed39.refl s, fun j p hj hp => absurd (Array.getElem?_eq_some_iff.mp hp).1 (Nat.not_lt.mpr hj)⟩ (Nat.zero_le _) (g := mkF m pc Ls st) rfl hd hcap hbig hc hl
  exact Ends.since S1 (Ends.mono ((K a T1 h1 X1 e1 E1 Z1 o1).step st1) (fun v hh L q => ⟨q.1, Nat.le_trans hk1 q.2⟩))
/-- the contract of a body that may load a String constant -/
def MetW (l : Launch) (Z : State) (y : MethodName) (bytes : ByteArray) (maxL : Nat) (ret : Option FieldType) (ws : List Cond) (rm : Room) (as : Array Value) (h : Heap) (QQ : Option Value → Heap → List Loc → Prop) : Prop :=
  MetFree l y (head1 (Cond.code y bytes maxL ret :: ws) rm) (fun a U => a = as ∧ Z.Warmed39 U.vm ∧ U.heap = h) (fun _ _ _ _ _ => True) (fun _ U o U' => ∃ v L, o = .returned v ∧ QQ v U'.heap L ∧ ReturnedEndW U o U' L rm.cells rm.slots)
theorem MetW.of {y : MethodName} {bytes : ByteArray} {maxL : Nat} {ret : Option FieldType} {ws : List Cond} {rm : Room} {as : Array Value} {QQ : Option Value → Heap → List Loc → Prop} (hp : plainFor y = true)
    (body : ∀ (p : Program) (e : Env) (s : State) (m : MethodId) (below : List Frame) (meth : Method) (c : Code) (T : State), p.tables.exec = Jvm.exec → c.code = bytes → c.maxLocals = maxL → s.vm.findClass y.cls = some m.cls → meth.name = y.name → meth.sig.returnType = ret → meth.locks = false → Z.Warmed39 s.vm → Stand p l e rm s m as below meth c T [] 0 0 → T.heap = h → Ends p.tables e below QQ (FW s rm.cells rm.slots) (T.setTop (entryFrame m as maxL))) :
    MetW l Z y bytes maxL ret ws rm as h QQ := by
  refine MetFree.of_bodySF hp hisR ?_
  intro p e s m args below meth c s₁ Bd hml0 hP hK
  obtain ⟨rfl, hZ, hh⟩ := hP
  exact body p e s m below meth c s₁ Bd.exec Bd.bytes hml0 (findClass_of_methodNamed Bd.named) (name_of_methodNamed Bd.named Bd.method).1 Bd.returns Bd.notSynchronized hZ (Stand.of_body Bd) (by rw [← hh, Bd.state]; rfl)
theorem newRefArr (n cap : Nat) (X : Stand p l e R s m args below meth c T locs cells slots) (hx : p.tables.exec = Jvm.exec) (hZ : Z.Warmed39 s.vm) {own CC : String} {index : Nat} (hown : s.vm.findClass own = some m.cls) (w1 : (Cond.classLink own index CC).before a0 Z = true) (w2 : (Cond.arrayOver (.object CC)).before a0 Z = true) (eT : T.heap = h) {z : Int32} {rest : List Value} (hz : ¬ z < 0) (hcap : z.toNatClampNeg ≤ cap) (hb : cap * 8 ≤ 536870912) (hd : decode c.code pc = .ok (.anewarray index, 3)) (hn : pc + 3 = n) (hc : cells + 1 ≤ R.cells) (hl : slots + cap ≤ R.slots) (K : ∀ T' h' a k, a = h.size → Stand p l e R s m args below meth c T' locs (cells + 1) (slots + cap) → T'.heap = h' → Ext h h' → Arv Z h' a k (.object CC) z (List.replicate z.toNatClampNeg .null) .null → Ovr Z k CC → Ends p.tables e below Q F (T'.setTop (mkF m n Ls (.ref a :: rest)))) : Ends p.tables e below Q F (T.setTop (mkF m pc Ls (.int z :: rest))) := by
  subst hn
  obtain ⟨T1, h1, k1, X1, e1, E1, A1, O1, st1⟩ := newR X hx hZ hown w1 w2 eT (g := mkF m pc Ls (.int z :: rest)) rfl hd rfl hz (cap := cap) hcap hb hc hl
  exact (K T1 h1 _ k1 rfl X1 e1 E1 ((Arv.new A1 hz).pad (pad_rep [] _ _)) O1).step st1
theorem aastore (n : Nat) (X : Stand p l e R s m args below meth c T locs cells slots) (hx : p.tables.exec = Jvm.exec) (hZ : Z.Warmed39 s.vm) (eT : T.heap = h) {a : Addr} {k : ClassId} {z j : Int32} {ty : FieldType} {v : Value} {vs : List Value} {dv : Value} {rest : List Value} (A : Arv Z h a k ty z vs dv) (hty : ty.isReference = true) (hv : fits ty v = true) (hS : Sto Z h a v) (hj : ¬ j < 0 ∧ j < z) (hlen : j.toNatClampNeg < vs.length) (hd : decode c.code pc = .ok (.aastore, 1)) (hn : pc + 1 = n) (K : ∀ T' h', Stand p l e R s m args below meth c T' (locs ++ [⟨a, j.toNatClampNeg⟩]) cells slots → T'.heap = h' → Wr h h' a j.toNatClampNeg v → Arv Z h' a k ty z (vs.set j.toNatClampNeg v) dv → Ends p.tables e below Q F (T'.setTop (mkF m n Ls (rest)))) : Ends p.tables e below Q F (T.setTop (mkF m pc Ls (v :: .int j :: .ref a :: rest))) := by
  subst hn
  obtain ⟨cl, Ar, q1, Sz, Nz, Hs, Gs⟩ := A
  obtain ⟨T1, h1, X1, e1, W1, st1⟩ := stR X hx hZ eT Ar (j := j) (inb_of Sz hj) hty hS (g := mkF m pc Ls (v :: .int j :: .ref a :: rest)) rfl rfl hd
  exact (K T1 h1 X1 e1 W1 (Arv.set Ar q1 Sz Nz Hs Gs hv W1 _ rfl hlen)).step st1
theorem cat_ref {v : Value} (hv : v.isRef = true) : v.category = 1 := by rcases ref_cases hv with rfl | ⟨a, rfl⟩ <;> rfl
theorem fits_obj {v : Value} {C : String} (hv : v.isRef = true) : fits (.object C) v = true := by rcases ref_cases hv with rfl | ⟨a, rfl⟩ <;> rfl
/-- a reference that may be null; if not, one of this class -/
def Opt (Z : State) (h : Heap) (v : Value) (C : String) : Prop := v = .null ∨ ∃ a, v = .ref a ∧ Exa Z h a C
theorem Opt.isRef {v : Value} {CC : String} (F : Opt Z h v CC) : v.isRef = true := by rcases F with rfl | ⟨a, rfl, -⟩ <;> rfl
theorem Opt.ext {h' : Heap} {v : Value} {CC : String} (F : Opt Z h v CC) (E : Ext h h') : Opt Z h' v CC := F.imp id fun ⟨a, q, r⟩ => ⟨a, q, r.ext E⟩
theorem Opt.wr {h' : Heap} {v : Value} {CC : String} {a : Addr} {sl : Nat} {u : Value} (F : Opt Z h v CC) (W : Wr h h' a sl u) : Opt Z h' v CC := F.imp id fun ⟨a, q, r⟩ => ⟨a, q, r.wr W⟩
theorem Opt.keep {h' : Heap} {v : Value} {CC : String} {ws : List Addr} (F : Opt Z h v CC) (K : Keep h h' ws) : Opt Z h' v CC := F.imp id fun ⟨a, q, r⟩ => ⟨a, q, r.keep K⟩
theorem Opt.sto {v : Value} {CC : String} {a : Addr} {k : ClassId} {ty : FieldType} {z : Int32} {vs : List Value} {dv : Value} (F : Opt Z h v CC) (A : Arv Z h a k ty z vs dv) (O : Ovr Z k CC) : Sto Z h a v := by
  rcases F with rfl | ⟨y, rfl, E⟩
  · exact Or.inl rfl
  · obtain ⟨cq, Aq, qq, -⟩ := A
    exact Sto.ofV Aq qq O (Ins.self E)
theorem astoreV (n : Nat) (L1 : Array Slot) (X : Stand p l e R s m args below meth c T locs cells slots) (hx : p.tables.exec = Jvm.exec) {k : Nat} {x : Value} {o : Slot} {rest : List Value} (hd : decode c.code pc = .ok (.astore k, 2)) (hn : pc + 2 = n) (hv : x.isRef = true) (hold : Ls[k]? = some o) (ho : One o) (hL : Ls.setIfInBounds k (.val x) = L1) (K : Ends p.tables e below Q F (T.setTop (mkF m n (Ls.setIfInBounds k (.val x)) (rest)))) : Ends p.tables e below Q F (T.setTop (mkF m pc Ls (x :: rest))) := by
  subst hn hL; exact K.step fun t k => XS.astore (g := mkF m pc Ls (x :: rest)) X.here hx rfl hd rfl hv (XS.store1 hold ho (cat_ref hv)) k
theorem astoreNV (n : Nat) (L1 : Array Slot) (X : Stand p l e R s m args below meth c T locs cells slots) (hx : p.tables.exec = Jvm.exec) {k : Fin 4} {x : Value} {o : Slot} {rest : List Value} (hd : decode c.code pc = .ok (.astore_n k, 1)) (hn : pc + 1 = n) (hv : x.isRef = true) (hold : Ls[k.val]? = some o) (ho : One o) (hL : Ls.setIfInBounds k.val (.val x) = L1) (K : Ends p.tables e below Q F (T.setTop (mkF m n (Ls.setIfInBounds k.val (.val x)) (rest)))) : Ends p.tables e below Q F (T.setTop (mkF m pc Ls (x :: rest))) := by
  subst hn hL; exact K.step fun t k => XS.astoreN (g := mkF m pc Ls (x :: rest)) X.here hx rfl hd rfl hv (XS.store1 hold ho (cat_ref hv)) k
end Walk
end Jvm.Own

namespace Jvm.Own
open Jvm Sem ClassFile Op Lib Jvm.Stand Jvm.Free Jvm.LawKit Jvm.RoadKit Bundle
section Walk3
variable {p : Program} {l : Launch} {e : Env} {R : Room} {s : State} {m : MethodId} {args : Array Value} {below : List Frame} {meth : Method} {c : Code} {T : State} {locs : List Loc} {cells slots : Nat} {Q : Option Value → Heap → List Loc → Prop} {F : Outcome → State → List Loc → Prop} {C S : Nat} {pc : Nat} {Ls : Array Slot} {st : List Value} {Z : State} {a0 : Array Value} {h : Heap}
theorem getFldR (n : Nat) (X : Stand p l e R s m args below meth c T locs cells slots) (hx : p.tables.exec = Jvm.exec) (hZ : Z.Warmed39 s.vm) {own O nm d : String} {index : Nat} (hown : s.vm.findClass own = some m.cls) (w : (Cond.fieldRef own index O nm d).before a0 Z = true) (eT : T.heap = h) {a : Addr} {v : Value} (Fd : Fld Z h a O nm d v) {rest : List Value} (hd : decode c.code pc = .ok (.getfield index, 3)) (hn : pc + 3 = n) (K : Ends p.tables e below Q F (T.setTop (mkF m n Ls (v :: rest)))) : Ends p.tables e below Q F (T.setTop (mkF m pc Ls (.ref a :: rest))) := by
  subst hn
  obtain ⟨cell, cf, k, i, f, h1, h2, h3, h4, -, -, h7⟩ := Fd
  have hT : Z.Warmed39 T.vm := wtrans hZ X.warmed
  have w' := Cond.fieldRef_warmed39 hT w
  obtain ⟨k', hi, -⟩ := State.fieldFound?_setVm (s := Z) hT.alike h2
  have ho : (Z.setVm T.vm).vm.findClass own = some m.cls := by
    show T.vm.findClass own = _
    rw [X.warmed.alike.findClass]; exact hown
  obtain ⟨c1, k1, i1, f1, g1, g2⟩ := Cond.fieldRef_spec (s := Z.setVm T.vm) (args := a0) (first := Z.setVm T.vm) (o := none) (idx := []) ho w'
  cases g1.symm.trans hi
  exact K.step fun t kk => (X.getfieldR hx (g := mkF m pc Ls (.ref a :: rest)) rfl g2 h3 rfl (by rw [eT]; exact h1) h4 h7 hd (Steps.refl _)).trans kk
/-- the contract of a body that loads a String constant; the intern table at its start is I1 -/
def MetT (l : Launch) (Z : State) (y : MethodName) (bytes : ByteArray) (maxL : Nat) (ret : Option FieldType) (ws : List Cond) (rm : Room) (as : Array Value) (h : Heap) (I1 : Array (Array UInt16 × Addr)) (QQ : Option Value → Heap → List Loc → Prop) : Prop :=
  MetFree l y (head1 (Cond.code y bytes maxL ret :: ws) rm) (fun a U => a = as ∧ Z.Warmed39 U.vm ∧ U.heap = h ∧ U.vm.interned = I1) (fun _ _ _ _ _ => True) (fun _ U o U' => ∃ v L, o = .returned v ∧ QQ v U'.heap L ∧ ReturnedEndW U o U' L rm.cells rm.slots)
theorem MetT.of {y : MethodName} {bytes : ByteArray} {maxL : Nat} {ret : Option FieldType} {ws : List Cond} {rm : Room} {as : Array Value} {I1 : Array (Array UInt16 × Addr)} {QQ : Option Value → Heap → List Loc → Prop} (hp : plainFor y = true)
    (body : ∀ (p : Program) (e : Env) (s : State) (m : MethodId) (below : List Frame) (meth : Method) (c : Code) (T : State), p.tables.exec = Jvm.exec → c.code = bytes → c.maxLocals = maxL → s.vm.findClass y.cls = some m.cls → meth.name = y.name → meth.sig.returnType = ret → meth.locks = false → Z.Warmed39 s.vm → Stand p l e rm s m as below meth c T [] 0 0 → T.heap = h → s.vm.interned = I1 → s.heap = h → Ends p.tables e below QQ (FW s rm.cells rm.slots) (T.setTop (entryFrame m as maxL))) :
    MetT l Z y bytes maxL ret ws rm as h I1 QQ := by
  refine MetFree.of_bodySF hp hisR ?_
  intro p e s m args below meth c s₁ Bd hml0 hP hK
  obtain ⟨rfl, hZ, hh, hI⟩ := hP
  exact body p e s m below meth c s₁ Bd.exec Bd.bytes hml0 (findClass_of_methodNamed Bd.named) (name_of_methodNamed Bd.named Bd.method).1 Bd.returns Bd.notSynchronized hZ (Stand.of_body Bd) (by rw [← hh, Bd.state]; rfl) hI hh
theorem backOfT {y : MethodName} {bytes : ByteArray} {maxL : Nat} {ret : Option FieldType} {rm : Room} {len W : Nat} {as' : Array Value} {I1 : Array (Array UInt16 × Addr)} {QQ : Option Value → Heap → List Loc → Prop}
    (hM : MetT l Z y bytes maxL ret [] rm as' h I1 QQ) (hZ : Z.Warmed39 s.vm) (hI : s.vm.interned = I1) (wc : (Cond.code y bytes maxL ret).before a0 Z = true) (wz : (Cond.initialized y.cls).before a0 Z = true) (hf : rm.frames + 1 ≤ R.frames) (hl : W + (maxL + 11) + rm.locals ≤ R.locals) :
    BackS l R p e below s args y len W (fun A a => a = as' ∧ A.U.heap = h ∧ A.cells + rm.cells ≤ R.cells ∧ A.slots + rm.slots ≤ R.slots)
      (fun A _ v B => ∃ L, QQ v B.U.heap L ∧ B.locs = A.locs ++ L ∧ B.cells = A.cells + rm.cells ∧ B.slots = A.slots + rm.slots) :=
  BackS.of_freeW (bytes := bytes) (maxL := maxL) (ret := ret) (E := fun _ _ o t L k n => k = rm.cells ∧ n = rm.slots ∧ ∃ v, o = .returned v ∧ QQ v t.heap L) hM hf hl
    (fun m meth c A a Y hp => have hU : Z.Warmed39 A.U.vm := wtrans hZ Y.warmed
      ⟨by show (Cond.and _ .tt).before a A.U = true; rw [Cond.before_and, mv hU wc]; rfl, mv hU wc, mv hU wz, hp.2.2.1, hp.2.2.2⟩)
    (fun m meth c A a g mk Y hp => ⟨hp.1, wtrans hZ Y.warmed, hp.2.1, Y.warmed.interned_eq.trans hI⟩) (fun _ _ _ _ _ _ _ _ _ => trivial)
    (fun _ _ _ _ ⟨v, L, h1, h2, h3⟩ => ⟨L, _, _, h3, rfl, rfl, v, h1, h2⟩)
    (fun m meth c A a g mk v t L k n Y hp _ _ ⟨e1, e2, v', e3, e4⟩ => by cases e3; subst e1 e2; exact ⟨L, e4, rfl, rfl, rfl⟩)
theorem callInitT (n W : Nat) (a : Addr) (argsL rest : List Value) (X : Stand p l e R s m args below meth c T locs cells slots) (hx : p.tables.exec = Jvm.exec) (hZ : Z.Warmed39 s.vm) {own : String} {index : Nat} {y : MethodName} {bytes : ByteArray} {maxL : Nat} {rm : Room} {I1 : Array (Array UInt16 × Addr)} {QQ : Option Value → Heap → List Loc → Prop} (hown : s.vm.findClass own = some m.cls) (hM : MetT l Z y bytes maxL none [] rm (.ref a :: argsL).toArray h I1 QQ) (hI : s.vm.interned = I1) (hy1 : y.name = "<init>") (wl : (Cond.methodLink own index y).before a0 Z = true) (ws : (Cond.instanceMethod y).before a0 Z = true) (wi : (Cond.initialized y.cls).before a0 Z = true) (wc : (Cond.code y bytes maxL none).before a0 Z = true) (hy : y.cls ≠ "java/lang/invoke/MethodHandle" ∧ y.cls ≠ "java/lang/invoke/VarHandle") (eT : T.heap = h) (hfr : rm.frames + 1 ≤ R.frames) (hlc : W + (maxL + 11) + rm.locals ≤ R.locals) (hc : cells + rm.cells ≤ R.cells) (hs : slots + rm.slots ≤ R.slots) (hsz : Ls.size = c.maxLocals) (hlen : ∀ sig, parseMethodDescriptor y.desc = some sig → argsL.length = sig.parameters.length) (hst : st = argsL.reverse ++ .ref a :: rest) (hW : (rest.map fun v => v.category).sum ≤ W) (hd : decode c.code pc = .ok (.invokespecial index, 3)) (hn : pc + 3 = n) (K : ∀ v T' L', Stand p l e R (s.setVm T'.vm) m args below meth c T' (locs ++ L') (cells + rm.cells) (slots + rm.slots) → QQ v T'.heap L' → Z.Warmed39 (s.setVm T'.vm).vm → (s.setVm T'.vm).vm.findClass own = some m.cls → Ends p.tables e below (fun v hh L => Q v hh L ∧ T'.heap.size ≤ hh.size) (FE (s.setVm T'.vm) C S) (T'.setTop (mkF m n Ls (v.toList ++ rest)))) : Ends p.tables e below Q (FW s C S) (T.setTop (mkF m pc Ls st)) := by
  subst hn
  obtain ⟨v, vm1, ⟨T1, L1, k1, n1⟩, -, X1, hS1, hg1, ⟨Lc, hQ, l1, y1, z1⟩, st1⟩ := X.specialBackS hx (y := y) hy1 hown (mvT hZ wl) (mvT hZ ws) (mvT hZ wc) hy (backOfT (W := W) hM hZ hI wc wi hfr hlc) (g := mkF m pc Ls st) rfl hsz (Steps.refl _) (a := a) (argsL := argsL) (rest := rest) hlen hst (by show 2 * 0 + _ ≤ _; omega) hd (fun _ _ => ⟨rfl, eT, hc, hs⟩)
  dsimp only [Pt.U, Pt.locs, Pt.cells, Pt.slots] at X1 l1 y1 z1 st1 hQ hS1 hg1
  subst l1 y1 z1
  exact Ends.since hS1 ((K v T1 Lc X1 hQ (State.Warmed39.trans (t := s) hZ hS1.1) ((hS1.1.alike.findClass _ _).trans hown)).step fun t k => st1.trans k)
theorem callVtT (n W : Nat) (a : Addr) (argsL rest : List Value) (X : Stand p l e R s m args below meth c T locs cells slots) (hx : p.tables.exec = Jvm.exec) (hZ : Z.Warmed39 s.vm) {own CC : String} {index : Nat} {y z : MethodName} {bytes : ByteArray} {maxL : Nat} {ret : Option FieldType} {rm : Room} {I1 : Array (Array UInt16 × Addr)} {QQ : Option Value → Heap → List Loc → Prop} (hown : s.vm.findClass own = some m.cls) (hM : MetT l Z z bytes maxL ret [] rm (.ref a :: argsL).toArray h I1 QQ) (hI : s.vm.interned = I1) (Ex : Exa Z h a CC) (hnf : NotFace s y) (wl : (Cond.methodLink own index y).before a0 Z = true) (wd : (Cond.declares y).before a0 Z = true) (wsel : (Cond.selects CC y z).before a0 Z = true) (ws : (Cond.instanceMethod z).before a0 Z = true) (wi : (Cond.initialized z.cls).before a0 Z = true) (wc : (Cond.code z bytes maxL ret).before a0 Z = true) (hy : y.cls ≠ "java/lang/invoke/MethodHandle" ∧ y.cls ≠ "java/lang/invoke/VarHandle") (eT : T.heap = h) (hfr : rm.frames + 1 ≤ R.frames) (hlc : W + (maxL + 11) + rm.locals ≤ R.locals) (hc : cells + rm.cells ≤ R.cells) (hs : slots + rm.slots ≤ R.slots) (hsz : Ls.size = c.maxLocals) (hlen : ∀ sig, parseMethodDescriptor y.desc = some sig → argsL.length = sig.parameters.length) (hst : st = argsL.reverse ++ .ref a :: rest) (hW : (rest.map fun v => v.category).sum ≤ W) (hd : decode c.code pc = .ok (.invokevirtual index, 3)) (hn : pc + 3 = n) (K : ∀ v T' L', Stand p l e R (s.setVm T'.vm) m args below meth c T' (locs ++ L') (cells + rm.cells) (slots + rm.slots) → QQ v T'.heap L' → Z.Warmed39 (s.setVm T'.vm).vm → (s.setVm T'.vm).vm.findClass own = some m.cls → Ends p.tables e below (fun v hh L => Q v hh L ∧ T'.heap.size ≤ hh.size) (FE (s.setVm T'.vm) C S) (T'.setTop (mkF m n Ls (v.toList ++ rest)))) : Ends p.tables e below Q (FW s C S) (T.setTop (mkF m pc Ls st)) := by
  subst hn
  obtain ⟨cq, kq, qa, qb, qc⟩ := isOf hZ eT Ex
  obtain ⟨v, vm1, ⟨T1, L1, k1, n1⟩, -, X1, hS1, hg1, ⟨Lc, hQ, l1, y1, z1⟩, st1⟩ := X.virtualBackS hx (y := y) (z := z) hown (mvT hZ wl) (mvT hZ wd) hnf (mvT hZ wsel) (mvT hZ ws) hy (backOfT (W := W) hM hZ hI wc wi hfr hlc) qa qc (g := mkF m pc Ls st) rfl hsz (Steps.refl _) (argsL := argsL) (rest := rest) hlen hst (by show 2 * 0 + _ ≤ _; omega) hd (fun _ _ => ⟨rfl, eT, hc, hs⟩)
  dsimp only [Pt.U, Pt.locs, Pt.cells, Pt.slots] at X1 l1 y1 z1 st1 hQ hS1 hg1
  subst l1 y1 z1
  exact Ends.since hS1 ((K v T1 Lc X1 hQ (State.Warmed39.trans (t := s) hZ hS1.1) ((hS1.1.alike.findClass _ _).trans hown)).step fun t k => st1.trans k)
theorem ldcVal (n cap : Nat) (X : Stand p l e R s m args below meth c T locs cells slots) (hx : p.tables.exec = Jvm.exec) (hZ : Z.Warmed39 s.vm) {own text : String} {index : Nat} (hown : s.vm.findClass own = some m.cls) (w : (Cond.stringLink own index text).before a0 Z = true) (wS : ∀ a ∈ Bundle.stringAtoms, a.before a0 Z = true) (eT : T.heap = h) (hI : s.vm.interned = Z.vm.interned) (N : Fr s.heap.size locs) (hkeep : ∀ (b : Addr) (cl : Cell), Z.heap[b]? = some cl → s.heap[b]? = some cl) (hh : Jvm.Lit.constHeld Z own index) (hcw : Jvm.Lit.compactW.before a0 Z = true) {vs : List Value} {z : Int32} (ht : (∀ c ∈ text.toList, c.toNat < 256) ∧ text.toList.map (fun c => Value.int (Jvm.Lit.byteI c.toNat.toUInt16)) = vs) (hz : ¬ z < 0) (hl : z.toNatClampNeg = vs.length) (hd : decode c.code pc = .ok (.ldc index, 2)) (hn : pc + 2 = n) (hcap : 4 * text.toList.length ≤ cap) (hbig : cap ≤ 536870912) (hc : cells + 2 ≤ R.cells) (hl' : slots + (cap + 4) ≤ R.slots) (K : ∀ (a : Addr) (T' : State) (h' : Heap) (b : Addr) (k : ClassId), Stand p l e R (s.setVm T'.vm) m args below meth c T' locs (cells + 2) (slots + (cap + 4)) → T'.heap = h' → Ext h h' → Z.Warmed39 (s.setVm T'.vm).vm → (s.setVm T'.vm).vm.findClass own = some m.cls → Exa Z h' a "java/lang/String" → Fld Z h' a "java/lang/String" "coder" "B" (.int 0) → Fld Z h' a "java/lang/String" "value" "[B" (.ref b) → Arv Z h' b k .byte z vs (.int 0) → Lit (s.setVm T'.vm) own index a → Ends p.tables e below (fun v hh L => Q v hh L ∧ h'.size ≤ hh.size) (FE (s.setVm T'.vm) C S) (T'.setTop (mkF m n Ls (.ref a :: st)))) : Ends p.tables e below Q (FW s C S) (T.setTop (mkF m pc Ls st)) := by
  subst hn
  obtain ⟨a, T1, h1, k1, b, k, X1, e1, E1, S1, hk1, Z1, o1, r1, r2, r3, r4, -, -, -, r5, st1⟩ := ldcSVL (s := s) (vm0 := s.vm) (Ts := []) X hx hZ hown w wS eT (k0 := 0) ⟨State.Warmed39.refl s, fun j p hj hp => absurd (Array.getElem?_eq_some_iff.mp hp).1 (Nat.not_lt.mpr hj)⟩ (Nat.zero_le _) N hkeep ⟨#[], by rw [hI]; simp, fun q hq => by simp at hq⟩ (by simp) hh hcw ht hz hl (g := mkF m pc Ls st) rfl hd hcap hbig hc hl'
  exact Ends.since S1 (Ends.mono ((K a T1 h1 b k X1 e1 E1 Z1 o1 r1 r2 r3 r4 r5).step st1) (fun v hh L q => ⟨q.1, Nat.le_trans hk1 q.2⟩))
theorem ldcRe (n : Nat) (X : Stand p l e R s m args below meth c T locs cells slots) (hx : p.tables.exec = Jvm.exec) (hZ : Z.Warmed39 s.vm) {own text : String} {index : Nat} (hown : s.vm.findClass own = some m.cls) (w : (Cond.stringLink own index text).before a0 Z = true) {a : Addr} (L : Lit s own index a) (hd : decode c.code pc = .ok (.ldc index, 2)) (hn : pc + 2 = n) (K : Ends p.tables e below Q F (T.setTop (mkF m n Ls (.ref a :: st)))) : Ends p.tables e below Q F (T.setTop (mkF m pc Ls (st))) := by
  subst hn
  exact K.step (ldcAgain (s := s) (vm0 := s.vm) X hx hZ hown w L (g := mkF m pc Ls st) rfl hd)
end Walk3
end Jvm.Own
/- laws to paste: Road.backV (cut by pick.py; bodies as the Statement names them) -/
namespace Jvm.Pilot.@@N@@
namespace StrChars
open Jvm Sem ClassFile Op Lib Jvm.Stand Jvm.Free.XT Jvm.Free.ALB Jvm.Free.JM Jvm.Free
open Jvm.Lib.Cold (StaticIs)
/-- a char array whose places are chars -/
def Ch (a : Addr) (A : Cell) (U : State) : Prop := Arr .char a A U ∧ Typed .char A
theorem Ch.mv {a : Addr} {A : Cell} {U U' : State} (h : Ch a A U) (hal : U.vm.Alike U'.vm) (hh : U'.heap = U.heap) : Ch a A U' := ⟨h.1.mv hal hh, h.2⟩
theorem Ch.keep {a : Addr} {A : Cell} {U U' : State} (h : Ch a A U) (hal : U.vm.Alike U'.vm) (hk : U'.heap[a]? = some A) : Ch a A U' := ⟨h.1.keep hal hk, h.2⟩
/-- what place i of a char[]'s cell holds -/
def cv (A : Cell) (i : Nat) : Int32 := match A.slots[i]? with | some (.int x) => x | _ => 0
theorem Ch.get {a : Addr} {A : Cell} {U : State} (h : Ch a A U) {i : Nat} (hi : i < A.slots.size) : A.slots[i]? = some (.int (cv A i)) := by
  have e := Array.getElem?_eq_getElem hi
  have f := h.2 i _ e
  unfold cv; rw [e]
  generalize A.slots[i] = v at f
  cases v <;> simp [fits] at f ⊢
/-- the byte that i2b leaves of a char -/
def lo8 (x : Int32) : Int32 := x.toInt8.toInt32
theorem fits_lo8 (y : Int32) : fits .byte (.int (lo8 y)) = true := by
  have h1 := y.toInt8.le_toInt
  have h2 := y.toInt8.toInt_lt
  simp only [lo8, fits, Bool.and_eq_true, decide_eq_true_eq, Int32.le_iff_toInt_le, Int8.toInt_toInt32, show (-128 : Int32).toInt = -128 from by decide, show (127 : Int32).toInt = 127 from by decide]
  omega
/-- A' is A but that each place j of lo .. hi - 1 holds f j -/
def Laid (A A' : Cell) (lo hi : Nat) (f : Nat → Value) : Prop := A'.cls = A.cls ∧ A'.vm = A.vm ∧ A'.slots.size = A.slots.size ∧ ∀ i, A'.slots[i]? = if lo ≤ i ∧ i < hi then some (f i) else A.slots[i]?
theorem Laid.zero (A : Cell) (lo : Nat) (f : Nat → Value) : Laid A A lo (lo + 0) f := ⟨rfl, rfl, rfl, fun i => by rw [if_neg (by omega)]⟩
theorem Laid.step {A Ak : Cell} {lo k : Nat} {f : Nat → Value} {v : Value} (h : Laid A Ak lo k f) (hlo : lo ≤ k) (hk : k < Ak.slots.size) (hv : v = f k) : Laid A (Ak.setSlot k v) lo (k + 1) f := by
  refine ⟨h.1, h.2.1, by simpa [Cell.setSlot] using h.2.2.1, fun i => ?_⟩
  by_cases e : k = i
  · subst e; rw [Cell.slots_setSlot_self v hk, if_pos (by omega), hv]
  · rw [Cell.slots_setSlot_ne v e, h.2.2.2 i]
    by_cases q : lo ≤ i ∧ i < k
    · rw [if_pos q, if_pos (by omega)]
    · rw [if_neg q, if_neg (by omega)]
def U16 : String := "java/lang/StringUTF16"
namespace Cmp5
def yN : MethodName := ⟨"java/lang/StringUTF16", "compress", "([CI[BII)I"⟩
abbrev yB : ByteArray := jdk_52_method_21_code
theorem d0 : decode yB 0 = .ok (.iconst 0, 1) := by decide +kernel
theorem d1 : decode yB 1 = .ok (.istore 5, 2) := by decide +kernel
theorem d3 : decode yB 3 = .ok (.iload 5, 2) := by decide +kernel
theorem d5 : decode yB 5 = .ok (.iload 4, 2) := by decide +kernel
theorem d7 : decode yB 7 = .ok (.if_icmp (.ge) 37, 3) := by decide +kernel
theorem d10 : decode yB 10 = .ok (.aload_n 0, 1) := by decide +kernel
theorem d11 : decode yB 11 = .ok (.iload_n 1, 1) := by decide +kernel
theorem d12 : decode yB 12 = .ok (.caload, 1) := by decide +kernel
theorem d13 : decode yB 13 = .ok (.istore 6, 2) := by decide +kernel
theorem d15 : decode yB 15 = .ok (.iload 6, 2) := by decide +kernel
theorem d17 : decode yB 17 = .ok (.sipush 255, 3) := by decide +kernel
theorem d20 : decode yB 20 = .ok (.if_icmp (.le) 6, 3) := by decide +kernel
theorem d26 : decode yB 26 = .ok (.aload_n 2, 1) := by decide +kernel
theorem d27 : decode yB 27 = .ok (.iload_n 3, 1) := by decide +kernel
theorem d28 : decode yB 28 = .ok (.iload 6, 2) := by decide +kernel
theorem d30 : decode yB 30 = .ok (.i2b, 1) := by decide +kernel
theorem d31 : decode yB 31 = .ok (.bastore, 1) := by decide +kernel
theorem d32 : decode yB 32 = .ok (.iinc 1 1, 3) := by decide +kernel
theorem d35 : decode yB 35 = .ok (.iinc 3 1, 3) := by decide +kernel
theorem d38 : decode yB 38 = .ok (.iinc 5 1, 3) := by decide +kernel
theorem d41 : decode yB 41 = .ok (.goto (-38), 3) := by decide +kernel
theorem d44 : decode yB 44 = .ok (.iload 4, 2) := by decide +kernel
theorem d46 : decode yB 46 = .ok (.ireturn, 1) := by decide +kernel
def site : List Cond := []
def tab : Cond := tabOf yN yB 7 (some .int) site
def P (b : Addr) (A : Cell) (d : Addr) (B : Cell) (o q len : Nat) (args : Array Value) (s : State) : Prop := args = #[.ref b, .int (Int32.ofNat o), .ref d, .int (Int32.ofNat q), .int (Int32.ofNat len)] ∧ Ch b A s ∧ Arr .byte d B s ∧ b ≠ d ∧ o + len ≤ A.slots.size ∧ q + len ≤ B.slots.size ∧ ∀ i, i < len → ¬ 255 < cv A (o + i)
def E (b : Addr) (A : Cell) (d : Addr) (B : Cell) (o q len : Nat) (r : Option Value) (s u : State) : Prop := r = some (.int (Int32.ofNat len)) ∧ ∃ B', Put d B' s u ∧ Laid B B' q (q + len) (fun j => Value.int (lo8 (cv A (o + (j - q)))))
/-- no char of the range above 255: len; the places written hold each char's low byte -/
theorem law (l : Launch) (b : Addr) (A : Cell) (d : Addr) (B : Cell) (o q len : Nat) : Law l yN 5 5 0 0 yB 7 (some .int) site (P b A d B o q len) (E b A d B o q len) (copyLocs d q len) 0 0 := by
  refine Law.of_walk (plainFor_of_name (by decide +kernel)) (by decide +kernel) (by decide +kernel) (by decide) (fun _ _ h => by rw [h.1]; rfl) (fun _ U U' hal hh h => ⟨h.1, h.2.1.mv hal hh, h.2.2.1.mv hal hh, h.2.2.2⟩) (fun r U U' V V' h1 hal h2 h => ⟨h.1, h.2.elim fun B' q => ⟨B', q.1.mv h1 h2, q.2⟩⟩) ?_
  intro p e s m args below meth c s₁ X0 hexec hbytes hml hret hlk hnm hown hh0 W hP
  obtain ⟨rfl, hA, hB, hne, l1, l2, hp⟩ := hP
  have c1 : Steps p.tables e below (s₁.setTop (entryFrame m #[.ref b, .int (Int32.ofNat o), .ref d, .int (Int32.ofNat q), .int (Int32.ofNat len)] 7)) (s₁.setTop (mkF m 0 #[.val (.ref b), .val (.int (Int32.ofNat o)), .val (.ref d), .val (.int (Int32.ofNat q)), .val (.int (Int32.ofNat len)), .unset, .unset] [])) := entry rfl
  have hA0 := hA.1.mv X0.warmed.alike hh0
  have hB0 := hB.mv X0.warmed.alike hh0
  have a31 := hA.1.2.2.2
  have c2 : Steps p.tables e below (s₁.setTop (entryFrame m #[.ref b, .int (Int32.ofNat o), .ref d, .int (Int32.ofNat q), .int (Int32.ofNat len)] 7)) (s₁.setTop (mkF m 3 #[.val (.ref b), .val (.int (Int32.ofNat o)), .val (.ref d), .val (.int (Int32.ofNat q)), .val (.int (Int32.ofNat len)), .val (.int 0), .unset] [])) := c1.trans (by
    refine iconstV X0.here hexec rfl 0 (hb hbytes d0) (by decide) ?_
    refine XS.istore X0.here hexec rfl (hb hbytes d1) rfl rfl ?_
    exact Steps.refl _)
  have loop : ∀ (r i : Nat), i + r = len → ∀ (z : Slot), (z = .unset ∨ ∃ w, z = .val w ∧ w.category = 1) → ∀ (Tl : State) (Bk : Cell), Stand p l e { frames := 0, locals := 0, cells := 0, slots := 0 } s m #[.ref b, .int (Int32.ofNat o), .ref d, .int (Int32.ofNat q), .int (Int32.ofNat len)] below meth c Tl ([] ++ copyLocs d q i) 0 0 → Put d Bk s₁ Tl → Laid B Bk q (q + i) (fun j => Value.int (lo8 (cv A (o + (j - q))))) →
      Steps p.tables e below (s₁.setTop (entryFrame m #[.ref b, .int (Int32.ofNat o), .ref d, .int (Int32.ofNat q), .int (Int32.ofNat len)] 7)) (Tl.setTop (mkF m 3 #[.val (.ref b), .val (.int (Int32.ofNat (o + i))), .val (.ref d), .val (.int (Int32.ofNat (q + i))), .val (.int (Int32.ofNat len)), .val (.int (Int32.ofNat i)), z] [])) → ∃ (T' : State) (B' : Cell) (z' : Slot), Stand p l e { frames := 0, locals := 0, cells := 0, slots := 0 } s m #[.ref b, .int (Int32.ofNat o), .ref d, .int (Int32.ofNat q), .int (Int32.ofNat len)] below meth c T' ([] ++ copyLocs d q len) 0 0 ∧ Put d B' s₁ T' ∧ Laid B B' q (q + len) (fun j => Value.int (lo8 (cv A (o + (j - q))))) ∧
      Steps p.tables e below (s₁.setTop (entryFrame m #[.ref b, .int (Int32.ofNat o), .ref d, .int (Int32.ofNat q), .int (Int32.ofNat len)] 7)) (T'.setTop (mkF m 3 #[.val (.ref b), .val (.int (Int32.ofNat (o + len))), .val (.ref d), .val (.int (Int32.ofNat (q + len))), .val (.int (Int32.ofNat len)), .val (.int (Int32.ofNat len)), z'] [])) := by
    intro r
    induction r with
    | zero =>
      intro i hi z hz Tl Bk Xl pl fl cl
      have hil : i = len := by omega
      rw [hil] at Xl fl cl
      exact ⟨Tl, Bk, z, Xl, pl, fl, cl⟩
    | succ r ih =>
      intro i hi z hz Tl Bk Xl pl fl cl
      have all := X0.warmed.alike.symm.trans Xl.warmed.alike
      have hAl := hA0.keep all (pl.other hne hA0.1)
      have hBk := hB0.like all pl.1 fl.1 fl.2.1 fl.2.2.1
      have hlt : q + i < Bk.slots.size := by rw [fl.2.2.1]; omega
      have c3 : Steps p.tables e below (s₁.setTop (entryFrame m #[.ref b, .int (Int32.ofNat o), .ref d, .int (Int32.ofNat q), .int (Int32.ofNat len)] 7)) (Tl.setTop (mkF m 12 #[.val (.ref b), .val (.int (Int32.ofNat (o + i))), .val (.ref d), .val (.int (Int32.ofNat (q + i))), .val (.int (Int32.ofNat len)), .val (.int (Int32.ofNat i)), z] [.int (Int32.ofNat (o + i)), .ref b])) := cl.trans (by
        refine XS.iload Xl.here hexec rfl (hb hbytes d3) rfl ?_
        refine XS.iload Xl.here hexec rfl (hb hbytes d5) rfl ?_
        refine XS.icmpNo Xl.here hexec rfl (hb hbytes d7) rfl (ii_ge_f (lt32 (by omega) (by omega))) ?_
        refine XS.aloadN Xl.here hexec rfl (hb hbytes d10) rfl rfl ?_
        refine XS.iloadN Xl.here hexec rfl (hb hbytes d11) rfl ?_
        exact Steps.refl _)
      have c4 : Steps p.tables e below (s₁.setTop (entryFrame m #[.ref b, .int (Int32.ofNat o), .ref d, .int (Int32.ofNat q), .int (Int32.ofNat len)] 7)) (Tl.setTop (mkF m 13 #[.val (.ref b), .val (.int (Int32.ofNat (o + i))), .val (.ref d), .val (.int (Int32.ofNat (q + i))), .val (.int (Int32.ofNat len)), .val (.int (Int32.ofNat i)), z] [.int (cv A (o + i))])) := c3.trans (by
        refine Xl.aget hexec hAl rfl (hA.get (i := o + i) (by omega)) rfl rfl (hb hbytes d12) ?_
        exact Steps.refl _)
      have c5 : Steps p.tables e below (s₁.setTop (entryFrame m #[.ref b, .int (Int32.ofNat o), .ref d, .int (Int32.ofNat q), .int (Int32.ofNat len)] 7)) (Tl.setTop (mkF m 15 #[.val (.ref b), .val (.int (Int32.ofNat (o + i))), .val (.ref d), .val (.int (Int32.ofNat (q + i))), .val (.int (Int32.ofNat len)), .val (.int (Int32.ofNat i)), .val (.int (cv A (o + i)))] [])) := c4.trans (by
        refine XS.istoreS Xl.here hexec rfl (hb hbytes d13) rfl rfl hz ?_
        exact Steps.refl _)
      have c6 : Steps p.tables e below (s₁.setTop (entryFrame m #[.ref b, .int (Int32.ofNat o), .ref d, .int (Int32.ofNat q), .int (Int32.ofNat len)] 7)) (Tl.setTop (mkF m 31 #[.val (.ref b), .val (.int (Int32.ofNat (o + i))), .val (.ref d), .val (.int (Int32.ofNat (q + i))), .val (.int (Int32.ofNat len)), .val (.int (Int32.ofNat i)), .val (.int (cv A (o + i)))] [.int (lo8 (cv A (o + i))), .int (Int32.ofNat (q + i)), .ref d])) := c5.trans (by
        refine XS.iload Xl.here hexec rfl (hb hbytes d15) rfl ?_
        refine sipushV Xl.here hexec rfl 255 (hb hbytes d17) (by decide) ?_
        refine XS.icmpYes Xl.here hexec rfl (pc0 := 20) rfl (hb hbytes d20) rfl (ii_le_t (hp i (by omega))) (by decide) rfl ?_
        refine XS.aloadN Xl.here hexec rfl (hb hbytes d26) rfl rfl ?_
        refine XS.iloadN Xl.here hexec rfl (hb hbytes d27) rfl ?_
        refine XS.iload Xl.here hexec rfl (hb hbytes d28) rfl ?_
        refine i2b Xl.here hexec rfl (hb hbytes d30) rfl ?_
        exact Steps.refl _)
      obtain ⟨T7, X7, p7, st7⟩ := Xl.aput hexec hBk rfl hlt rfl (fits_lo8 (cv A (o + i))) (g := (mkF m 31 #[.val (.ref b), .val (.int (Int32.ofNat (o + i))), .val (.ref d), .val (.int (Int32.ofNat (q + i))), .val (.int (Int32.ofNat len)), .val (.int (Int32.ofNat i)), .val (.int (cv A (o + i)))] [.int (lo8 (cv A (o + i))), .int (Int32.ofNat (q + i)), .ref d])) rfl (rest := []) rfl (hb hbytes d31)
      have c8 : Steps p.tables e below (s₁.setTop (entryFrame m #[.ref b, .int (Int32.ofNat o), .ref d, .int (Int32.ofNat q), .int (Int32.ofNat len)] 7)) (T7.setTop (mkF m 32 #[.val (.ref b), .val (.int (Int32.ofNat (o + i))), .val (.ref d), .val (.int (Int32.ofNat (q + i))), .val (.int (Int32.ofNat len)), .val (.int (Int32.ofNat i)), .val (.int (cv A (o + i)))] [])) := c6.trans (st7 _ (Steps.refl _))
      have c9 : Steps p.tables e below (s₁.setTop (entryFrame m #[.ref b, .int (Int32.ofNat o), .ref d, .int (Int32.ofNat q), .int (Int32.ofNat len)] 7)) (T7.setTop (mkF m 3 #[.val (.ref b), .val (.int (Int32.ofNat (o + i) + 1)), .val (.ref d), .val (.int (Int32.ofNat (q + i) + 1)), .val (.int (Int32.ofNat len)), .val (.int (Int32.ofNat i + 1)), .val (.int (cv A (o + i)))] [])) := c8.trans (by
        refine iincV X7.here hexec rfl 1 (hb hbytes d32) (by decide) rfl rfl ?_
        refine iincV X7.here hexec rfl 1 (hb hbytes d35) (by decide) rfl rfl ?_
        refine iincV X7.here hexec rfl 1 (hb hbytes d38) (by decide) rfl rfl ?_
        refine XS.goto X7.here hexec rfl (pc0 := 41) rfl (hb hbytes d41) (by decide) rfl ?_
        exact Steps.refl _)
      have c10 : Steps p.tables e below (s₁.setTop (entryFrame m #[.ref b, .int (Int32.ofNat o), .ref d, .int (Int32.ofNat q), .int (Int32.ofNat len)] 7)) (T7.setTop (mkF m 3 #[.val (.ref b), .val (.int (Int32.ofNat (o + (i + 1)))), .val (.ref d), .val (.int (Int32.ofNat (q + (i + 1)))), .val (.int (Int32.ofNat len)), .val (.int (Int32.ofNat (i + 1))), .val (.int (cv A (o + i)))] [])) := by
        have := c9
        rw [succ32, succ32, succ32] at this
        exact this
      exact ih (i + 1) (by omega) _ (Or.inr ⟨_, rfl, rfl⟩) T7 _ (by rw [copyLocs_step, ← List.append_assoc]; exact X7) (pl.trans p7) (fl.step (by omega) hlt (by simp)) c10
  obtain ⟨T9, B9, z9, X9, p9, f9, g9⟩ := loop len 0 (by omega) .unset (Or.inl rfl) s₁ B (by simpa [copyLocs] using X0) ⟨hB0.1, fun _ _ => rfl, rfl⟩ (Laid.zero _ _ _) c2
  have c11 : Steps p.tables e below (s₁.setTop (entryFrame m #[.ref b, .int (Int32.ofNat o), .ref d, .int (Int32.ofNat q), .int (Int32.ofNat len)] 7)) (T9.setTop (mkF m 46 #[.val (.ref b), .val (.int (Int32.ofNat (o + len))), .val (.ref d), .val (.int (Int32.ofNat (q + len))), .val (.int (Int32.ofNat len)), .val (.int (Int32.ofNat len)), z9] [.int (Int32.ofNat len)])) := g9.trans (by
    refine XS.iload X9.here hexec rfl (hb hbytes d3) rfl ?_
    refine XS.iload X9.here hexec rfl (hb hbytes d5) rfl ?_
    refine XS.icmpYes X9.here hexec rfl (pc0 := 7) rfl (hb hbytes d7) rfl (ii_ge_t (nlt32 (by omega) (Nat.le_refl _))) (by decide) rfl ?_
    refine XS.iload X9.here hexec rfl (hb hbytes d44) rfl ?_
    exact Steps.refl _)
  exact ⟨T9, some (.int (Int32.ofNat len)), _, _, _, X9, by simp, rfl, rfl, (fun h => by cases h), ⟨rfl, B9, p9.from hh0, f9⟩, fun fs hl => c11.trans (X9.ireturnOut hexec hret rfl (Or.inl rfl) (hb hbytes d46) hl)⟩
end Cmp5
namespace Cmp3
def yN : MethodName := ⟨"java/lang/StringUTF16", "compress", "([CII)[B"⟩
abbrev yB : ByteArray := jdk_52_method_16_code
theorem d0 : decode yB 0 = .ok (.iload_n 2, 1) := by decide +kernel
theorem d1 : decode yB 1 = .ok (.newarray .byte, 2) := by decide +kernel
theorem d3 : decode yB 3 = .ok (.astore_n 3, 1) := by decide +kernel
theorem d4 : decode yB 4 = .ok (.aload_n 0, 1) := by decide +kernel
theorem d5 : decode yB 5 = .ok (.iload_n 1, 1) := by decide +kernel
theorem d6 : decode yB 6 = .ok (.aload_n 3, 1) := by decide +kernel
theorem d7 : decode yB 7 = .ok (.iconst 0, 1) := by decide +kernel
theorem d8 : decode yB 8 = .ok (.iload_n 2, 1) := by decide +kernel
theorem d9 : decode yB 9 = .ok (.invokestatic 115, 3) := by decide +kernel
theorem d12 : decode yB 12 = .ok (.istore 4, 2) := by decide +kernel
theorem d14 : decode yB 14 = .ok (.iload 4, 2) := by decide +kernel
theorem d16 : decode yB 16 = .ok (.iload_n 2, 1) := by decide +kernel
theorem d17 : decode yB 17 = .ok (.if_icmp (.eq) 40, 3) := by decide +kernel
theorem d57 : decode yB 57 = .ok (.aload_n 3, 1) := by decide +kernel
theorem d58 : decode yB 58 = .ok (.areturn, 1) := by decide +kernel
def site : List Cond := [.arrayClass .byte, Cmp5.tab] ++ staticW U16 115 Cmp5.yN
def tab : Cond := tabOf yN yB 6 (some (.array .byte)) site
def P (b : Addr) (A : Cell) (o len : Nat) (args : Array Value) (s : State) : Prop := args = #[.ref b, .int (Int32.ofNat o), .int (Int32.ofNat len)] ∧ Ch b A s ∧ o + len ≤ A.slots.size ∧ len ≤ 536870912 ∧ ∀ i, i < len → ¬ 255 < cv A (o + i)
def E (b : Addr) (A : Cell) (o len : Nat) (r : Option Value) (s u : State) : Prop := NewArr .byte "[B" len (fun j => .int (lo8 (cv A (o + j)))) r s u ∧ u.heap.size = s.heap.size + 1
/-- no char of the range above 255: a new byte[] of their low bytes -/
theorem law (l : Launch) (b : Addr) (A : Cell) (o len : Nat) : Law l yN 3 3 1 18 yB 6 (some (.array .byte)) site (P b A o len) (E b A o len) [] 1 len := by
  refine Law.of_walk (plainFor_of_name (by decide +kernel)) (by decide +kernel) (by decide +kernel) (by decide) (fun _ _ h => by rw [h.1]; rfl) (fun _ U U' hal hh h => ⟨h.1, h.2.1.mv hal hh, h.2.2⟩) (fun r U U' V V' h1 hal h2 h => ⟨NewArr.mv r U U' V V' h1 hal h2 h.1, by rw [h1, h2]; exact h.2⟩) ?_
  intro p e s m args below meth c s₁ X0 hexec hbytes hml hret hlk hnm hown hh0 W hP
  obtain ⟨rfl, hA, l1, l2, hp⟩ := hP
  have a31 := hA.1.2.2.2
  have c1 : Steps p.tables e below (s₁.setTop (entryFrame m #[.ref b, .int (Int32.ofNat o), .int (Int32.ofNat len)] 6)) (s₁.setTop (mkF m 0 #[.val (.ref b), .val (.int (Int32.ofNat o)), .val (.int (Int32.ofNat len)), .unset, .unset, .unset] [])) := entry rfl
  have c2 : Steps p.tables e below (s₁.setTop (entryFrame m #[.ref b, .int (Int32.ofNat o), .int (Int32.ofNat len)] 6)) (s₁.setTop (mkF m 1 #[.val (.ref b), .val (.int (Int32.ofNat o)), .val (.int (Int32.ofNat len)), .unset, .unset, .unset] [.int (Int32.ofNat len)])) := c1.trans (by
    refine XS.iloadN X0.here hexec rfl (hb hbytes d0) rfl ?_
    exact Steps.refl _)
  obtain ⟨T3, B3, X3, ba3, bs3, bv3, bh3, bf3, st3⟩ := X0.anew hexec (atype := .byte) (wk W (.arrayClass .byte)) rfl (by show len * 1 ≤ _; omega) (by omega) (g := (mkF m 1 #[.val (.ref b), .val (.int (Int32.ofNat o)), .val (.int (Int32.ofNat len)), .unset, .unset, .unset] [.int (Int32.ofNat len)])) rfl (hb hbytes d1) (rest := []) rfl (Nat.le_refl _) (by show 0 + len ≤ len; omega)
  rw [hh0] at ba3 st3
  have kp3 : XT.Kept s T3 := (XT.Kept.of_eq hh0).push bh3
  have hA3 := hA.keep X3.warmed.alike (kp3 _ _ hA.1.1)
  have hne : b ≠ s.heap.size := hA.1.ne
  have c4 : Steps p.tables e below (s₁.setTop (entryFrame m #[.ref b, .int (Int32.ofNat o), .int (Int32.ofNat len)] 6)) (T3.setTop (mkF m 3 #[.val (.ref b), .val (.int (Int32.ofNat o)), .val (.int (Int32.ofNat len)), .unset, .unset, .unset] [.ref s.heap.size])) := c2.trans (st3 _ (Steps.refl _))
  have c5 : Steps p.tables e below (s₁.setTop (entryFrame m #[.ref b, .int (Int32.ofNat o), .int (Int32.ofNat len)] 6)) (T3.setTop (mkF m 9 #[.val (.ref b), .val (.int (Int32.ofNat o)), .val (.int (Int32.ofNat len)), .val (.ref s.heap.size), .unset, .unset] [.int (Int32.ofNat len), .int 0, .ref s.heap.size, .int (Int32.ofNat o), .ref b])) := c4.trans (by
    refine XS.astoreN X3.here hexec rfl (hb hbytes d3) rfl rfl rfl ?_
    refine XS.aloadN X3.here hexec rfl (hb hbytes d4) rfl rfl ?_
    refine XS.iloadN X3.here hexec rfl (hb hbytes d5) rfl ?_
    refine XS.aloadN X3.here hexec rfl (hb hbytes d6) rfl rfl ?_
    refine iconstV X3.here hexec rfl 0 (hb hbytes d7) (by decide) ?_
    refine XS.iloadN X3.here hexec rfl (hb hbytes d8) rfl ?_
    exact Steps.refl _)
  obtain ⟨v6, T6, X6, E6, g6⟩ := X3.callS hexec (Cmp5.law l b A s.heap.size B3 o 0 len) hown (wks W (staticW U16 115 Cmp5.yN)) (wk W Cmp5.tab) (W := 0) (Nat.le_of_ble_eq_true rfl) (Nat.le_of_ble_eq_true rfl) (Nat.le_refl _) (by show 0 + len + 0 ≤ len; omega) (g := (mkF m 9 #[.val (.ref b), .val (.int (Int32.ofNat o)), .val (.int (Int32.ofNat len)), .val (.ref s.heap.size), .unset, .unset] [.int (Int32.ofNat len), .int (Int32.ofNat 0), .ref s.heap.size, .int (Int32.ofNat o), .ref b])) rfl (by rw [hml]; rfl) c5 (argsL := [.ref b, .int (Int32.ofNat o), .ref s.heap.size, .int (Int32.ofNat 0), .int (Int32.ofNat len)]) (rest := []) rfl rfl (by show 2 * 0 + 0 ≤ _; decide) (hb hbytes d9) (⟨rfl, hA3, ba3, hne, l1, by rw [bs3]; simp, hp⟩)
  obtain ⟨rfl, B6, p6, f6⟩ := E6
  have c7 : Steps p.tables e below (s₁.setTop (entryFrame m #[.ref b, .int (Int32.ofNat o), .int (Int32.ofNat len)] 6)) (T6.setTop (mkF m 12 #[.val (.ref b), .val (.int (Int32.ofNat o)), .val (.int (Int32.ofNat len)), .val (.ref s.heap.size), .unset, .unset] [.int (Int32.ofNat len)])) := g6
  have c8 : Steps p.tables e below (s₁.setTop (entryFrame m #[.ref b, .int (Int32.ofNat o), .int (Int32.ofNat len)] 6)) (T6.setTop (mkF m 58 #[.val (.ref b), .val (.int (Int32.ofNat o)), .val (.int (Int32.ofNat len)), .val (.ref s.heap.size), .val (.int (Int32.ofNat len)), .unset] [.ref s.heap.size])) := c7.trans (by
    refine XS.istore X6.here hexec rfl (hb hbytes d12) rfl rfl ?_
    refine XS.iload X6.here hexec rfl (hb hbytes d14) rfl ?_
    refine XS.iloadN X6.here hexec rfl (hb hbytes d16) rfl ?_
    refine XS.icmpYes X6.here hexec rfl (pc0 := 17) rfl (hb hbytes d17) rfl (ii_eq_t rfl) (by decide) rfl ?_
    refine XS.aloadN X6.here hexec rfl (hb hbytes d57) rfl rfl ?_
    exact Steps.refl _)
  have X8 := X6.wide (L' := []) (cells' := 1) (slots' := len) (fun x hx hlt => by
    simp only [List.nil_append, copyLocs, List.mem_map, List.mem_range] at hx
    obtain ⟨i, -, rfl⟩ := hx
    exact absurd hlt (Nat.lt_irrefl _)) (Nat.le_refl _) (by omega)
  exact ⟨T6, some (.ref s.heap.size), _, _, _, X8, rfl, rfl, rfl, (fun h => by cases h), ⟨⟨rfl, B6, ba3.like (X3.warmed.alike.symm.trans X6.warmed.alike) p6.1 f6.1 f6.2.1 f6.2.2.1, f6.2.1.trans bv3, by rw [X6.warmed.alike.findClass, f6.1]; exact bf3, by rw [f6.2.2.1, bs3]; simp, fun j hj => by rw [f6.2.2.2 j, if_pos (by omega)]; rfl, kp3.put p6 (Nat.le_refl _)⟩, by rw [p6.2.2, bh3, hh0]; simp⟩, fun fs hl => c8.trans (X8.areturnOut hexec rfl hret rfl (hb hbytes d58) hl)⟩
end Cmp3
namespace CodL
def yN : MethodName := ⟨"java/lang/StringUTF16", "coderFromArrayLen", "([BI)B"⟩
abbrev yB : ByteArray := jdk_52_method_15_code
theorem d0 : decode yB 0 = .ok (.iload_n 1, 1) := by decide +kernel
theorem d1 : decode yB 1 = .ok (.aload_n 0, 1) := by decide +kernel
theorem d2 : decode yB 2 = .ok (.arraylength, 1) := by decide +kernel
theorem d3 : decode yB 3 = .ok (.isub, 1) := by decide +kernel
theorem d4 : decode yB 4 = .ok (.bipush 31, 2) := by decide +kernel
theorem d6 : decode yB 6 = .ok (.iushr, 1) := by decide +kernel
theorem d7 : decode yB 7 = .ok (.i2b, 1) := by decide +kernel
theorem d8 : decode yB 8 = .ok (.ireturn, 1) := by decide +kernel
def site : List Cond := []
def tab : Cond := tabOf yN yB 2 (some .byte) site
def P (d : Addr) (B : Cell) (args : Array Value) (s : State) : Prop := args = #[.ref d, .int (Int32.ofNat B.slots.size)] ∧ Arr .byte d B s
def E (r : Option Value) (s u : State) : Prop := XT.PureE (some (.int 0)) r s u
/-- an array as long as the number of chars: LATIN1 -/
theorem law (l : Launch) (d : Addr) (B : Cell) : Law l yN 2 2 0 0 yB 2 (some .byte) site (P d B) E [] 0 0 := by
  refine Law.of_walk (plainFor_of_name (by decide +kernel)) (by decide +kernel) (by decide +kernel) (by decide) (fun _ _ h => by rw [h.1]; rfl) (fun _ U U' hal hh h => ⟨h.1, h.2.mv hal hh⟩) (fun r U U' V V' h1 hal h2 h => XT.PureE.mv r U U' V V' h1 hal h2 h) ?_
  intro p e s m args below meth c s₁ X0 hexec hbytes hml hret hlk hnm hown hh0 W hP
  obtain ⟨rfl, hB⟩ := hP
  have hB0 := hB.mv X0.warmed.alike hh0
  have c1 : Steps p.tables e below (s₁.setTop (entryFrame m #[.ref d, .int (Int32.ofNat B.slots.size)] 2)) (s₁.setTop (mkF m 0 #[.val (.ref d), .val (.int (Int32.ofNat B.slots.size))] [])) := entry rfl
  have c2 : Steps p.tables e below (s₁.setTop (entryFrame m #[.ref d, .int (Int32.ofNat B.slots.size)] 2)) (s₁.setTop (mkF m 2 #[.val (.ref d), .val (.int (Int32.ofNat B.slots.size))] [.ref d, .int (Int32.ofNat B.slots.size)])) := c1.trans (by
    refine XS.iloadN X0.here hexec rfl (hb hbytes d0) rfl ?_
    refine XS.aloadN X0.here hexec rfl (hb hbytes d1) rfl rfl ?_
    exact Steps.refl _)
  have c3 : Steps p.tables e below (s₁.setTop (entryFrame m #[.ref d, .int (Int32.ofNat B.slots.size)] 2)) (s₁.setTop (mkF m 8 #[.val (.ref d), .val (.int (Int32.ofNat B.slots.size))] [.int (lo8 (ushr (Int32.ofNat B.slots.size - Int32.ofNat B.slots.size) 31))])) := c2.trans (by
    refine X0.alen hexec hB0 rfl rfl (hb hbytes d2) ?_
    refine XS.isub X0.here hexec rfl (hb hbytes d3) rfl ?_
    refine bipushV X0.here hexec rfl 31 (hb hbytes d4) (by decide) ?_
    refine iushr X0.here hexec rfl (hb hbytes d6) rfl ?_
    refine i2b X0.here hexec rfl (hb hbytes d7) rfl ?_
    exact Steps.refl _)
  have e0 : lo8 (ushr (Int32.ofNat B.slots.size - Int32.ofNat B.slots.size) 31) = 0 := by rw [Int32.sub_self]; decide
  rw [e0] at c3
  exact ⟨s₁, some (.int 0), _, _, _, X0, rfl, rfl, rfl, (fun h => by cases h), ⟨rfl, hh0⟩, fun fs hl => c3.trans (X0.ireturnOut hexec hret rfl (Or.inr (Or.inr (Or.inl rfl))) (hb hbytes d8) hl)⟩
end CodL
/-- the String at a is Latin-1 over a new byte[] (the heap's one new cell): the low bytes of the len chars of A from o on; every cell but a is kept -/
def Got (a : Addr) (D : Cell) (fV fC : Field) (A : Cell) (o len : Nat) (r : Option Value) (s u : State) : Prop := r = none ∧ ∃ D' V : Cell, Blank "java/lang/String" a D' u ∧ Same D D' [fV.slot, fC.slot] ∧ D'.slots[fV.slot]? = some (.ref s.heap.size) ∧ D'.slots[fC.slot]? = some (.int 0) ∧ Arr .byte s.heap.size V u ∧ V.vm = .none ∧ u.vm.findClass "[B" = some V.cls ∧ V.slots.size = len ∧ (∀ j, j < len → V.slots[j]? = some (.int (lo8 (cv A (o + j))))) ∧ (∀ (y : Addr) (c : Cell), y ≠ a → s.heap[y]? = some c → u.heap[y]? = some c) ∧ u.heap.size = s.heap.size + 1
theorem Got.mv {a : Addr} {D A : Cell} {fV fC : Field} {o len : Nat} : ∀ r (U U' V V' : State), U'.heap = U.heap → V.vm.Alike V'.vm → V'.heap = V.heap → Got a D fV fC A o len r U V → Got a D fV fC A o len r U' V' :=
  fun r U U' V V' h1 hal h2 ⟨e0, D', X, a1, a2, a3, a4, a5, a6, a7, a8, a9, a10, a11⟩ => ⟨e0, D', X, a1.mv hal h2, a2, by rw [h1]; exact a3, a4, by rw [h1]; exact a5.mv hal h2, a6, by rw [hal.findClass]; exact a7, a8, a9, by rw [h1, h2]; exact a10, by rw [h1, h2]; exact a11⟩
namespace New4
def yN : MethodName := ⟨"java/lang/String", "<init>", "([CIILjava/lang/Void;)V"⟩
abbrev yB : ByteArray := jdk_42_method_149_code
theorem d0 : decode yB 0 = .ok (.aload_n 0, 1) := by decide +kernel
theorem d1 : decode yB 1 = .ok (.invokespecial 1, 3) := by decide +kernel
theorem d4 : decode yB 4 = .ok (.iload_n 3, 1) := by decide +kernel
theorem d5 : decode yB 5 = .ok (.ifCond (.ne) 22, 3) := by decide +kernel
theorem d27 : decode yB 27 = .ok (.getstatic 38, 3) := by decide +kernel
theorem d30 : decode yB 30 = .ok (.ifCond (.eq) 28, 3) := by decide +kernel
theorem d33 : decode yB 33 = .ok (.aload_n 1, 1) := by decide +kernel
theorem d34 : decode yB 34 = .ok (.iload_n 2, 1) := by decide +kernel
theorem d35 : decode yB 35 = .ok (.iload_n 3, 1) := by decide +kernel
theorem d36 : decode yB 36 = .ok (.invokestatic 177, 3) := by decide +kernel
theorem d39 : decode yB 39 = .ok (.astore 5, 2) := by decide +kernel
theorem d41 : decode yB 41 = .ok (.aload_n 0, 1) := by decide +kernel
theorem d42 : decode yB 42 = .ok (.aload 5, 2) := by decide +kernel
theorem d44 : decode yB 44 = .ok (.iload_n 3, 1) := by decide +kernel
theorem d45 : decode yB 45 = .ok (.invokestatic 47, 3) := by decide +kernel
theorem d48 : decode yB 48 = .ok (.putfield 15, 3) := by decide +kernel
theorem d51 : decode yB 51 = .ok (.aload_n 0, 1) := by decide +kernel
theorem d52 : decode yB 52 = .ok (.aload 5, 2) := by decide +kernel
theorem d54 : decode yB 54 = .ok (.putfield 9, 3) := by decide +kernel
theorem d57 : decode yB 57 = .ok (.return_, 1) := by decide +kernel
def site : List Cond := [.fieldLink "java/lang/String" 38 "java/lang/String" "COMPACT_STRINGS" "Z", Cmp3.tab, CodL.tab, .laysFinal "java/lang/String" "java/lang/String" "value" "[B", .fieldLink "java/lang/String" 9 "java/lang/String" "value" "[B", .laysFinal "java/lang/String" "java/lang/String" "coder" "B", .fieldLink "java/lang/String" 15 "java/lang/String" "coder" "B"] ++ objW "java/lang/String" 1 ++ staticW "java/lang/String" 177 Cmp3.yN ++ staticW "java/lang/String" 47 CodL.yN
def tab : Cond := tabOf yN yB 6 none site
def P (a : Addr) (D : Cell) (fV fC : Field) (b : Addr) (A : Cell) (z : Int32) (o len : Nat) (args : Array Value) (s : State) : Prop := args = #[.ref a, .ref b, .int (Int32.ofNat o), .int (Int32.ofNat len), .null] ∧ Blank "java/lang/String" a D s ∧ Found "java/lang/String" "value" "[B" fV s ∧ Found "java/lang/String" "coder" "B" fC s ∧ Ch b A s ∧ StaticIs s "java/lang/String" "COMPACT_STRINGS" "Z" (.int z) ∧ ¬ z = 0 ∧ 0 < len ∧ o + len ≤ A.slots.size ∧ len ≤ 536870912 ∧ ∀ i, i < len → ¬ 255 < cv A (o + i)
def E (a : Addr) (D : Cell) (fV fC : Field) (A : Cell) (o len : Nat) (r : Option Value) (s u : State) : Prop := Got a D fV fC A o len r s u
/-- len > 0, no char of the range above 255: a Latin-1 String of their low bytes -/
theorem law (l : Launch) (a : Addr) (D : Cell) (fV fC : Field) (b : Addr) (A : Cell) (z : Int32) (o len : Nat) : Law l yN 5 4 2 35 yB 6 none site (P a D fV fC b A z o len) (E a D fV fC A o len) [⟨a, fC.slot⟩, ⟨a, fV.slot⟩] 1 len := by
  refine Law.of_walk (plainFor_of_name (by decide +kernel)) (by decide +kernel) (by decide +kernel) (by decide) (fun _ _ h => by rw [h.1]; rfl) (fun _ U U' hal hh h => ⟨h.1, h.2.1.mv hal hh, h.2.2.1.al hal, h.2.2.2.1.al hal, h.2.2.2.2.1.mv hal hh, h.2.2.2.2.2.1.there hal hh, h.2.2.2.2.2.2⟩) (fun r U U' V V' h1 hal h2 h => Got.mv r U U' V V' h1 hal h2 h) ?_
  intro p e s m args below meth c s₁ X0 hexec hbytes hml hret hlk hnm hown hh0 W hP
  obtain ⟨rfl, hB, f1, f2, hA, s1, hz, l0, l1, l2, hp⟩ := hP
  have a31 := hA.1.2.2.2
  have c1 : Steps p.tables e below (s₁.setTop (entryFrame m #[.ref a, .ref b, .int (Int32.ofNat o), .int (Int32.ofNat len), .null] 6)) (s₁.setTop (mkF m 0 #[.val (.ref a), .val (.ref b), .val (.int (Int32.ofNat o)), .val (.int (Int32.ofNat len)), .val .null, .unset] [])) := entry rfl
  have c2 : Steps p.tables e below (s₁.setTop (entryFrame m #[.ref a, .ref b, .int (Int32.ofNat o), .int (Int32.ofNat len), .null] 6)) (s₁.setTop (mkF m 1 #[.val (.ref a), .val (.ref b), .val (.int (Int32.ofNat o)), .val (.int (Int32.ofNat len)), .val .null, .unset] [.ref a])) := c1.trans (by
    refine XS.aloadN X0.here hexec rfl (hb hbytes d0) rfl rfl ?_
    exact Steps.refl _)
  obtain ⟨T3, X3, q3, st3⟩ := X0.oinit hexec hown (wks W (objW "java/lang/String" 1)) (g := (mkF m 1 #[.val (.ref a), .val (.ref b), .val (.int (Int32.ofNat o)), .val (.int (Int32.ofNat len)), .val .null, .unset] [.ref a])) rfl (by rw [hml]; rfl) (rest := []) rfl (hb hbytes d1) (W := 0) (by show 2 * 0 + 0 ≤ _; decide) (Nat.le_of_ble_eq_true rfl) (Nat.le_of_ble_eq_true rfl)
  have hh3 := q3.trans hh0
  have c4 : Steps p.tables e below (s₁.setTop (entryFrame m #[.ref a, .ref b, .int (Int32.ofNat o), .int (Int32.ofNat len), .null] 6)) (T3.setTop (mkF m 27 #[.val (.ref a), .val (.ref b), .val (.int (Int32.ofNat o)), .val (.int (Int32.ofNat len)), .val .null, .unset] [])) := (c2.trans (st3 _ (Steps.refl _))).trans (by
    refine XS.iloadN X3.here hexec rfl (hb hbytes d4) rfl ?_
    refine XS.ifYes X3.here hexec rfl (pc0 := 5) rfl (hb hbytes d5) rfl (i0_ne_t (nz32 (by omega) l0)) (by decide) rfl ?_
    exact Steps.refl _)
  obtain ⟨T5, X5, q5, st5⟩ := X3.sget hexec hown (wk W (.fieldLink "java/lang/String" 38 "java/lang/String" "COMPACT_STRINGS" "Z")) s1 (fun _ _ h => by rw [hh3]; exact h) (g := (mkF m 27 #[.val (.ref a), .val (.ref b), .val (.int (Int32.ofNat o)), .val (.int (Int32.ofNat len)), .val .null, .unset] [])) rfl (hb hbytes d27)
  have hh5 := q5.trans hh3
  have c6 : Steps p.tables e below (s₁.setTop (entryFrame m #[.ref a, .ref b, .int (Int32.ofNat o), .int (Int32.ofNat len), .null] 6)) (T5.setTop (mkF m 30 #[.val (.ref a), .val (.ref b), .val (.int (Int32.ofNat o)), .val (.int (Int32.ofNat len)), .val .null, .unset] [.int z])) := c4.trans (st5 _ (Steps.refl _))
  have c7 : Steps p.tables e below (s₁.setTop (entryFrame m #[.ref a, .ref b, .int (Int32.ofNat o), .int (Int32.ofNat len), .null] 6)) (T5.setTop (mkF m 36 #[.val (.ref a), .val (.ref b), .val (.int (Int32.ofNat o)), .val (.int (Int32.ofNat len)), .val .null, .unset] [.int (Int32.ofNat len), .int (Int32.ofNat o), .ref b])) := c6.trans (by
    refine XS.ifNo X5.here hexec rfl (hb hbytes d30) rfl (i0_eq_f hz) ?_
    refine XS.aloadN X5.here hexec rfl (hb hbytes d33) rfl rfl ?_
    refine XS.iloadN X5.here hexec rfl (hb hbytes d34) rfl ?_
    refine XS.iloadN X5.here hexec rfl (hb hbytes d35) rfl ?_
    exact Steps.refl _)
  obtain ⟨v8, T8, X8, E8, g8⟩ := X5.callS hexec (Cmp3.law l b A o len) hown (wks W (staticW "java/lang/String" 177 Cmp3.yN)) (wk W Cmp3.tab) (W := 0) (Nat.le_of_ble_eq_true rfl) (Nat.le_of_ble_eq_true rfl) (Nat.le_refl _) (by show 0 + len ≤ len; omega) (g := (mkF m 36 #[.val (.ref a), .val (.ref b), .val (.int (Int32.ofNat o)), .val (.int (Int32.ofNat len)), .val .null, .unset] [.int (Int32.ofNat len), .int (Int32.ofNat o), .ref b])) rfl (by rw [hml]; rfl) c7 (argsL := [.ref b, .int (Int32.ofNat o), .int (Int32.ofNat len)]) (rest := []) rfl rfl (by show 2 * 0 + 0 ≤ _; decide) (hb hbytes d36) (⟨rfl, hA.mv X5.warmed.alike hh5, l1, l2, hp⟩)
  obtain ⟨e8, z8⟩ := E8
  obtain ⟨rfl, N, n1, n2, n3, n4, n5, n6⟩ := NewArr.mv _ T5 s _ _ hh5.symm (Vm.Alike.refl _) rfl e8
  rw [hh5] at z8
  have hB1 := hB.keep X8.warmed.alike (n6 _ _ hB.1)
  have hne : s.heap.size ≠ a := (Nat.ne_of_lt (Array.getElem?_eq_some_iff.mp hB.1).1).symm
  have c9 : Steps p.tables e below (s₁.setTop (entryFrame m #[.ref a, .ref b, .int (Int32.ofNat o), .int (Int32.ofNat len), .null] 6)) (T8.setTop (mkF m 39 #[.val (.ref a), .val (.ref b), .val (.int (Int32.ofNat o)), .val (.int (Int32.ofNat len)), .val .null, .unset] [.ref s.heap.size])) := g8
  have c10 : Steps p.tables e below (s₁.setTop (entryFrame m #[.ref a, .ref b, .int (Int32.ofNat o), .int (Int32.ofNat len), .null] 6)) (T8.setTop (mkF m 45 #[.val (.ref a), .val (.ref b), .val (.int (Int32.ofNat o)), .val (.int (Int32.ofNat len)), .val .null, .val (.ref s.heap.size)] [.int (Int32.ofNat N.slots.size), .ref s.heap.size, .ref a])) := by
    have hc : Steps p.tables e below (s₁.setTop (entryFrame m #[.ref a, .ref b, .int (Int32.ofNat o), .int (Int32.ofNat len), .null] 6)) (T8.setTop (mkF m 45 #[.val (.ref a), .val (.ref b), .val (.int (Int32.ofNat o)), .val (.int (Int32.ofNat len)), .val .null, .val (.ref s.heap.size)] [.int (Int32.ofNat len), .ref s.heap.size, .ref a])) := c9.trans (by
      refine XS.astore X8.here hexec rfl (hb hbytes d39) rfl rfl rfl ?_
      refine XS.aloadN X8.here hexec rfl (hb hbytes d41) rfl rfl ?_
      refine XS.aload X8.here hexec rfl (hb hbytes d42) rfl rfl ?_
      refine XS.iloadN X8.here hexec rfl (hb hbytes d44) rfl ?_
      exact Steps.refl _)
    rw [n4]; exact hc
  obtain ⟨v11, T11, X11, E11, g11⟩ := X8.callS hexec (CodL.law l s.heap.size N) hown (wks W (staticW "java/lang/String" 47 CodL.yN)) (wk W CodL.tab) (W := 1) (Nat.le_of_ble_eq_true rfl) (Nat.le_of_ble_eq_true rfl) (Nat.le_refl _) (by show 0 + len + 0 ≤ len; omega) (g := (mkF m 45 #[.val (.ref a), .val (.ref b), .val (.int (Int32.ofNat o)), .val (.int (Int32.ofNat len)), .val .null, .val (.ref s.heap.size)] [.int (Int32.ofNat N.slots.size), .ref s.heap.size, .ref a])) rfl (by rw [hml]; rfl) c10 (argsL := [.ref s.heap.size, .int (Int32.ofNat N.slots.size)]) (rest := [.ref a]) rfl rfl (by show 2 * 0 + (1 + 0) ≤ _; decide) (hb hbytes d45) (⟨rfl, n1⟩)
  obtain ⟨rfl, q11⟩ := E11
  have hB11 := hB1.mv (X8.warmed.alike.symm.trans X11.warmed.alike) q11
  have c12 : Steps p.tables e below (s₁.setTop (entryFrame m #[.ref a, .ref b, .int (Int32.ofNat o), .int (Int32.ofNat len), .null] 6)) (T11.setTop (mkF m 48 #[.val (.ref a), .val (.ref b), .val (.int (Int32.ofNat o)), .val (.int (Int32.ofNat len)), .val .null, .val (.ref s.heap.size)] [.int 0, .ref a])) := g11
  obtain ⟨T13, X13, p13, bl13, sl13, st13⟩ := X11.finit hexec hown (wk W (.fieldLink "java/lang/String" 15 "java/lang/String" "coder" "B")) (Or.inr ⟨_, (wk W (.laysFinal "java/lang/String" "java/lang/String" "coder" "B"))⟩) (Or.inl ⟨rfl, hnm⟩) f2 (Or.inl rfl) hB11 (t := .byte) (by decide +kernel) rfl (g := (mkF m 48 #[.val (.ref a), .val (.ref b), .val (.int (Int32.ofNat o)), .val (.int (Int32.ofNat len)), .val .null, .val (.ref s.heap.size)] [.int 0, .ref a])) rfl (rest := []) rfl (hb hbytes d48)
  have c14 : Steps p.tables e below (s₁.setTop (entryFrame m #[.ref a, .ref b, .int (Int32.ofNat o), .int (Int32.ofNat len), .null] 6)) (T13.setTop (mkF m 54 #[.val (.ref a), .val (.ref b), .val (.int (Int32.ofNat o)), .val (.int (Int32.ofNat len)), .val .null, .val (.ref s.heap.size)] [.ref s.heap.size, .ref a])) := (c12.trans (st13 _ (Steps.refl _))).trans (by
    refine XS.aloadN X13.here hexec rfl (hb hbytes d51) rfl rfl ?_
    refine XS.aload X13.here hexec rfl (hb hbytes d52) rfl rfl ?_
    exact Steps.refl _)
  obtain ⟨T15, X15, p15, bl15, sl15, st15⟩ := X13.finit hexec hown (wk W (.fieldLink "java/lang/String" 9 "java/lang/String" "value" "[B")) (Or.inr ⟨_, (wk W (.laysFinal "java/lang/String" "java/lang/String" "value" "[B"))⟩) (Or.inl ⟨rfl, hnm⟩) f1 (Or.inl rfl) bl13 (t := (.array .byte)) (by decide +kernel) rfl (g := (mkF m 54 #[.val (.ref a), .val (.ref b), .val (.int (Int32.ofNat o)), .val (.int (Int32.ofNat len)), .val .null, .val (.ref s.heap.size)] [.ref s.heap.size, .ref a])) rfl (rest := []) rfl (hb hbytes d54)
  have c16 : Steps p.tables e below (s₁.setTop (entryFrame m #[.ref a, .ref b, .int (Int32.ofNat o), .int (Int32.ofNat len), .null] 6)) (T15.setTop (mkF m 57 #[.val (.ref a), .val (.ref b), .val (.int (Int32.ofNat o)), .val (.int (Int32.ofNat len)), .val .null, .val (.ref s.heap.size)] [])) := c14.trans (st15 _ (Steps.refl _))
  have ap := apart (Or.inr ⟨_, (wk W (.laysFinal "java/lang/String" "java/lang/String" "value" "[B"))⟩) (Or.inr ⟨_, (wk W (.laysFinal "java/lang/String" "java/lang/String" "coder" "B"))⟩) f1 f2 (t₁ := .array .byte) (t₂ := .byte) (by decide +kernel) (by decide +kernel) (by decide)
  have al := X8.warmed.alike.symm.trans X15.warmed.alike
  have n7 : T11.heap[s.heap.size]? = some N := by rw [q11]; exact n1.1
  exact ⟨T15, none, _, _, _, X15, by simp, rfl, by omega, (fun _ => rfl), ⟨rfl, _, N, bl15, ((Same.refl D _).set _ (by simp)).set _ (by simp), sl15, (Cell.slots_setSlot_ne _ ap).trans sl13, n1.keep al (p15.other hne (p13.other hne n7)), n2, by rw [al.findClass]; exact n3, n4, n5, fun y c h1 h2 => p15.other h1 (p13.other h1 (by rw [q11]; exact n6 y c h2)), by rw [p15.2.2, p13.2.2, q11]; exact z8⟩, fun fs hl => c16.trans (X15.returnOut hexec hret (hb hbytes d57) hl)⟩
end New4
namespace New1
def yN : MethodName := ⟨"java/lang/String", "<init>", "([C)V"⟩
abbrev yB : ByteArray := jdk_42_method_3_code
theorem d0 : decode yB 0 = .ok (.aload_n 0, 1) := by decide +kernel
theorem d1 : decode yB 1 = .ok (.aload_n 1, 1) := by decide +kernel
theorem d2 : decode yB 2 = .ok (.iconst 0, 1) := by decide +kernel
theorem d3 : decode yB 3 = .ok (.aload_n 1, 1) := by decide +kernel
theorem d4 : decode yB 4 = .ok (.arraylength, 1) := by decide +kernel
theorem d5 : decode yB 5 = .ok (.aconst_null, 1) := by decide +kernel
theorem d6 : decode yB 6 = .ok (.invokespecial 27, 3) := by decide +kernel
theorem d9 : decode yB 9 = .ok (.return_, 1) := by decide +kernel
def site : List Cond := [New4.tab] ++ initW "java/lang/String" 27 New4.yN
def tab : Cond := tabOf yN yB 2 none site
def P (a : Addr) (D : Cell) (fV fC : Field) (b : Addr) (A : Cell) (z : Int32) (args : Array Value) (s : State) : Prop := args = #[.ref a, .ref b] ∧ Blank "java/lang/String" a D s ∧ Found "java/lang/String" "value" "[B" fV s ∧ Found "java/lang/String" "coder" "B" fC s ∧ Ch b A s ∧ StaticIs s "java/lang/String" "COMPACT_STRINGS" "Z" (.int z) ∧ ¬ z = 0 ∧ 0 < A.slots.size ∧ A.slots.size ≤ 536870912 ∧ ∀ i, i < A.slots.size → ¬ 255 < cv A i
def E (a : Addr) (D : Cell) (fV fC : Field) (A : Cell) (r : Option Value) (s u : State) : Prop := Got a D fV fC A 0 A.slots.size r s u
/-- new String(chars), not empty, no char above 255: a Latin-1 String of their low bytes -/
theorem law (l : Launch) (a : Addr) (D : Cell) (fV fC : Field) (b : Addr) (A : Cell) (z : Int32) : Law l yN 2 1 3 52 yB 2 none site (P a D fV fC b A z) (E a D fV fC A) [⟨a, fC.slot⟩, ⟨a, fV.slot⟩] 1 A.slots.size := by
  refine Law.of_walk (plainFor_of_name (by decide +kernel)) (by decide +kernel) (by decide +kernel) (by decide) (fun _ _ h => by rw [h.1]; rfl) (fun _ U U' hal hh h => ⟨h.1, h.2.1.mv hal hh, h.2.2.1.al hal, h.2.2.2.1.al hal, h.2.2.2.2.1.mv hal hh, h.2.2.2.2.2.1.there hal hh, h.2.2.2.2.2.2⟩) (fun r U U' V V' h1 hal h2 h => Got.mv r U U' V V' h1 hal h2 h) ?_
  intro p e s m args below meth c s₁ X0 hexec hbytes hml hret hlk hnm hown hh0 W hP
  obtain ⟨rfl, hB, f1, f2, hA, s1, hz, l0, l2, hp⟩ := hP
  have c1 : Steps p.tables e below (s₁.setTop (entryFrame m #[.ref a, .ref b] 2)) (s₁.setTop (mkF m 0 #[.val (.ref a), .val (.ref b)] [])) := entry rfl
  have c2 : Steps p.tables e below (s₁.setTop (entryFrame m #[.ref a, .ref b] 2)) (s₁.setTop (mkF m 6 #[.val (.ref a), .val (.ref b)] [.null, .int (Int32.ofNat A.slots.size), .int 0, .ref b, .ref a])) := c1.trans (by
    refine XS.aloadN X0.here hexec rfl (hb hbytes d0) rfl rfl ?_
    refine XS.aloadN X0.here hexec rfl (hb hbytes d1) rfl rfl ?_
    refine iconstV X0.here hexec rfl 0 (hb hbytes d2) (by decide) ?_
    refine XS.aloadN X0.here hexec rfl (hb hbytes d3) rfl rfl ?_
    refine X0.alen hexec (hA.1.mv X0.warmed.alike hh0) rfl rfl (hb hbytes d4) ?_
    refine XS.aconstNull X0.here hexec rfl (hb hbytes d5) ?_
    exact Steps.refl _)
  obtain ⟨v3, T3, X3, E3, g3⟩ := X0.callN hexec (New4.law l a D fV fC b A z 0 A.slots.size) rfl hown (wks W (initW "java/lang/String" 27 New4.yN)) (W New4.tab (by simp only [site, List.mem_cons, List.mem_append, true_or, or_true])) (W := 0) (Nat.le_of_ble_eq_true rfl) (Nat.le_of_ble_eq_true rfl) (Nat.le_refl _) (by show 0 + A.slots.size ≤ A.slots.size; omega) (g := (mkF m 6 #[.val (.ref a), .val (.ref b)] [.null, .int (Int32.ofNat A.slots.size), .int (Int32.ofNat 0), .ref b, .ref a])) rfl (by rw [hml]; rfl) c2 (argsL := [.ref b, .int (Int32.ofNat 0), .int (Int32.ofNat A.slots.size), .null]) (rest := []) rfl rfl (by show 2 * 0 + 0 ≤ _; decide) (hb hbytes d6) (⟨rfl, hB.mv X0.warmed.alike hh0, f1.al X0.warmed.alike, f2.al X0.warmed.alike, hA.mv X0.warmed.alike hh0, s1.there X0.warmed.alike hh0, hz, l0, by omega, l2, fun i hi => by rw [Nat.zero_add]; exact hp i hi⟩)
  have e0 := Got.mv _ s₁ s _ _ hh0.symm (Vm.Alike.refl _) rfl E3
  obtain rfl := e0.1
  have c4 : Steps p.tables e below (s₁.setTop (entryFrame m #[.ref a, .ref b] 2)) (T3.setTop (mkF m 9 #[.val (.ref a), .val (.ref b)] [])) := g3
  exact ⟨T3, none, _, _, _, X3, by simp, rfl, by omega, (fun _ => rfl), e0, fun fs hl => c4.trans (X3.returnOut hexec hret (hb hbytes d9) hl)⟩
theorem pays {l : Launch} {R : Room} {p : Program} {e : Env} {below : List Frame} {s : State} {sargs : Array Value} {len W : Nat} (a : Addr) (D : Cell) (fV fC : Field) (b : Addr) (A : Cell) (z : Int32) (htab : tab.before sargs s = true) (hfr : 4 ≤ R.frames) (hlo : W + 65 ≤ R.locals) :
    Back l R p e below s sargs yN len W (fun A₁ a₁ => A₁.cells + 1 ≤ R.cells ∧ A₁.slots + A.slots.size ≤ R.slots ∧ P a D fV fC b A z a₁ A₁.U) (fun A₁ _ v₁ B₁ => E a D fV fC A v₁ A₁.U B₁.U ∧ B₁.locs = A₁.locs ++ [⟨a, fC.slot⟩, ⟨a, fV.slot⟩] ∧ B₁.cells = A₁.cells + 1 ∧ B₁.slots = A₁.slots + A.slots.size) :=
  (law l a D fV fC b A z).pays htab hfr (by omega)
end New1
end StrChars
namespace StrChars.Road
open Jvm Sem ClassFile Op Lib Jvm.Stand Jvm.Free Jvm.Free.XT
open Jvm.Lib.Cold (StaticIs)
abbrev ST : String := "java/lang/String"
/-- every table word that New1's law asks, flat -/
abbrev words : List Jvm.Cond := [.code New1.yN New1.yB 2 none, .initialized ST, .methodLink ST 27 New4.yN, .instanceMethod New4.yN,
  .code New4.yN New4.yB 6 none, .fieldLink ST 38 ST "COMPACT_STRINGS" "Z", .laysFinal ST ST "value" "[B", .fieldLink ST 9 ST "value" "[B", .laysFinal ST ST "coder" "B", .fieldLink ST 15 ST "coder" "B",
  .methodLink ST 1 Lib.objectInit, .instanceMethod Lib.objectInit, .code Lib.objectInit ⟨#[0xb1]⟩ 1 none, .methodLink ST 177 Cmp3.yN, .static Cmp3.yN, .methodLink ST 47 CodL.yN, .static CodL.yN,
  .code Cmp3.yN Cmp3.yB 6 (some (.array .byte)), .initialized U16, .arrayClass .byte, .methodLink U16 115 Cmp5.yN, .static Cmp5.yN, .code Cmp5.yN Cmp5.yB 7 (some .int), .code CodL.yN CodL.yB 2 (some .byte)]
theorem tab_of {a : Array Value} {s : State} (h : ∀ w ∈ words, w.before a s = true) : New1.tab.before a s = true := by
  have h5 : Cmp5.tab.before a s = true := unparts (wk h (.code Cmp5.yN Cmp5.yB 7 (some .int))) (wks h (.initialized Cmp5.yN.cls :: Cmp5.site))
  have hc : CodL.tab.before a s = true := unparts (wk h (.code CodL.yN CodL.yB 2 (some .byte))) (wks h (.initialized CodL.yN.cls :: CodL.site))
  have q5 : ∀ w ∈ Cmp5.tab :: words, w.before a s = true := fun w hw => (List.mem_cons.mp hw).elim (fun e => e ▸ h5) (h w)
  have h3 : Cmp3.tab.before a s = true := unparts (wk q5 (.code Cmp3.yN Cmp3.yB 6 (some (.array .byte)))) (wks q5 (.initialized Cmp3.yN.cls :: Cmp3.site))
  have q3 : ∀ w ∈ Cmp3.tab :: CodL.tab :: words, w.before a s = true := fun w hw => (List.mem_cons.mp hw).elim (fun e => e ▸ h3) fun hw => (List.mem_cons.mp hw).elim (fun e => e ▸ hc) (h w)
  have h4 : New4.tab.before a s = true := unparts (wk q3 (.code New4.yN New4.yB 6 none)) (wks q3 (.initialized New4.yN.cls :: New4.site))
  have q4 : ∀ w ∈ New4.tab :: words, w.before a s = true := fun w hw => (List.mem_cons.mp hw).elim (fun e => e ▸ h4) (h w)
  exact unparts (wk q4 (.code New1.yN New1.yB 2 none)) (wks q4 (.initialized New1.yN.cls :: New1.site))
/-- the words ride from the start Z to the walk's own state -/
theorem moved {Z s : State} {a0 args : Array Value} (hZ : Z.Warmed39 s.vm) (hw : ∀ d ∈ words, d.before a0 Z = true) : ∀ d ∈ words, d.before args s = true := fun d hd => by
  have q := hw d hd
  have t : ∀ d ∈ words, d = .arrayClass .byte ∨ (d.onTables && d.keepsFace) = true := by decide +kernel
  rcases t d hd with rfl | t
  · exact RoadKit.mvA hZ q
  · exact RoadKit.mv hZ q t
/-- WHAT COMES BACK, over the tables of the start Z: h the heap at the call, h' behind it -/
def Q (Z : State) (x : Addr) (A : Cell) (h : Heap) (v : Option Value) (h' : Heap) (L : List Loc) : Prop := v = none ∧ (∀ y ∈ L, y.base = x) ∧ RoadKit.Keep h h' [x] ∧ h'.size = h.size + 1 ∧ RoadKit.Exa Z h' x ST ∧ RoadKit.Fld Z h' x ST "value" "[B" (.ref h.size) ∧ RoadKit.Fld Z h' x ST "coder" "B" (.int 0) ∧
  (∃ V : Cell, RoadKit.Arr Z h' h.size V .byte ∧ V.vm = .none ∧ Z.vm.findClass "[B" = some V.cls ∧ V.slots.size = A.slots.size ∧ ∀ j, j < A.slots.size → V.slots[j]? = some (.int (lo8 (cv A j)))) ∧
  ∀ (O n d : String) (w : Value), RoadKit.Fld Z h x O n d w → RoadKit.slotOf Z O n d ≠ RoadKit.slotOf Z ST "value" "[B" → RoadKit.slotOf Z O n d ≠ RoadKit.slotOf Z ST "coder" "B" → RoadKit.Fld Z h' x O n d w
/-- **new String(chars) AT A CALL, IN THE ROAD'S FORM**: for specialBack behind newO: x the fresh String, b the char[] with the cell A -/
theorem back {p : Program} {l : Launch} {e : Env} {R : Room} {s : State} {args : Array Value} {below : List Frame} {len W : Nat} {Z : State} {a0 : Array Value} {h : Heap} (hZ : Z.Warmed39 s.vm) (hw : ∀ d ∈ words, d.before a0 Z = true) {kI : Nat} (wi : (Jvm.Cond.instantiable ST kI).before a0 Z = true)
    {x b : Addr} {A : Cell} {z : Int32} {v0 c0 : Value} (E : RoadKit.Exa Z h x ST) (V : RoadKit.Fld Z h x ST "value" "[B" v0) (C : RoadKit.Fld Z h x ST "coder" "B" c0) (K : RoadKit.Arr Z h b A .char) (hty : Typed .char A) (S : RoadKit.Sta Z h ST "COMPACT_STRINGS" "Z" (.int z)) (hz : ¬ z = 0)
    (l0 : 0 < A.slots.size) (l2 : A.slots.size ≤ 536870912) (hp : ∀ i, i < A.slots.size → ¬ 255 < cv A i) (hfr : 4 ≤ R.frames) (hlo : W + 65 ≤ R.locals) :
    Back l R p e below s args New1.yN len W (fun P a => a = #[.ref x, .ref b] ∧ P.U.heap = h ∧ P.cells + 1 ≤ R.cells ∧ P.slots + A.slots.size ≤ R.slots)
      (fun P _ v B => ∃ L, Q Z x A h v B.U.heap L ∧ B.locs = P.locs ++ L ∧ B.cells = P.cells + 1 ∧ B.slots = P.slots + A.slots.size) := by
  intro m meth c P g ig mk a X hg hsize hdg hW hn hp'
  obtain ⟨rfl, rfl, r1, r2⟩ := hp'
  have al : Z.vm.Alike P.U.vm := hZ.alike.trans X.warmed.alike
  obtain ⟨D, cfV, kV, iV, fV, hD, gV, stV, knV, obV, asV, slV⟩ := id V
  obtain ⟨D', cfC, kC, iC, fC, hD', gC, stC, -, -, asC, slC⟩ := id C
  cases hD.symm.trans hD'
  obtain ⟨D2, kD, e1, e2, e3, e4, e5⟩ := id E
  cases hD.symm.trans e1
  obtain ⟨c2, k2, i1, i2, i3, -⟩ := Cond.instantiable_spec wi
  cases e2.symm.trans i1
  cases e3.symm.trans i2
  obtain ⟨kU, u1, u2⟩ := al.2.2 _ _ e3
  have hB : Blank ST x D P.U := ⟨hD, ⟨knV, fun q hq => by rw [hq] at obV; cases obV⟩, by rw [al.findClass]; exact e2, kU, u1, by rw [u2]; exact i3, by rw [u2]; exact e5 i3⟩
  have F1 : Found ST "value" "[B" fV P.U := ⟨SBG.found_only al ⟨cfV, kV, iV, gV⟩, stV⟩
  have F2 : Found ST "coder" "B" fC P.U := ⟨SBG.found_only al ⟨cfC, kC, iC, gC⟩, stC⟩
  have hA : Ch b A P.U := ⟨⟨K.1, State.isArrayOf_alike al K.2.1, K.2.2, by omega⟩, hty⟩
  have hS : StaticIs P.U ST "COMPACT_STRINGS" "Z" (.int z) := by
    obtain ⟨cfS, iS, kS, fS, st, cS, t1, t2, t3, t4, t5, t6, t7⟩ := S
    exact StaticIs.there (s := { Z with heap := P.U.heap }) ⟨cfS, iS, kS, fS, st, cS, t1, t2, t3, t4, t5, (fun q => by rw [q] at t6; cases t6), t7⟩ al rfl
  obtain ⟨v, B, X', ⟨⟨hv, E', V', q1, q2, q3, q4, q5, q6, q7, q8, q9, q10, q11⟩, hl, hc, hs⟩, st⟩ := New1.pays x D fV fC b A z (tab_of (moved hZ hw)) hfr hlo m meth c P g ig mk _ X hg hsize hdg hW hn ⟨r1, r2, rfl, hB, F1, F2, hA, hS, hz, l0, l2, hp⟩
  have al' : Z.vm.Alike B.U.vm := hZ.alike.trans X'.warmed.alike
  have hsz : E'.slots.size = D.slots.size := by
    obtain ⟨-, -, -, kB, w1, w2, w3⟩ := q1
    obtain ⟨kB', y1, y2⟩ := al'.2.2 _ _ e3
    rw [q2.2.1] at w1
    cases w1.symm.trans y1
    rw [w3, e5 i3, y2]
  refine ⟨v, B, X', ⟨_, ⟨hv, ?_, ⟨by omega, fun y cy hy hn' => q10 y cy (by simpa using hn') hy, fun y cy hy => ?_⟩, q11, ⟨E', _, q1.1, by rw [q2.2.1]; exact e2, by rw [q2.2.1]; exact e3, by rw [q2.1]; exact obV, fun _ => by rw [hsz]; exact e5 i3⟩,
    ⟨E', cfV, kV, iV, fV, q1.1, gV, stV, by rw [q2.1]; exact knV, by rw [q2.1]; exact obV, by rw [q2.2.1]; exact asV, q3⟩, ⟨E', cfC, kC, iC, fC, q1.1, gC, stC, by rw [q2.1]; exact knV, by rw [q2.1]; exact obV, by rw [q2.2.1]; exact asC, q4⟩,
    ⟨V', ⟨q5.1, State.isArrayOf_alike al'.symm q5.2.1, q5.2.2.1⟩, q6, by rw [← al'.findClass]; exact q7, q8, fun j hj => by have := q9 j hj; rwa [Nat.zero_add] at this⟩, fun O n d w F n1 n2 => ?_⟩, hl, hc, hs⟩, st⟩
  · intro y hy
    simp only [List.mem_cons, List.not_mem_nil, or_false] at hy
    rcases hy with rfl | rfl <;> rfl
  · by_cases q : y = x
    · subst q
      cases hD.symm.trans hy
      exact ⟨E', q1.1, q2.2.1, q2.1, hsz⟩
    · exact ⟨cy, q10 y cy q hy, rfl, rfl, rfl⟩
  · obtain ⟨D3, cf, k, i, f, g1, g2, g3, g4, g5, g6, g7⟩ := F
    cases hD.symm.trans g1
    simp only [RoadKit.slotOf, g2, gV, gC, Option.map_some, Option.getD_some] at n1 n2
    exact ⟨E', cf, k, i, f, q1.1, g2, g3, by rw [q2.1]; exact g4, by rw [q2.1]; exact g5, by rw [q2.2.1]; exact g6, by rw [q2.2.2 f.slot (by simp [n1, n2])]; exact g7⟩
end StrChars.Road
namespace StrChars.Road
open Jvm Sem ClassFile Op Lib Jvm.Stand Jvm.Free Jvm.Free.XT
/-- WHAT COMES BACK, the byte[] as a list of values -/
def QA (Z : State) (x : Addr) (zn : Int32) (cs : List Int32) (h : Heap) (v : Option Value) (h' : Heap) (L : List Loc) : Prop := v = none ∧ (∀ y ∈ L, y.base = x) ∧ RoadKit.Keep h h' [x] ∧ h'.size = h.size + 1 ∧ RoadKit.Exa Z h' x ST ∧ RoadKit.Fld Z h' x ST "value" "[B" (.ref h.size) ∧ RoadKit.Fld Z h' x ST "coder" "B" (.int 0) ∧
  (∃ kb, Z.vm.findClass "[B" = some kb ∧ RoadKit.Arv Z h' h.size kb .byte zn (cs.map fun c => .int (lo8 c)) (.int 0)) ∧
  ∀ (O n d : String) (w : Value), RoadKit.Fld Z h x O n d w → RoadKit.slotOf Z O n d ≠ RoadKit.slotOf Z ST "value" "[B" → RoadKit.slotOf Z O n d ≠ RoadKit.slotOf Z ST "coder" "B" → RoadKit.Fld Z h' x O n d w
/-- **new String(chars) AT A CALL, THE ARRAYS AS LISTS**: the char[] at b holds cs, not empty, no char above 255 -/
theorem backArv {p : Program} {l : Launch} {e : Env} {R : Room} {s : State} {args : Array Value} {below : List Frame} {len W : Nat} {Z : State} {a0 : Array Value} {h : Heap} (hZ : Z.Warmed39 s.vm) (hw : ∀ d ∈ words, d.before a0 Z = true) {kI : Nat} (wi : (Jvm.Cond.instantiable ST kI).before a0 Z = true)
    {x b : Addr} {k : ClassId} {zn z : Int32} {cs : List Int32} {dv v0 c0 : Value} (E : RoadKit.Exa Z h x ST) (V : RoadKit.Fld Z h x ST "value" "[B" v0) (C : RoadKit.Fld Z h x ST "coder" "B" c0) (K : RoadKit.Arv Z h b k .char zn (cs.map Value.int) dv) (S : RoadKit.Sta Z h ST "COMPACT_STRINGS" "Z" (.int z)) (hz : ¬ z = 0)
    (hlen : zn.toNatClampNeg = cs.length) (h0 : 0 < cs.length) (hbig : cs.length ≤ 536870912) (hall : ∀ c ∈ cs, ¬ 255 < c) (hfr : 4 ≤ R.frames) (hlo : W + 65 ≤ R.locals) :
    Back l R p e below s args New1.yN len W (fun P a => a = #[.ref x, .ref b] ∧ P.U.heap = h ∧ P.cells + 1 ≤ R.cells ∧ P.slots + cs.length ≤ R.slots)
      (fun P _ v B => ∃ L, QA Z x zn cs h v B.U.heap L ∧ B.locs = P.locs ++ L ∧ B.cells = P.cells + 1 ∧ B.slots = P.slots + cs.length) := by
  obtain ⟨A, K1, K2, K3, K4, K5, K6⟩ := K
  have e : A.slots.size = cs.length := K3.trans hlen
  have hat : ∀ (i : Nat) (hi : i < cs.length), A.slots[i]? = some (.int cs[i]) := fun i hi => by rw [K5 i (by omega)]; simp [List.getD_eq_getElem?_getD, hi]
  have hcv : ∀ (i : Nat) (hi : i < cs.length), cv A i = cs[i] := fun i hi => by unfold cv; rw [hat i hi]
  have hty : Typed .char A := fun i v hv => by
    have hi : i < A.slots.size := (Array.getElem?_eq_some_iff.mp hv).1
    have q := K5 i hi
    rw [hv] at q
    rw [Option.some.inj q]
    exact K6 i hi
  refine Back.mono (back hZ hw wi E V C K1 hty S hz (by omega) (by omega) (fun i hi => by rw [hcv i (by omega)]; exact hall _ (List.getElem_mem _)) hfr hlo) (fun P a hp => ⟨hp.1, hp.2.1, hp.2.2.1, by rw [e]; exact hp.2.2.2⟩) (fun P a v B hp hq => ?_)
  obtain ⟨L, ⟨q1, q2, q3, q4, q5, q6, q7, ⟨V', v1, v2, v3, v4, v5⟩, q9⟩, hl, hc, hs⟩ := hq
  refine ⟨L, ⟨q1, q2, q3, q4, q5, q6, q7, ⟨V'.cls, v3, V', v1, rfl, by rw [v4, e, hlen], K4, fun i hi => ?_, fun i hi => ?_⟩, q9⟩, hl, hc, by rw [hs, e]⟩
  · have hi' : i < cs.length := by omega
    rw [v5 i (by omega), hcv i hi']; simp [List.getD_eq_getElem?_getD, hi']
  · have hi' : i < cs.length := by omega
    simp only [List.getD_eq_getElem?_getD, List.getElem?_map, List.getElem?_eq_getElem hi', Option.map_some, Option.getD_some]
    exact fits_lo8 _
end StrChars.Road
namespace StrChars.Road
open Jvm Sem ClassFile Op Lib Jvm.Stand Jvm.Free Jvm.Free.XT
/-- WHAT COMES BACK, in the writer's own shape -/
def QV (Z : State) (x : Addr) (N : Int32) (bs : List Int32) (h : Heap) (n0 : Nat) (v : Option Value) (h' : Heap) (L : List Loc) : Prop := v = none ∧ RoadKit.Fr n0 L ∧ RoadKit.Keep h h' [x] ∧ RoadKit.Exa Z h' x ST ∧ RoadKit.Fld Z h' x ST "coder" "B" (.int 0) ∧
  ∃ (t : Addr) (kb : ClassId), n0 ≤ t ∧ h.size ≤ t ∧ ¬ t = x ∧ RoadKit.Fld Z h' x ST "value" "[B" (.ref t) ∧ RoadKit.Arv Z h' t kb .byte N (bs.map Value.int) (.int 0)
/-- **new String(chars) AT A CALL, FOR THE WRITER**: a char[] of n known ints, each 0 to 255 -/
theorem backV {p : Program} {l : Launch} {e : Env} {R : Room} {s : State} {args : Array Value} {below : List Frame} {len W : Nat} {Z : State} {a0 : Array Value} {h : Heap} (hZ : Z.Warmed39 s.vm) (hw : ∀ d ∈ words, d.before a0 Z = true) {kI : Nat} (wi : (Jvm.Cond.instantiable ST kI).before a0 Z = true)
    {x b : Addr} {kC : ClassId} {cs bs : List Int32} {d v0 c0 : Value} {z N : Int32} {n n0 : Nat} (hx0 : n0 ≤ x) (hh0 : n0 ≤ h.size) (E : RoadKit.Exa Z h x ST) (V : RoadKit.Fld Z h x ST "value" "[B" v0) (C : RoadKit.Fld Z h x ST "coder" "B" c0) (K : RoadKit.Arv Z h b kC .char N (cs.map Value.int) d) (S : RoadKit.Sta Z h ST "COMPACT_STRINGS" "Z" (.int z)) (hz : ¬ z = 0)
    (hn : cs.length = n) (hN : N = Int32.ofNat n) (l0 : 0 < n) (l2 : n ≤ 4000) (hp : ∀ c ∈ cs, ¬ c < 0 ∧ ¬ (255 : Int32) < c) (hb : bs = cs.map (fun c => c.toInt8.toInt32)) (hfr : 4 ≤ R.frames) (hlo : W + 65 ≤ R.locals) :
    Back l R p e below s args (⟨"java/lang/String", "<init>", "([C)V"⟩ : MethodName) len W (fun P a => a = #[.ref x, .ref b] ∧ P.U.heap = h ∧ P.cells + 1 ≤ R.cells ∧ P.slots + n ≤ R.slots)
      (fun P _ v B => ∃ L, QV Z x N bs h n0 v B.U.heap L ∧ B.locs = P.locs ++ L ∧ B.cells = P.cells + 1 ∧ B.slots = P.slots + n) := by
  subst hn hN hb
  refine Back.mono (backArv hZ hw wi E V C K S hz (n32 (by omega)) l0 (by omega) (fun c hc => (hp c hc).2) hfr hlo) (fun P a hp => hp) (fun P a v B hp hq => ?_)
  obtain ⟨L, ⟨q1, q2, q3, q4, q5, q6, q7, ⟨kb, v1, v2⟩, q9⟩, hl, hc, hs⟩ := hq
  exact ⟨L, ⟨q1, fun y hy => by rw [q2 y hy]; exact hx0, q3, q5, q7, h.size, kb, hh0, Nat.le_refl _, Nat.ne_of_gt E.lt, q6, by rw [List.map_map]; exact v2⟩, hl, hc, hs⟩
end StrChars.Road
end Jvm.Pilot.@@N@@

namespace Jvm.Pilot.@@N@@
open Jvm Jvm.ClassFile Sem Op Lib Jvm.Free Jvm.Stand Jvm.LawKit Jvm.RoadKit Bundle Jvm.Pilot.@@N@@.Jvm.D
theorem pd_0 : parseMethodDescriptor "(C)Z" = some ⟨[.char], some .boolean⟩ := by decide +kernel
theorem pd_1 : parseMethodDescriptor "(C)[B" = some ⟨[.char], some (.array .byte)⟩ := by decide +kernel
theorem pd_2 : parseMethodDescriptor "([BB)V" = some ⟨[(.array .byte), .byte], none⟩ := by decide +kernel
theorem pd_3 : parseMethodDescriptor "([CIILjava/lang/Void;)V" = some ⟨[(.array .char), .int, .int, (.object "java/lang/Void")], none⟩ := by decide +kernel
theorem pd_4 : parseMethodDescriptor "(Lcom/example/bindgate/bindgate/rules/Change$Kind;Lcom/example/bindgate/bindgate/rules/ChangeClass;Ljava/lang/String;)V" = some ⟨[(.object "com/example/bindgate/bindgate/rules/Change$Kind"), (.object "com/example/bindgate/bindgate/rules/ChangeClass"), (.object "java/lang/String")], none⟩ := by decide +kernel
theorem pd_5 : parseMethodDescriptor "(I)Lcom/example/bindgate/bindgate/rules/Change$Kind;" = some ⟨[.int], some (.object "com/example/bindgate/bindgate/rules/Change$Kind")⟩ := by decide +kernel
theorem pd_6 : parseMethodDescriptor "(Lcom/example/bindgate/bindgate/rules/Change$Kind;Ljava/lang/String;)V" = some ⟨[(.object "com/example/bindgate/bindgate/rules/Change$Kind"), (.object "java/lang/String")], none⟩ := by decide +kernel
theorem pd_7 : parseMethodDescriptor "()Lcom/example/bindgate/bindgate/rules/Change;" = some ⟨[], some (.object "com/example/bindgate/bindgate/rules/Change")⟩ := by decide +kernel
theorem pd_8 : parseMethodDescriptor "()Lcom/example/bindgate/bindgate/rules/Change$Kind;" = some ⟨[], some (.object "com/example/bindgate/bindgate/rules/Change$Kind")⟩ := by decide +kernel
theorem pd_9 : parseMethodDescriptor "()Ljava/lang/String;" = some ⟨[], some (.object "java/lang/String")⟩ := by decide +kernel
theorem pd_10 : parseMethodDescriptor "(Ljava/lang/Object;)Z" = some ⟨[(.object "java/lang/Object")], some .boolean⟩ := by decide +kernel
theorem pd_11 : parseMethodDescriptor "()Lcom/example/bindgate/bindgate/rules/ChangeClass;" = some ⟨[], some (.object "com/example/bindgate/bindgate/rules/ChangeClass")⟩ := by decide +kernel
theorem pd_12 : parseMethodDescriptor "([C)V" = some ⟨[(.array .char)], none⟩ := by decide +kernel
theorem pd_13 : parseMethodDescriptor "(C)Ljava/lang/String;" = some ⟨[.char], some (.object "java/lang/String")⟩ := by decide +kernel

def own_cmp (x : Int32) : Prop := x = 1 ∨ x = 17 ∨ x = 18 ∨ x = 19
def own_KS (Z : State) (k0 k1 k2 k3 k4 k5 k6 k7 k8 k9 k10 k11 k12 k13 k14 k15 k16 k17 k18 k19 : Addr) : Prop := Sta Z Z.heap "com/example/bindgate/bindgate/rules/Change$Kind" "INTERFACE_REMOVED" "Lcom/example/bindgate/bindgate/rules/Change$Kind;" (.ref k0) ∧ Sta Z Z.heap "com/example/bindgate/bindgate/rules/Change$Kind" "INTERFACE_ADDED" "Lcom/example/bindgate/bindgate/rules/Change$Kind;" (.ref k1) ∧ Sta Z Z.heap "com/example/bindgate/bindgate/rules/Change$Kind" "INTERFACE_RENAMED" "Lcom/example/bindgate/bindgate/rules/Change$Kind;" (.ref k2) ∧ Sta Z Z.heap "com/example/bindgate/bindgate/rules/Change$Kind" "BASE_CHANGED" "Lcom/example/bindgate/bindgate/rules/Change$Kind;" (.ref k3) ∧ Sta Z Z.heap "com/example/bindgate/bindgate/rules/Change$Kind" "KIND_CHANGED" "Lcom/example/bindgate/bindgate/rules/Change$Kind;" (.ref k4) ∧ Sta Z Z.heap "com/example/bindgate/bindgate/rules/Change$Kind" "OPERATION_REMOVED" "Lcom/example/bindgate/bindgate/rules/Change$Kind;" (.ref k5) ∧ Sta Z Z.heap "com/example/bindgate/bindgate/rules/Change$Kind" "OPERATION_MOVED" "Lcom/example/bindgate/bindgate/rules/Change$Kind;" (.ref k6) ∧ Sta Z Z.heap "com/example/bindgate/bindgate/rules/Change$Kind" "OPERATION_CHANGED" "Lcom/example/bindgate/bindgate/rules/Change$Kind;" (.ref k7) ∧ Sta Z Z.heap "com/example/bindgate/bindgate/rules/Change$Kind" "CALLBACK_REMOVED" "Lcom/example/bindgate/bindgate/rules/Change$Kind;" (.ref k8) ∧ Sta Z Z.heap "com/example/bindgate/bindgate/rules/Change$Kind" "CALLBACK_MOVED" "Lcom/example/bindgate/bindgate/rules/Change$Kind;" (.ref k9) ∧ Sta Z Z.heap "com/example/bindgate/bindgate/rules/Change$Kind" "CALLBACK_CHANGED" "Lcom/example/bindgate/bindgate/rules/Change$Kind;" (.ref k10) ∧ Sta Z Z.heap "com/example/bindgate/bindgate/rules/Change$Kind" "TYPE_REMOVED" "Lcom/example/bindgate/bindgate/rules/Change$Kind;" (.ref k11) ∧ Sta Z Z.heap "com/example/bindgate/bindgate/rules/Change$Kind" "TYPE_CHANGED" "Lcom/example/bindgate/bindgate/rules/Change$Kind;" (.ref k12) ∧ Sta Z Z.heap "com/example/bindgate/bindgate/rules/Change$Kind" "CONSTANT_REMOVED" "Lcom/example/bindgate/bindgate/rules/Change$Kind;" (.ref k13) ∧ Sta Z Z.heap "com/example/bindgate/bindgate/rules/Change$Kind" "CONSTANT_CHANGED" "Lcom/example/bindgate/bindgate/rules/Change$Kind;" (.ref k14) ∧ Sta Z Z.heap "com/example/bindgate/bindgate/rules/Change$Kind" "CALLBACK_ADDED" "Lcom/example/bindgate/bindgate/rules/Change$Kind;" (.ref k15) ∧ Sta Z Z.heap "com/example/bindgate/bindgate/rules/Change$Kind" "OPERATION_ADDED_BEFORE_THE_END" "Lcom/example/bindgate/bindgate/rules/Change$Kind;" (.ref k16) ∧ Sta Z Z.heap "com/example/bindgate/bindgate/rules/Change$Kind" "OPERATION_ADDED_AT_THE_END" "Lcom/example/bindgate/bindgate/rules/Change$Kind;" (.ref k17) ∧ Sta Z Z.heap "com/example/bindgate/bindgate/rules/Change$Kind" "TYPE_ADDED" "Lcom/example/bindgate/bindgate/rules/Change$Kind;" (.ref k18) ∧ Sta Z Z.heap "com/example/bindgate/bindgate/rules/Change$Kind" "CONSTANT_ADDED" "Lcom/example/bindgate/bindgate/rules/Change$Kind;" (.ref k19)
def own_KO (Z : State) (k0 k1 k2 k3 k4 k5 k6 k7 k8 k9 k10 k11 k12 k13 k14 k15 k16 k17 k18 k19 : Addr) (cc ci : Addr) : Prop := Fld Z Z.heap k0 "com/example/bindgate/bindgate/rules/Change$Kind" "changeClass" "Lcom/example/bindgate/bindgate/rules/ChangeClass;" (.ref ci) ∧ Fld Z Z.heap k1 "com/example/bindgate/bindgate/rules/Change$Kind" "changeClass" "Lcom/example/bindgate/bindgate/rules/ChangeClass;" (.ref cc) ∧ Fld Z Z.heap k2 "com/example/bindgate/bindgate/rules/Change$Kind" "changeClass" "Lcom/example/bindgate/bindgate/rules/ChangeClass;" (.ref ci) ∧ Fld Z Z.heap k3 "com/example/bindgate/bindgate/rules/Change$Kind" "changeClass" "Lcom/example/bindgate/bindgate/rules/ChangeClass;" (.ref ci) ∧ Fld Z Z.heap k4 "com/example/bindgate/bindgate/rules/Change$Kind" "changeClass" "Lcom/example/bindgate/bindgate/rules/ChangeClass;" (.ref ci) ∧ Fld Z Z.heap k5 "com/example/bindgate/bindgate/rules/Change$Kind" "changeClass" "Lcom/example/bindgate/bindgate/rules/ChangeClass;" (.ref ci) ∧ Fld Z Z.heap k6 "com/example/bindgate/bindgate/rules/Change$Kind" "changeClass" "Lcom/example/bindgate/bindgate/rules/ChangeClass;" (.ref ci) ∧ Fld Z Z.heap k7 "com/example/bindgate/bindgate/rules/Change$Kind" "changeClass" "Lcom/example/bindgate/bindgate/rules/ChangeClass;" (.ref ci) ∧ Fld Z Z.heap k8 "com/example/bindgate/bindgate/rules/Change$Kind" "changeClass" "Lcom/example/bindgate/bindgate/rules/ChangeClass;" (.ref ci) ∧ Fld Z Z.heap k9 "com/example/bindgate/bindgate/rules/Change$Kind" "changeClass" "Lcom/example/bindgate/bindgate/rules/ChangeClass;" (.ref ci) ∧ Fld Z Z.heap k10 "com/example/bindgate/bindgate/rules/Change$Kind" "changeClass" "Lcom/example/bindgate/bindgate/rules/ChangeClass;" (.ref ci) ∧ Fld Z Z.heap k11 "com/example/bindgate/bindgate/rules/Change$Kind" "changeClass" "Lcom/example/bindgate/bindgate/rules/ChangeClass;" (.ref ci) ∧ Fld Z Z.heap k12 "com/example/bindgate/bindgate/rules/Change$Kind" "changeClass" "Lcom/example/bindgate/bindgate/rules/ChangeClass;" (.ref ci) ∧ Fld Z Z.heap k13 "com/example/bindgate/bindgate/rules/Change$Kind" "changeClass" "Lcom/example/bindgate/bindgate/rules/ChangeClass;" (.ref ci) ∧ Fld Z Z.heap k14 "com/example/bindgate/bindgate/rules/Change$Kind" "changeClass" "Lcom/example/bindgate/bindgate/rules/ChangeClass;" (.ref ci) ∧ Fld Z Z.heap k15 "com/example/bindgate/bindgate/rules/Change$Kind" "changeClass" "Lcom/example/bindgate/bindgate/rules/ChangeClass;" (.ref ci) ∧ Fld Z Z.heap k16 "com/example/bindgate/bindgate/rules/Change$Kind" "changeClass" "Lcom/example/bindgate/bindgate/rules/ChangeClass;" (.ref ci) ∧ Fld Z Z.heap k17 "com/example/bindgate/bindgate/rules/Change$Kind" "changeClass" "Lcom/example/bindgate/bindgate/rules/ChangeClass;" (.ref cc) ∧ Fld Z Z.heap k18 "com/example/bindgate/bindgate/rules/Change$Kind" "changeClass" "Lcom/example/bindgate/bindgate/rules/ChangeClass;" (.ref cc) ∧ Fld Z Z.heap k19 "com/example/bindgate/bindgate/rules/Change$Kind" "changeClass" "Lcom/example/bindgate/bindgate/rules/ChangeClass;" (.ref cc)
def own_kind (k0 k1 k2 k3 k4 k5 k6 k7 k8 k9 k10 k11 k12 k13 k14 k15 k16 k17 k18 k19 : Addr) (x : Int32) : Value := if x = 0 then .ref k0 else if x = 1 then .ref k1 else if x = 2 then .ref k2 else if x = 3 then .ref k3 else if x = 4 then .ref k4 else if x = 5 then .ref k5 else if x = 6 then .ref k6 else if x = 7 then .ref k7 else if x = 8 then .ref k8 else if x = 9 then .ref k9 else if x = 10 then .ref k10 else if x = 11 then .ref k11 else if x = 12 then .ref k12 else if x = 13 then .ref k13 else if x = 14 then .ref k14 else if x = 15 then .ref k15 else if x = 16 then .ref k16 else if x = 17 then .ref k17 else if x = 18 then .ref k18 else .ref k19
theorem own_chg {Z : State} {k0 k1 k2 k3 k4 k5 k6 k7 k8 k9 k10 k11 k12 k13 k14 k15 k16 k17 k18 k19 cc ci : Addr} (O : own_KO Z k0 k1 k2 k3 k4 k5 k6 k7 k8 k9 k10 k11 k12 k13 k14 k15 k16 k17 k18 k19 cc ci) {x : Int32} (h : 0 ≤ x.toInt ∧ x.toInt < 20) : ∃ k q, own_kind k0 k1 k2 k3 k4 k5 k6 k7 k8 k9 k10 k11 k12 k13 k14 k15 k16 k17 k18 k19 x = .ref k ∧ Fld Z Z.heap k "com/example/bindgate/bindgate/rules/Change$Kind" "changeClass" "Lcom/example/bindgate/bindgate/rules/ChangeClass;" (.ref q) ∧ (own_cmp x → q = cc) ∧ (¬ own_cmp x → q = ci) := by
  have hx : x = 0 ∨ x = 1 ∨ x = 2 ∨ x = 3 ∨ x = 4 ∨ x = 5 ∨ x = 6 ∨ x = 7 ∨ x = 8 ∨ x = 9 ∨ x = 10 ∨ x = 11 ∨ x = 12 ∨ x = 13 ∨ x = 14 ∨ x = 15 ∨ x = 16 ∨ x = 17 ∨ x = 18 ∨ x = 19 := by
    simp only [← Int32.toInt_inj, show (0 : Int32).toInt = 0 from by decide, show (1 : Int32).toInt = 1 from by decide, show (2 : Int32).toInt = 2 from by decide, show (3 : Int32).toInt = 3 from by decide, show (4 : Int32).toInt = 4 from by decide, show (5 : Int32).toInt = 5 from by decide, show (6 : Int32).toInt = 6 from by decide, show (7 : Int32).toInt = 7 from by decide, show (8 : Int32).toInt = 8 from by decide, show (9 : Int32).toInt = 9 from by decide, show (10 : Int32).toInt = 10 from by decide, show (11 : Int32).toInt = 11 from by decide, show (12 : Int32).toInt = 12 from by decide, show (13 : Int32).toInt = 13 from by decide, show (14 : Int32).toInt = 14 from by decide, show (15 : Int32).toInt = 15 from by decide, show (16 : Int32).toInt = 16 from by decide, show (17 : Int32).toInt = 17 from by decide, show (18 : Int32).toInt = 18 from by decide, show (19 : Int32).toInt = 19 from by decide]
    omega
  unfold own_KO at O
  obtain ⟨o0, o1, o2, o3, o4, o5, o6, o7, o8, o9, o10, o11, o12, o13, o14, o15, o16, o17, o18, o19⟩ := O
  rcases hx with rfl | rfl | rfl | rfl | rfl | rfl | rfl | rfl | rfl | rfl | rfl | rfl | rfl | rfl | rfl | rfl | rfl | rfl | rfl | rfl
  · exact ⟨k0, ci, rfl, o0, fun q => absurd q (by unfold own_cmp; decide), fun _ => rfl⟩
  · exact ⟨k1, cc, rfl, o1, fun _ => rfl, fun q => absurd (by unfold own_cmp; decide) q⟩
  · exact ⟨k2, ci, rfl, o2, fun q => absurd q (by unfold own_cmp; decide), fun _ => rfl⟩
  · exact ⟨k3, ci, rfl, o3, fun q => absurd q (by unfold own_cmp; decide), fun _ => rfl⟩
  · exact ⟨k4, ci, rfl, o4, fun q => absurd q (by unfold own_cmp; decide), fun _ => rfl⟩
  · exact ⟨k5, ci, rfl, o5, fun q => absurd q (by unfold own_cmp; decide), fun _ => rfl⟩
  · exact ⟨k6, ci, rfl, o6, fun q => absurd q (by unfold own_cmp; decide), fun _ => rfl⟩
  · exact ⟨k7, ci, rfl, o7, fun q => absurd q (by unfold own_cmp; decide), fun _ => rfl⟩
  · exact ⟨k8, ci, rfl, o8, fun q => absurd q (by unfold own_cmp; decide), fun _ => rfl⟩
  · exact ⟨k9, ci, rfl, o9, fun q => absurd q (by unfold own_cmp; decide), fun _ => rfl⟩
  · exact ⟨k10, ci, rfl, o10, fun q => absurd q (by unfold own_cmp; decide), fun _ => rfl⟩
  · exact ⟨k11, ci, rfl, o11, fun q => absurd q (by unfold own_cmp; decide), fun _ => rfl⟩
  · exact ⟨k12, ci, rfl, o12, fun q => absurd q (by unfold own_cmp; decide), fun _ => rfl⟩
  · exact ⟨k13, ci, rfl, o13, fun q => absurd q (by unfold own_cmp; decide), fun _ => rfl⟩
  · exact ⟨k14, ci, rfl, o14, fun q => absurd q (by unfold own_cmp; decide), fun _ => rfl⟩
  · exact ⟨k15, ci, rfl, o15, fun q => absurd q (by unfold own_cmp; decide), fun _ => rfl⟩
  · exact ⟨k16, ci, rfl, o16, fun q => absurd q (by unfold own_cmp; decide), fun _ => rfl⟩
  · exact ⟨k17, cc, rfl, o17, fun _ => rfl, fun q => absurd (by unfold own_cmp; decide) q⟩
  · exact ⟨k18, cc, rfl, o18, fun _ => rfl, fun q => absurd (by unfold own_cmp; decide) q⟩
  · exact ⟨k19, cc, rfl, o19, fun _ => rfl, fun q => absurd (by unfold own_cmp; decide) q⟩
theorem own_rem20 (x : Int32) : 0 ≤ ((x &&& 2147483647) % 20).toInt ∧ ((x &&& 2147483647) % 20).toInt < 20 := by
  have a := c_mask x 2147483647 31 (by decide) (by decide)
  have b := c_irem (x &&& 2147483647) 20 20 (by decide)
  omega
theorem own_three (x : Int32) : (x &&& 2147483647) % 3 = 0 ∨ (x &&& 2147483647) % 3 = 1 ∨ (x &&& 2147483647) % 3 = 2 := by
  have a := c_mask x 2147483647 31 (by decide) (by decide)
  have b := c_irem (x &&& 2147483647) 3 3 (by decide)
  simp only [← Int32.toInt_inj, show (0 : Int32).toInt = 0 from by decide, show (1 : Int32).toInt = 1 from by decide, show (2 : Int32).toInt = 2 from by decide]
  omega
theorem own_le (z : Int32) : ¬ (255 : Int32) < (z &&& 255).toUInt32.toUInt16.toUInt32.toInt32 := by
  have a := c_mask z 255 8 (by decide) (by decide)
  rw [i2c_mask]
  have e2 : (255 : Int32).toInt = 255 := by decide
  rw [Int32.lt_iff_toInt_lt, e2]
  omega
theorem own_lat (x y : Int32) : ∀ c ∈ [nar .char ((x &&& 255).toUInt32.toUInt16.toUInt32.toInt32), nar .char ((y &&& 255).toUInt32.toUInt16.toUInt32.toInt32)], ¬ c < 0 ∧ ¬ (255 : Int32) < c := by
  have k : ∀ z : Int32, ¬ nar .char ((z &&& 255).toUInt32.toUInt16.toUInt32.toInt32) < 0 ∧ ¬ (255 : Int32) < nar .char ((z &&& 255).toUInt32.toUInt16.toUInt32.toInt32) := fun z => by
    have a := c_mask z 255 8 (by decide) (by decide)
    rw [i2c_mask]
    show ¬ (z &&& 255).toUInt32.toUInt16.toUInt32.toInt32 < 0 ∧ ¬ (255 : Int32) < (z &&& 255).toUInt32.toUInt16.toUInt32.toInt32
    rw [i2c_mask]
    have e1 : (0 : Int32).toInt = 0 := by decide
    have e2 : (255 : Int32).toInt = 255 := by decide
    rw [Int32.lt_iff_toInt_lt, Int32.lt_iff_toInt_lt, e1, e2]
    omega
  intro c hc
  simp only [List.mem_cons, List.not_mem_nil, or_false] at hc
  rcases hc with rfl | rfl
  · exact k x
  · exact k y

theorem d1_0 : decode method_2_code 0 = .ok (.iload_n 0, 1) := by decide +kernel
theorem d1_1 : decode method_2_code 1 = .ok (.ifCond .ne 7, 3) := by decide +kernel
theorem d1_4 : decode method_2_code 4 = .ok (.getstatic 7, 3) := by decide +kernel
theorem d1_7 : decode method_2_code 7 = .ok (.areturn, 1) := by decide +kernel
theorem d1_8 : decode method_2_code 8 = .ok (.iload_n 0, 1) := by decide +kernel
theorem d1_9 : decode method_2_code 9 = .ok (.iconst 1, 1) := by decide +kernel
theorem d1_10 : decode method_2_code 10 = .ok (.if_icmp .ne 7, 3) := by decide +kernel
theorem d1_13 : decode method_2_code 13 = .ok (.getstatic 13, 3) := by decide +kernel
theorem d1_16 : decode method_2_code 16 = .ok (.areturn, 1) := by decide +kernel
theorem d1_17 : decode method_2_code 17 = .ok (.iload_n 0, 1) := by decide +kernel
theorem d1_18 : decode method_2_code 18 = .ok (.iconst 2, 1) := by decide +kernel
theorem d1_19 : decode method_2_code 19 = .ok (.if_icmp .ne 7, 3) := by decide +kernel
theorem d1_22 : decode method_2_code 22 = .ok (.getstatic 16, 3) := by decide +kernel
theorem d1_25 : decode method_2_code 25 = .ok (.areturn, 1) := by decide +kernel
theorem d1_26 : decode method_2_code 26 = .ok (.iload_n 0, 1) := by decide +kernel
theorem d1_27 : decode method_2_code 27 = .ok (.iconst 3, 1) := by decide +kernel
theorem d1_28 : decode method_2_code 28 = .ok (.if_icmp .ne 7, 3) := by decide +kernel
theorem d1_31 : decode method_2_code 31 = .ok (.getstatic 19, 3) := by decide +kernel
theorem d1_34 : decode method_2_code 34 = .ok (.areturn, 1) := by decide +kernel
theorem d1_35 : decode method_2_code 35 = .ok (.iload_n 0, 1) := by decide +kernel
theorem d1_36 : decode method_2_code 36 = .ok (.iconst 4, 1) := by decide +kernel
theorem d1_37 : decode method_2_code 37 = .ok (.if_icmp .ne 7, 3) := by decide +kernel
theorem d1_40 : decode method_2_code 40 = .ok (.getstatic 22, 3) := by decide +kernel
theorem d1_43 : decode method_2_code 43 = .ok (.areturn, 1) := by decide +kernel
theorem d1_44 : decode method_2_code 44 = .ok (.iload_n 0, 1) := by decide +kernel
theorem d1_45 : decode method_2_code 45 = .ok (.iconst 5, 1) := by decide +kernel
theorem d1_46 : decode method_2_code 46 = .ok (.if_icmp .ne 7, 3) := by decide +kernel
theorem d1_49 : decode method_2_code 49 = .ok (.getstatic 25, 3) := by decide +kernel
theorem d1_52 : decode method_2_code 52 = .ok (.areturn, 1) := by decide +kernel
theorem d1_53 : decode method_2_code 53 = .ok (.iload_n 0, 1) := by decide +kernel
theorem d1_54 : decode method_2_code 54 = .ok (.bipush 6, 2) := by decide +kernel
theorem d1_56 : decode method_2_code 56 = .ok (.if_icmp .ne 7, 3) := by decide +kernel
theorem d1_59 : decode method_2_code 59 = .ok (.getstatic 28, 3) := by decide +kernel
theorem d1_62 : decode method_2_code 62 = .ok (.areturn, 1) := by decide +kernel
theorem d1_63 : decode method_2_code 63 = .ok (.iload_n 0, 1) := by decide +kernel
theorem d1_64 : decode method_2_code 64 = .ok (.bipush 7, 2) := by decide +kernel
theorem d1_66 : decode method_2_code 66 = .ok (.if_icmp .ne 7, 3) := by decide +kernel
theorem d1_69 : decode method_2_code 69 = .ok (.getstatic 31, 3) := by decide +kernel
theorem d1_72 : decode method_2_code 72 = .ok (.areturn, 1) := by decide +kernel
theorem d1_73 : decode method_2_code 73 = .ok (.iload_n 0, 1) := by decide +kernel
theorem d1_74 : decode method_2_code 74 = .ok (.bipush 8, 2) := by decide +kernel
theorem d1_76 : decode method_2_code 76 = .ok (.if_icmp .ne 7, 3) := by decide +kernel
theorem d1_79 : decode method_2_code 79 = .ok (.getstatic 34, 3) := by decide +kernel
theorem d1_82 : decode method_2_code 82 = .ok (.areturn, 1) := by decide +kernel
theorem d1_83 : decode method_2_code 83 = .ok (.iload_n 0, 1) := by decide +kernel
theorem d1_84 : decode method_2_code 84 = .ok (.bipush 9, 2) := by decide +kernel
theorem d1_86 : decode method_2_code 86 = .ok (.if_icmp .ne 7, 3) := by decide +kernel
theorem d1_89 : decode method_2_code 89 = .ok (.getstatic 37, 3) := by decide +kernel
theorem d1_92 : decode method_2_code 92 = .ok (.areturn, 1) := by decide +kernel
theorem d1_93 : decode method_2_code 93 = .ok (.iload_n 0, 1) := by decide +kernel
theorem d1_94 : decode method_2_code 94 = .ok (.bipush 10, 2) := by decide +kernel
theorem d1_96 : decode method_2_code 96 = .ok (.if_icmp .ne 7, 3) := by decide +kernel
theorem d1_99 : decode method_2_code 99 = .ok (.getstatic 40, 3) := by decide +kernel
theorem d1_102 : decode method_2_code 102 = .ok (.areturn, 1) := by decide +kernel
theorem d1_103 : decode method_2_code 103 = .ok (.iload_n 0, 1) := by decide +kernel
theorem d1_104 : decode method_2_code 104 = .ok (.bipush 11, 2) := by decide +kernel
theorem d1_106 : decode method_2_code 106 = .ok (.if_icmp .ne 7, 3) := by decide +kernel
theorem d1_109 : decode method_2_code 109 = .ok (.getstatic 43, 3) := by decide +kernel
theorem d1_112 : decode method_2_code 112 = .ok (.areturn, 1) := by decide +kernel
theorem d1_113 : decode method_2_code 113 = .ok (.iload_n 0, 1) := by decide +kernel
theorem d1_114 : decode method_2_code 114 = .ok (.bipush 12, 2) := by decide +kernel
theorem d1_116 : decode method_2_code 116 = .ok (.if_icmp .ne 7, 3) := by decide +kernel
theorem d1_119 : decode method_2_code 119 = .ok (.getstatic 46, 3) := by decide +kernel
theorem d1_122 : decode method_2_code 122 = .ok (.areturn, 1) := by decide +kernel
theorem d1_123 : decode method_2_code 123 = .ok (.iload_n 0, 1) := by decide +kernel
theorem d1_124 : decode method_2_code 124 = .ok (.bipush 13, 2) := by decide +kernel
theorem d1_126 : decode method_2_code 126 = .ok (.if_icmp .ne 7, 3) := by decide +kernel
theorem d1_129 : decode method_2_code 129 = .ok (.getstatic 49, 3) := by decide +kernel
theorem d1_132 : decode method_2_code 132 = .ok (.areturn, 1) := by decide +kernel
theorem d1_133 : decode method_2_code 133 = .ok (.iload_n 0, 1) := by decide +kernel
theorem d1_134 : decode method_2_code 134 = .ok (.bipush 14, 2) := by decide +kernel
theorem d1_136 : decode method_2_code 136 = .ok (.if_icmp .ne 7, 3) := by decide +kernel
theorem d1_139 : decode method_2_code 139 = .ok (.getstatic 52, 3) := by decide +kernel
theorem d1_142 : decode method_2_code 142 = .ok (.areturn, 1) := by decide +kernel
theorem d1_143 : decode method_2_code 143 = .ok (.iload_n 0, 1) := by decide +kernel
theorem d1_144 : decode method_2_code 144 = .ok (.bipush 15, 2) := by decide +kernel
theorem d1_146 : decode method_2_code 146 = .ok (.if_icmp .ne 7, 3) := by decide +kernel
theorem d1_149 : decode method_2_code 149 = .ok (.getstatic 55, 3) := by decide +kernel
theorem d1_152 : decode method_2_code 152 = .ok (.areturn, 1) := by decide +kernel
theorem d1_153 : decode method_2_code 153 = .ok (.iload_n 0, 1) := by decide +kernel
theorem d1_154 : decode method_2_code 154 = .ok (.bipush 16, 2) := by decide +kernel
theorem d1_156 : decode method_2_code 156 = .ok (.if_icmp .ne 7, 3) := by decide +kernel
theorem d1_159 : decode method_2_code 159 = .ok (.getstatic 58, 3) := by decide +kernel
theorem d1_162 : decode method_2_code 162 = .ok (.areturn, 1) := by decide +kernel
theorem d1_163 : decode method_2_code 163 = .ok (.iload_n 0, 1) := by decide +kernel
theorem d1_164 : decode method_2_code 164 = .ok (.bipush 17, 2) := by decide +kernel
theorem d1_166 : decode method_2_code 166 = .ok (.if_icmp .ne 7, 3) := by decide +kernel
theorem d1_169 : decode method_2_code 169 = .ok (.getstatic 61, 3) := by decide +kernel
theorem d1_172 : decode method_2_code 172 = .ok (.areturn, 1) := by decide +kernel
theorem d1_173 : decode method_2_code 173 = .ok (.iload_n 0, 1) := by decide +kernel
theorem d1_174 : decode method_2_code 174 = .ok (.bipush 18, 2) := by decide +kernel
theorem d1_176 : decode method_2_code 176 = .ok (.if_icmp .ne 7, 3) := by decide +kernel
theorem d1_179 : decode method_2_code 179 = .ok (.getstatic 64, 3) := by decide +kernel
theorem d1_182 : decode method_2_code 182 = .ok (.areturn, 1) := by decide +kernel
theorem d1_183 : decode method_2_code 183 = .ok (.getstatic 67, 3) := by decide +kernel
theorem d1_186 : decode method_2_code 186 = .ok (.areturn, 1) := by decide +kernel
set_option maxRecDepth 65536 in
set_option maxHeartbeats 40000000 in
theorem m1 (l : Launch) (Z : State) (a0 : Array Value) (w : ∀ (i : Nat) {d : Jvm.Cond}, tables_1[i]? = some d → d.before a0 Z = true) (x0 : Int32) (k0 k1 k2 k3 k4 k5 k6 k7 k8 k9 k10 k11 k12 k13 k14 k15 k16 k17 k18 k19 : Addr) (n0 : Nat) (h0 : Heap) (X00 : Old Z n0 h0) (KK : own_KS Z k0 k1 k2 k3 k4 k5 k6 k7 k8 k9 k10 k11 k12 k13 k14 k15 k16 k17 k18 k19) :
    Own.Met l Z (⟨"com/example/bindgate/bindgate/rules/ChangeAsIncompatiblePinLaw", "kindAt", "(I)Lcom/example/bindgate/bindgate/rules/Change$Kind;"⟩ : MethodName) method_2_code 1 (some (.object "com/example/bindgate/bindgate/rules/Change$Kind")) [] ({ frames := 0, cells := 0, slots := 0, locals := 0 } : Room) #[(.int x0)] h0 (fun v h L => v = some (own_kind k0 k1 k2 k3 k4 k5 k6 k7 k8 k9 k10 k11 k12 k13 k14 k15 k16 k17 k18 k19 x0) ∧ h = h0 ∧ L = []) := by
  refine Own.Met.of (plainFor_of_name (by first | (simp [plainName, overriddenIn]; done) | decide +kernel)) ?_
  intro p e s m below meth c T0 hx hby hml hown hnm hret hlk hZ X0 e0
  have hown : s.vm.findClass "com/example/bindgate/bindgate/rules/ChangeAsIncompatiblePinLaw" = some m.cls := hown
  have hml : c.maxLocals = 1 := hml
  have hnm : meth.name = "kindAt" := hnm
  have ef : entryFrame m #[(.int x0)] 1 = mkF m 0 #[.val (.int x0)] [] := by first | (simp [entryFrame, mkF, argsToLocals, Value.category]; done) | rfl
  rw [ef]
  refine Own.iloadN 1 X0 hx (hb hby d1_0) rfl rfl ?_
  refine Own.if_ne 8 4 X0 hx (hb hby d1_1) (by decide) rfl (fun q0 => ?_) (fun q0 => ?_)
  ·
    refine Own.iloadN 9 X0 hx (hb hby d1_8) rfl rfl ?_
    refine Own.iconst 10 X0 hx ((1 : Int32)) (hb hby d1_9) rfl rfl ?_
    refine Own.icmp_ne 17 13 X0 hx (hb hby d1_10) (by decide) rfl (fun q1 => ?_) (fun q1 => ?_)
    ·
      refine Own.iloadN 18 X0 hx (hb hby d1_17) rfl rfl ?_
      refine Own.iconst 19 X0 hx ((2 : Int32)) (hb hby d1_18) rfl rfl ?_
      refine Own.icmp_ne 26 22 X0 hx (hb hby d1_19) (by decide) rfl (fun q2 => ?_) (fun q2 => ?_)
      ·
        refine Own.iloadN 27 X0 hx (hb hby d1_26) rfl rfl ?_
        refine Own.iconst 28 X0 hx ((3 : Int32)) (hb hby d1_27) rfl rfl ?_
        refine Own.icmp_ne 35 31 X0 hx (hb hby d1_28) (by decide) rfl (fun q3 => ?_) (fun q3 => ?_)
        ·
          refine Own.iloadN 36 X0 hx (hb hby d1_35) rfl rfl ?_
          refine Own.iconst 37 X0 hx ((4 : Int32)) (hb hby d1_36) rfl rfl ?_
          refine Own.icmp_ne 44 40 X0 hx (hb hby d1_37) (by decide) rfl (fun q4 => ?_) (fun q4 => ?_)
          ·
            refine Own.iloadN 45 X0 hx (hb hby d1_44) rfl rfl ?_
            refine Own.iconst 46 X0 hx ((5 : Int32)) (hb hby d1_45) rfl rfl ?_
            refine Own.icmp_ne 53 49 X0 hx (hb hby d1_46) (by decide) rfl (fun q5 => ?_) (fun q5 => ?_)
            ·
              refine Own.iloadN 54 X0 hx (hb hby d1_53) rfl rfl ?_
              refine Own.bipush 56 X0 hx ((6 : Int32)) (hb hby d1_54) rfl rfl ?_
              refine Own.icmp_ne 63 59 X0 hx (hb hby d1_56) (by decide) rfl (fun q6 => ?_) (fun q6 => ?_)
              ·
                refine Own.iloadN 64 X0 hx (hb hby d1_63) rfl rfl ?_
                refine Own.bipush 66 X0 hx ((7 : Int32)) (hb hby d1_64) rfl rfl ?_
                refine Own.icmp_ne 73 69 X0 hx (hb hby d1_66) (by decide) rfl (fun q7 => ?_) (fun q7 => ?_)
                ·
                  refine Own.iloadN 74 X0 hx (hb hby d1_73) rfl rfl ?_
                  refine Own.bipush 76 X0 hx ((8 : Int32)) (hb hby d1_74) rfl rfl ?_
                  refine Own.icmp_ne 83 79 X0 hx (hb hby d1_76) (by decide) rfl (fun q8 => ?_) (fun q8 => ?_)
                  ·
                    refine Own.iloadN 84 X0 hx (hb hby d1_83) rfl rfl ?_
                    refine Own.bipush 86 X0 hx ((9 : Int32)) (hb hby d1_84) rfl rfl ?_
                    refine Own.icmp_ne 93 89 X0 hx (hb hby d1_86) (by decide) rfl (fun q9 => ?_) (fun q9 => ?_)
                    ·
                      refine Own.iloadN 94 X0 hx (hb hby d1_93) rfl rfl ?_
                      refine Own.bipush 96 X0 hx ((10 : Int32)) (hb hby d1_94) rfl rfl ?_
                      refine Own.icmp_ne 103 99 X0 hx (hb hby d1_96) (by decide) rfl (fun q10 => ?_) (fun q10 => ?_)
                      ·
                        refine Own.iloadN 104 X0 hx (hb hby d1_103) rfl rfl ?_
                        refine Own.bipush 106 X0 hx ((11 : Int32)) (hb hby d1_104) rfl rfl ?_
                        refine Own.icmp_ne 113 109 X0 hx (hb hby d1_106) (by decide) rfl (fun q11 => ?_) (fun q11 => ?_)
                        ·
                          refine Own.iloadN 114 X0 hx (hb hby d1_113) rfl rfl ?_
                          refine Own.bipush 116 X0 hx ((12 : Int32)) (hb hby d1_114) rfl rfl ?_
                          refine Own.icmp_ne 123 119 X0 hx (hb hby d1_116) (by decide) rfl (fun q12 => ?_) (fun q12 => ?_)
                          ·
                            refine Own.iloadN 124 X0 hx (hb hby d1_123) rfl rfl ?_
                            refine Own.bipush 126 X0 hx ((13 : Int32)) (hb hby d1_124) rfl rfl ?_
                            refine Own.icmp_ne 133 129 X0 hx (hb hby d1_126) (by decide) rfl (fun q13 => ?_) (fun q13 => ?_)
                            ·
                              refine Own.iloadN 134 X0 hx (hb hby d1_133) rfl rfl ?_
                              refine Own.bipush 136 X0 hx ((14 : Int32)) (hb hby d1_134) rfl rfl ?_
                              refine Own.icmp_ne 143 139 X0 hx (hb hby d1_136) (by decide) rfl (fun q14 => ?_) (fun q14 => ?_)
                              ·
                                refine Own.iloadN 144 X0 hx (hb hby d1_143) rfl rfl ?_
                                refine Own.bipush 146 X0 hx ((15 : Int32)) (hb hby d1_144) rfl rfl ?_
                                refine Own.icmp_ne 153 149 X0 hx (hb hby d1_146) (by decide) rfl (fun q15 => ?_) (fun q15 => ?_)
                                ·
                                  refine Own.iloadN 154 X0 hx (hb hby d1_153) rfl rfl ?_
                                  refine Own.bipush 156 X0 hx ((16 : Int32)) (hb hby d1_154) rfl rfl ?_
                                  refine Own.icmp_ne 163 159 X0 hx (hb hby d1_156) (by decide) rfl (fun q16 => ?_) (fun q16 => ?_)
                                  ·
                                    refine Own.iloadN 164 X0 hx (hb hby d1_163) rfl rfl ?_
                                    refine Own.bipush 166 X0 hx ((17 : Int32)) (hb hby d1_164) rfl rfl ?_
                                    refine Own.icmp_ne 173 169 X0 hx (hb hby d1_166) (by decide) rfl (fun q17 => ?_) (fun q17 => ?_)
                                    ·
                                      refine Own.iloadN 174 X0 hx (hb hby d1_173) rfl rfl ?_
                                      refine Own.bipush 176 X0 hx ((18 : Int32)) (hb hby d1_174) rfl rfl ?_
                                      refine Own.icmp_ne 183 179 X0 hx (hb hby d1_176) (by decide) rfl (fun q18 => ?_) (fun q18 => ?_)
                                      ·
                                        refine Own.getSta 186 X0 hx hZ hown (host := "") (Or.inl (w 85 rfl)) Via.refl e0 (KK.2.2.2.2.2.2.2.2.2.2.2.2.2.2.2.2.2.2.2.ext X00.2) (hb hby d1_183) rfl ?_
                                        intro T1 X1 e1
                                        refine Own.retRef X1 hx hlk rfl hret rfl (hb hby d1_186) (by decide) (by decide) ?_
                                        exact ⟨by rw [own_kind, if_neg q0, if_neg q1, if_neg q2, if_neg q3, if_neg q4, if_neg q5, if_neg q6, if_neg q7, if_neg q8, if_neg q9, if_neg q10, if_neg q11, if_neg q12, if_neg q13, if_neg q14, if_neg q15, if_neg q16, if_neg q17, if_neg q18], e1, rfl⟩
                                      ·
                                        refine Own.getSta 182 X0 hx hZ hown (host := "") (Or.inl (w 141 rfl)) Via.refl e0 (KK.2.2.2.2.2.2.2.2.2.2.2.2.2.2.2.2.2.2.1.ext X00.2) (hb hby d1_179) rfl ?_
                                        intro T2 X2 e2
                                        refine Own.retRef X2 hx hlk rfl hret rfl (hb hby d1_182) (by decide) (by decide) ?_
                                        exact ⟨by rw [own_kind, if_neg q0, if_neg q1, if_neg q2, if_neg q3, if_neg q4, if_neg q5, if_neg q6, if_neg q7, if_neg q8, if_neg q9, if_neg q10, if_neg q11, if_neg q12, if_neg q13, if_neg q14, if_neg q15, if_neg q16, if_neg q17, if_pos q18], e2, rfl⟩
                                    ·
                                      refine Own.getSta 172 X0 hx hZ hown (host := "") (Or.inl (w 133 rfl)) Via.refl e0 (KK.2.2.2.2.2.2.2.2.2.2.2.2.2.2.2.2.2.1.ext X00.2) (hb hby d1_169) rfl ?_
                                      intro T3 X3 e3
                                      refine Own.retRef X3 hx hlk rfl hret rfl (hb hby d1_172) (by decide) (by decide) ?_
                                      exact ⟨by rw [own_kind, if_neg q0, if_neg q1, if_neg q2, if_neg q3, if_neg q4, if_neg q5, if_neg q6, if_neg q7, if_neg q8, if_neg q9, if_neg q10, if_neg q11, if_neg q12, if_neg q13, if_neg q14, if_neg q15, if_neg q16, if_pos q17], e3, rfl⟩
                                  ·
                                    refine Own.getSta 162 X0 hx hZ hown (host := "") (Or.inl (w 115 rfl)) Via.refl e0 (KK.2.2.2.2.2.2.2.2.2.2.2.2.2.2.2.2.1.ext X00.2) (hb hby d1_159) rfl ?_
                                    intro T4 X4 e4
                                    refine Own.retRef X4 hx hlk rfl hret rfl (hb hby d1_162) (by decide) (by decide) ?_
                                    exact ⟨by rw [own_kind, if_neg q0, if_neg q1, if_neg q2, if_neg q3, if_neg q4, if_neg q5, if_neg q6, if_neg q7, if_neg q8, if_neg q9, if_neg q10, if_neg q11, if_neg q12, if_neg q13, if_neg q14, if_neg q15, if_pos q16], e4, rfl⟩
                                ·
                                  refine Own.getSta 152 X0 hx hZ hown (host := "") (Or.inl (w 139 rfl)) Via.refl e0 (KK.2.2.2.2.2.2.2.2.2.2.2.2.2.2.2.1.ext X00.2) (hb hby d1_149) rfl ?_
                                  intro T5 X5 e5
                                  refine Own.retRef X5 hx hlk rfl hret rfl (hb hby d1_152) (by decide) (by decide) ?_
                                  exact ⟨by rw [own_kind, if_neg q0, if_neg q1, if_neg q2, if_neg q3, if_neg q4, if_neg q5, if_neg q6, if_neg q7, if_neg q8, if_neg q9, if_neg q10, if_neg q11, if_neg q12, if_neg q13, if_neg q14, if_pos q15], e5, rfl⟩
                              ·
                                refine Own.getSta 142 X0 hx hZ hown (host := "") (Or.inl (w 89 rfl)) Via.refl e0 (KK.2.2.2.2.2.2.2.2.2.2.2.2.2.2.1.ext X00.2) (hb hby d1_139) rfl ?_
                                intro T6 X6 e6
                                refine Own.retRef X6 hx hlk rfl hret rfl (hb hby d1_142) (by decide) (by decide) ?_
                                exact ⟨by rw [own_kind, if_neg q0, if_neg q1, if_neg q2, if_neg q3, if_neg q4, if_neg q5, if_neg q6, if_neg q7, if_neg q8, if_neg q9, if_neg q10, if_neg q11, if_neg q12, if_neg q13, if_pos q14], e6, rfl⟩
                            ·
                              refine Own.getSta 132 X0 hx hZ hown (host := "") (Or.inl (w 125 rfl)) Via.refl e0 (KK.2.2.2.2.2.2.2.2.2.2.2.2.2.1.ext X00.2) (hb hby d1_129) rfl ?_
                              intro T7 X7 e7
                              refine Own.retRef X7 hx hlk rfl hret rfl (hb hby d1_132) (by decide) (by decide) ?_
                              exact ⟨by rw [own_kind, if_neg q0, if_neg q1, if_neg q2, if_neg q3, if_neg q4, if_neg q5, if_neg q6, if_neg q7, if_neg q8, if_neg q9, if_neg q10, if_neg q11, if_neg q12, if_pos q13], e7, rfl⟩
                          ·
                            refine Own.getSta 122 X0 hx hZ hown (host := "") (Or.inl (w 83 rfl)) Via.refl e0 (KK.2.2.2.2.2.2.2.2.2.2.2.2.1.ext X00.2) (hb hby d1_119) rfl ?_
                            intro T8 X8 e8
                            refine Own.retRef X8 hx hlk rfl hret rfl (hb hby d1_122) (by decide) (by decide) ?_
                            exact ⟨by rw [own_kind, if_neg q0, if_neg q1, if_neg q2, if_neg q3, if_neg q4, if_neg q5, if_neg q6, if_neg q7, if_neg q8, if_neg q9, if_neg q10, if_neg q11, if_pos q12], e8, rfl⟩
                        ·
                          refine Own.getSta 112 X0 hx hZ hown (host := "") (Or.inl (w 127 rfl)) Via.refl e0 (KK.2.2.2.2.2.2.2.2.2.2.2.1.ext X00.2) (hb hby d1_109) rfl ?_
                          intro T9 X9 e9
                          refine Own.retRef X9 hx hlk rfl hret rfl (hb hby d1_112) (by decide) (by decide) ?_
                          exact ⟨by rw [own_kind, if_neg q0, if_neg q1, if_neg q2, if_neg q3, if_neg q4, if_neg q5, if_neg q6, if_neg q7, if_neg q8, if_neg q9, if_neg q10, if_pos q11], e9, rfl⟩
                      ·
                        refine Own.getSta 102 X0 hx hZ hown (host := "") (Or.inl (w 131 rfl)) Via.refl e0 (KK.2.2.2.2.2.2.2.2.2.2.1.ext X00.2) (hb hby d1_99) rfl ?_
                        intro T10 X10 e10
                        refine Own.retRef X10 hx hlk rfl hret rfl (hb hby d1_102) (by decide) (by decide) ?_
                        exact ⟨by rw [own_kind, if_neg q0, if_neg q1, if_neg q2, if_neg q3, if_neg q4, if_neg q5, if_neg q6, if_neg q7, if_neg q8, if_neg q9, if_pos q10], e10, rfl⟩
                    ·
                      refine Own.getSta 92 X0 hx hZ hown (host := "") (Or.inl (w 121 rfl)) Via.refl e0 (KK.2.2.2.2.2.2.2.2.2.1.ext X00.2) (hb hby d1_89) rfl ?_
                      intro T11 X11 e11
                      refine Own.retRef X11 hx hlk rfl hret rfl (hb hby d1_92) (by decide) (by decide) ?_
                      exact ⟨by rw [own_kind, if_neg q0, if_neg q1, if_neg q2, if_neg q3, if_neg q4, if_neg q5, if_neg q6, if_neg q7, if_neg q8, if_pos q9], e11, rfl⟩
                  ·
                    refine Own.getSta 82 X0 hx hZ hown (host := "") (Or.inl (w 117 rfl)) Via.refl e0 (KK.2.2.2.2.2.2.2.2.1.ext X00.2) (hb hby d1_79) rfl ?_
                    intro T12 X12 e12
                    refine Own.retRef X12 hx hlk rfl hret rfl (hb hby d1_82) (by decide) (by decide) ?_
                    exact ⟨by rw [own_kind, if_neg q0, if_neg q1, if_neg q2, if_neg q3, if_neg q4, if_neg q5, if_neg q6, if_neg q7, if_pos q8], e12, rfl⟩
                ·
                  refine Own.getSta 72 X0 hx hZ hown (host := "") (Or.inl (w 129 rfl)) Via.refl e0 (KK.2.2.2.2.2.2.2.1.ext X00.2) (hb hby d1_69) rfl ?_
                  intro T13 X13 e13
                  refine Own.retRef X13 hx hlk rfl hret rfl (hb hby d1_72) (by decide) (by decide) ?_
                  exact ⟨by rw [own_kind, if_neg q0, if_neg q1, if_neg q2, if_neg q3, if_neg q4, if_neg q5, if_neg q6, if_pos q7], e13, rfl⟩
              ·
                refine Own.getSta 62 X0 hx hZ hown (host := "") (Or.inl (w 137 rfl)) Via.refl e0 (KK.2.2.2.2.2.2.1.ext X00.2) (hb hby d1_59) rfl ?_
                intro T14 X14 e14
                refine Own.retRef X14 hx hlk rfl hret rfl (hb hby d1_62) (by decide) (by decide) ?_
                exact ⟨by rw [own_kind, if_neg q0, if_neg q1, if_neg q2, if_neg q3, if_neg q4, if_neg q5, if_pos q6], e14, rfl⟩
            ·
              refine Own.getSta 52 X0 hx hZ hown (host := "") (Or.inl (w 135 rfl)) Via.refl e0 (KK.2.2.2.2.2.1.ext X00.2) (hb hby d1_49) rfl ?_
              intro T15 X15 e15
              refine Own.retRef X15 hx hlk rfl hret rfl (hb hby d1_52) (by decide) (by decide) ?_
              exact ⟨by rw [own_kind, if_neg q0, if_neg q1, if_neg q2, if_neg q3, if_neg q4, if_pos q5], e15, rfl⟩
          ·
            refine Own.getSta 43 X0 hx hZ hown (host := "") (Or.inl (w 119 rfl)) Via.refl e0 (KK.2.2.2.2.1.ext X00.2) (hb hby d1_40) rfl ?_
            intro T16 X16 e16
            refine Own.retRef X16 hx hlk rfl hret rfl (hb hby d1_43) (by decide) (by decide) ?_
            exact ⟨by rw [own_kind, if_neg q0, if_neg q1, if_neg q2, if_neg q3, if_pos q4], e16, rfl⟩
        ·
          refine Own.getSta 34 X0 hx hZ hown (host := "") (Or.inl (w 113 rfl)) Via.refl e0 (KK.2.2.2.1.ext X00.2) (hb hby d1_31) rfl ?_
          intro T17 X17 e17
          refine Own.retRef X17 hx hlk rfl hret rfl (hb hby d1_34) (by decide) (by decide) ?_
          exact ⟨by rw [own_kind, if_neg q0, if_neg q1, if_neg q2, if_pos q3], e17, rfl⟩
      ·
        refine Own.getSta 25 X0 hx hZ hown (host := "") (Or.inl (w 123 rfl)) Via.refl e0 (KK.2.2.1.ext X00.2) (hb hby d1_22) rfl ?_
        intro T18 X18 e18
        refine Own.retRef X18 hx hlk rfl hret rfl (hb hby d1_25) (by decide) (by decide) ?_
        exact ⟨by rw [own_kind, if_neg q0, if_neg q1, if_pos q2], e18, rfl⟩
    ·
      refine Own.getSta 16 X0 hx hZ hown (host := "") (Or.inl (w 91 rfl)) Via.refl e0 (KK.2.1.ext X00.2) (hb hby d1_13) rfl ?_
      intro T19 X19 e19
      refine Own.retRef X19 hx hlk rfl hret rfl (hb hby d1_16) (by decide) (by decide) ?_
      exact ⟨by rw [own_kind, if_neg q0, if_pos q1], e19, rfl⟩
  ·
    refine Own.getSta 7 X0 hx hZ hown (host := "") (Or.inl (w 5 rfl)) Via.refl e0 (KK.1.ext X00.2) (hb hby d1_4) rfl ?_
    intro T20 X20 e20
    refine Own.retRef X20 hx hlk rfl hret rfl (hb hby d1_7) (by decide) (by decide) ?_
    exact ⟨by rw [own_kind, if_pos q0], e20, rfl⟩
theorem d5_0 : decode jdk_42_method_151_code 0 = .ok (.aload_n 0, 1) := by decide +kernel
theorem d5_1 : decode jdk_42_method_151_code 1 = .ok (.invokespecial 1, 3) := by decide +kernel
theorem d5_4 : decode jdk_42_method_151_code 4 = .ok (.aload_n 0, 1) := by decide +kernel
theorem d5_5 : decode jdk_42_method_151_code 5 = .ok (.aload_n 1, 1) := by decide +kernel
theorem d5_6 : decode jdk_42_method_151_code 6 = .ok (.putfield 9, 3) := by decide +kernel
theorem d5_9 : decode jdk_42_method_151_code 9 = .ok (.aload_n 0, 1) := by decide +kernel
theorem d5_10 : decode jdk_42_method_151_code 10 = .ok (.iload_n 2, 1) := by decide +kernel
theorem d5_11 : decode jdk_42_method_151_code 11 = .ok (.putfield 15, 3) := by decide +kernel
theorem d5_14 : decode jdk_42_method_151_code 14 = .ok (.return_, 1) := by decide +kernel
set_option maxRecDepth 65536 in
set_option maxHeartbeats 40000000 in
theorem m5 (l : Launch) (Z : State) (a0 : Array Value) (w : ∀ (i : Nat) {d : Jvm.Cond}, tables_1[i]? = some d → d.before a0 Z = true) (a : Addr) (b : Addr) (n0 : Nat) (u0 u1 : Value) (h0 : Heap) (Z0 : n0 ≤ h0.size) (X00 : Old Z n0 h0)(E_a : Exa Z h0 a "java/lang/String") (F0 : Fld Z h0 a "java/lang/String" "value" "[B" u0) (F1 : Fld Z h0 a "java/lang/String" "coder" "B" u1) (g_a : n0 ≤ a) :
    Own.Met l Z (⟨"java/lang/String", "<init>", "([BB)V"⟩ : MethodName) jdk_42_method_151_code 3 none [] ({ frames := 1, cells := 0, slots := 0, locals := 12 } : Room) #[(.ref a), (.ref b), (.int (0 : Int32))] h0 (fun v h L => v = none ∧ Fr n0 L ∧ Keep h0 h [a]) := by
  refine Own.Met.of (plainFor_of_name (by first | (simp [plainName, overriddenIn]; done) | decide +kernel)) ?_
  intro p e s m below meth c T0 hx hby hml hown hnm hret hlk hZ X0 e0
  have hown : s.vm.findClass "java/lang/String" = some m.cls := hown
  have hml : c.maxLocals = 3 := hml
  have hnm : meth.name = "<init>" := hnm
  have ef : entryFrame m #[(.ref a), (.ref b), (.int (0 : Int32))] 3 = mkF m 0 #[.val (.ref a), .val (.ref b), .val (.int (0 : Int32))] [] := by first | (simp [entryFrame, mkF, argsToLocals, Value.category]; done) | rfl
  rw [ef]
  have N0 := Fr.nil n0
  refine Own.aloadN 1 X0 hx (hb hby d5_0) rfl rfl rfl ?_
  refine Own.initObj 4 0 X0 hx hZ hown (w 28 rfl) (w 29 rfl) (w 30 rfl) e0 (by rw [hml]; rfl) (hb hby d5_1) rfl (by decide) (Nat.le_of_eq rfl) (by decide) ?_
  intro T1 X1 e1
  refine Own.aloadN 5 X1 hx (hb hby d5_4) rfl rfl rfl ?_
  refine Own.aloadN 6 X1 hx (hb hby d5_5) rfl rfl rfl ?_
  refine Own.putFld 9 X1 hx hZ hown (host := "") (Or.inl (w 31 rfl)) Via.refl e1 F0 E_a (Or.inr ⟨(w 32 rfl), rfl, hnm⟩) (w 19 rfl) (ty := (.array .byte)) (by decide) rfl rfl (hb hby d5_6) rfl ?_
  intro T2 h2 X2 e2 W2
  have N2 := Fr.snoc X2 N0 g_a
  have Ef_4 := E_a.wr W2
  have Ff_5 := F0.same W2
  have Ff_6 := F1.other W2 (Or.inr (slot_ne (Or.inr (w 34 rfl)) (Or.inr (w 32 rfl)) (by decide) (t := .byte) (t' := (.array .byte)) (by decide) (by decide)))
  have O2 := X00.wr W2 g_a
  have zl2 := Nat.le_trans Z0 (Nat.le_of_eq W2.size.symm)
  have K2 := (Keep.refl h0 [a]).wr W2 (Or.inl (List.mem_of_getElem? (i := 0) rfl))
  refine Own.aloadN 10 X2 hx (hb hby d5_9) rfl rfl rfl ?_
  refine Own.iloadN 11 X2 hx (hb hby d5_10) rfl rfl ?_
  refine Own.putFld 14 X2 hx hZ hown (host := "") (Or.inl (w 33 rfl)) Via.refl e2 Ff_6 Ef_4 (Or.inr ⟨(w 34 rfl), rfl, hnm⟩) (w 19 rfl) (ty := .byte) (by decide) rfl rfl (hb hby d5_11) rfl ?_
  intro T7 h7 X7 e7 W7
  have N7 := Fr.snoc X7 N2 g_a
  have Ef_9 := Ef_4.wr W7
  have Ff_10 := Ff_5.other W7 (Or.inr (slot_ne (Or.inr (w 32 rfl)) (Or.inr (w 34 rfl)) (by decide) (t := (.array .byte)) (t' := .byte) (by decide) (by decide)))
  have Ff_11 := Ff_6.same W7
  have O7 := O2.wr W7 g_a
  have zl7 := Nat.le_trans zl2 (Nat.le_of_eq W7.size.symm)
  have K7 := K2.wr W7 (Or.inl (List.mem_of_getElem? (i := 0) rfl))
  refine Own.retVoid X7 hx hlk hret (hb hby d5_14) (by decide) (by decide) ?_
  rw [e7]
  exact ⟨rfl, N7, K7⟩
theorem d4_0 : decode jdk_43_method_46_code 0 = .ok (.iconst 1, 1) := by decide +kernel
theorem d4_1 : decode jdk_43_method_46_code 1 = .ok (.newarray .byte, 2) := by decide +kernel
theorem d4_3 : decode jdk_43_method_46_code 3 = .ok (.dup, 1) := by decide +kernel
theorem d4_4 : decode jdk_43_method_46_code 4 = .ok (.iconst 0, 1) := by decide +kernel
theorem d4_5 : decode jdk_43_method_46_code 5 = .ok (.iload_n 0, 1) := by decide +kernel
theorem d4_6 : decode jdk_43_method_46_code 6 = .ok (.i2b, 1) := by decide +kernel
theorem d4_7 : decode jdk_43_method_46_code 7 = .ok (.bastore, 1) := by decide +kernel
theorem d4_8 : decode jdk_43_method_46_code 8 = .ok (.areturn, 1) := by decide +kernel
set_option maxRecDepth 65536 in
set_option maxHeartbeats 40000000 in
theorem m4 (l : Launch) (Z : State) (a0 : Array Value) (w : ∀ (i : Nat) {d : Jvm.Cond}, tables_1[i]? = some d → d.before a0 Z = true) (x0 : Int32) (n0 : Nat) (h0 : Heap) (Z0 : n0 ≤ h0.size) (X00 : Old Z n0 h0) :
    Own.Met l Z (⟨"java/lang/StringLatin1", "toBytes", "(C)[B"⟩ : MethodName) jdk_43_method_46_code 1 (some (.array .byte)) [] ({ frames := 0, cells := 1, slots := 1, locals := 0 } : Room) #[(.int x0)] h0 (fun v h L => ∃ ba : Addr, v = some (.ref ba) ∧ Fr n0 L ∧ Keep h0 h [] ∧ h0.size ≤ ba ∧ n0 ≤ ba) := by
  refine Own.Met.of (plainFor_of_name (by first | (simp [plainName, overriddenIn]; done) | decide +kernel)) ?_
  intro p e s m below meth c T0 hx hby hml hown hnm hret hlk hZ X0 e0
  have hown : s.vm.findClass "java/lang/StringLatin1" = some m.cls := hown
  have hml : c.maxLocals = 1 := hml
  have hnm : meth.name = "toBytes" := hnm
  have ef : entryFrame m #[(.int x0)] 1 = mkF m 0 #[.val (.int x0)] [] := by first | (simp [entryFrame, mkF, argsToLocals, Value.category]; done) | rfl
  rw [ef]
  have N0 := Fr.nil n0
  refine Own.iconst 1 X0 hx ((1 : Int32)) (hb hby d4_0) rfl rfl ?_
  refine Own.newArr 3 1 X0 hx hZ (w 23 rfl) e0 (by decide) (by decide) (by decide) (hb hby d4_1) rfl (by decide) (by decide) ?_
  intro T1 h1 ba k1 z1 X1 e1 E1 A1
  have g_ba : n0 ≤ ba := Nat.le_trans Z0 (Nat.le_of_eq z1.symm)
  have sz_ba : h0.size ≤ ba := Nat.le_trans (Keep.refl h0 []).1 (Nat.le_of_eq z1.symm)
  have K1 := (Keep.refl h0 []).ext E1
  have O1 := X00.ext E1
  have zl1 := Nat.le_trans Z0 E1.1
  have V1 : Arv Z h1 ba k1 .byte (1 : Int32) [(.int (0 : Int32))] (.int (0 : Int32)) := A1
  refine Own.dup 4 X1 hx (hb hby d4_3) rfl rfl ?_
  refine Own.iconst 5 X1 hx ((0 : Int32)) (hb hby d4_4) rfl rfl ?_
  refine Own.iloadN 6 X1 hx (hb hby d4_5) rfl rfl ?_
  refine Own.i2b 7 X1 hx (hb hby d4_6) rfl rfl ?_
  refine Own.bastore 8 X1 hx hZ e1 V1 (by decide) (Nat.le_of_ble_eq_true rfl) (hb hby d4_7) rfl ?_
  intro T3 h3 X3 e3 W3 A3
  have N3 := Fr.snoc X3 N0 g_ba
  have O3 := O1.wr W3 g_ba
  have zl3 := Nat.le_trans zl1 (Nat.le_of_eq W3.size.symm)
  have K3 := K1.wr W3 (Or.inr sz_ba)
  have V3 : Arv Z h3 ba k1 .byte (1 : Int32) [(.int (x0.toInt8.toInt32).toInt8.toInt32)] (.int (0 : Int32)) := A3
  refine Own.retRef X3 hx hlk rfl hret rfl (hb hby d4_8) (by decide) (by decide) ?_
  rw [e3]
  exact ⟨ba, rfl, N3, K3, sz_ba, g_ba⟩
theorem d3_0 : decode jdk_43_method_3_code 0 = .ok (.iload_n 0, 1) := by decide +kernel
theorem d3_1 : decode jdk_43_method_3_code 1 = .ok (.sipush 255, 3) := by decide +kernel
theorem d3_4 : decode jdk_43_method_3_code 4 = .ok (.if_icmp .gt 7, 3) := by decide +kernel
theorem d3_7 : decode jdk_43_method_3_code 7 = .ok (.iconst 1, 1) := by decide +kernel
theorem d3_8 : decode jdk_43_method_3_code 8 = .ok (.goto 4, 3) := by decide +kernel
theorem d3_12 : decode jdk_43_method_3_code 12 = .ok (.ireturn, 1) := by decide +kernel
set_option maxRecDepth 65536 in
set_option maxHeartbeats 40000000 in
theorem m3 (l : Launch) (Z : State) (a0 : Array Value) (w : ∀ (i : Nat) {d : Jvm.Cond}, tables_1[i]? = some d → d.before a0 Z = true) (x0 : Int32)  (h0 : Heap) (hc : ¬ (255 : Int32) < x0) :
    Own.Met l Z (⟨"java/lang/StringLatin1", "canEncode", "(C)Z"⟩ : MethodName) jdk_43_method_3_code 1 (some .boolean) [] ({ frames := 0, cells := 0, slots := 0, locals := 0 } : Room) #[(.int x0)] h0 (fun v h L => v = some (.int 1) ∧ h = h0 ∧ L = []) := by
  refine Own.Met.of (plainFor_of_name (by first | (simp [plainName, overriddenIn]; done) | decide +kernel)) ?_
  intro p e s m below meth c T0 hx hby hml hown hnm hret hlk hZ X0 e0
  have hown : s.vm.findClass "java/lang/StringLatin1" = some m.cls := hown
  have hml : c.maxLocals = 1 := hml
  have hnm : meth.name = "canEncode" := hnm
  have ef : entryFrame m #[(.int x0)] 1 = mkF m 0 #[.val (.int x0)] [] := by first | (simp [entryFrame, mkF, argsToLocals, Value.category]; done) | rfl
  rw [ef]
  refine Own.iloadN 1 X0 hx (hb hby d3_0) rfl rfl ?_
  refine Own.sipush 4 X0 hx ((255 : Int32)) (hb hby d3_1) rfl rfl ?_
  refine Own.icmp_gt 11 7 X0 hx (hb hby d3_4) (by decide) rfl (fun tk => absurd tk hc) (fun tk => ?_)
  refine Own.iconst 8 X0 hx ((1 : Int32)) (hb hby d3_7) rfl rfl ?_
  refine Own.goto 12 X0 hx (hb hby d3_8) (by decide) ?_
  refine Own.retBool X0 hx hlk hret (hb hby d3_12) (by decide) (by decide) ?_
  exact ⟨rfl, e0, rfl⟩
theorem d2_0 : decode jdk_42_method_139_code 0 = .ok (.getstatic 38, 3) := by decide +kernel
theorem d2_3 : decode jdk_42_method_139_code 3 = .ok (.ifCond .eq 23, 3) := by decide +kernel
theorem d2_6 : decode jdk_42_method_139_code 6 = .ok (.iload_n 0, 1) := by decide +kernel
theorem d2_7 : decode jdk_42_method_139_code 7 = .ok (.invokestatic 1015, 3) := by decide +kernel
theorem d2_10 : decode jdk_42_method_139_code 10 = .ok (.ifCond .eq 16, 3) := by decide +kernel
theorem d2_13 : decode jdk_42_method_139_code 13 = .ok (.new 10, 3) := by decide +kernel
theorem d2_16 : decode jdk_42_method_139_code 16 = .ok (.dup, 1) := by decide +kernel
theorem d2_17 : decode jdk_42_method_139_code 17 = .ok (.iload_n 0, 1) := by decide +kernel
theorem d2_18 : decode jdk_42_method_139_code 18 = .ok (.invokestatic 1018, 3) := by decide +kernel
theorem d2_21 : decode jdk_42_method_139_code 21 = .ok (.iconst 0, 1) := by decide +kernel
theorem d2_22 : decode jdk_42_method_139_code 22 = .ok (.invokespecial 209, 3) := by decide +kernel
theorem d2_25 : decode jdk_42_method_139_code 25 = .ok (.areturn, 1) := by decide +kernel
set_option maxRecDepth 65536 in
set_option maxHeartbeats 40000000 in
theorem m2 (l : Launch) (Z : State) (a0 : Array Value) (w : ∀ (i : Nat) {d : Jvm.Cond}, tables_1[i]? = some d → d.before a0 Z = true) (x0 : Int32) (n0 : Nat) (z : Int32) (h0 : Heap) (Z0 : n0 ≤ h0.size) (X00 : Old Z n0 h0)(SC : Sta Z Z.heap "java/lang/String" "COMPACT_STRINGS" "Z" (.int z)) (hz : ¬ z = 0) (hc : ¬ (255 : Int32) < x0) :
    Own.Met l Z (⟨"java/lang/String", "valueOf", "(C)Ljava/lang/String;"⟩ : MethodName) jdk_42_method_139_code 1 (some (.object "java/lang/String")) [] ({ frames := 2, cells := 2, slots := 5, locals := 27 } : Room) #[(.int x0)] h0 (fun v h L => ∃ st : Addr, v = some (.ref st) ∧ Fr n0 L ∧ Keep h0 h [] ∧ h0.size ≤ st ∧ n0 ≤ st ∧ Exa Z h st "java/lang/String") := by
  refine Own.Met.of (plainFor_of_name (by first | (simp [plainName, overriddenIn]; done) | decide +kernel)) ?_
  intro p e s m below meth c T0 hx hby hml hown hnm hret hlk hZ X0 e0
  have hown : s.vm.findClass "java/lang/String" = some m.cls := hown
  have hml : c.maxLocals = 1 := hml
  have hnm : meth.name = "valueOf" := hnm
  have ef : entryFrame m #[(.int x0)] 1 = mkF m 0 #[.val (.int x0)] [] := by first | (simp [entryFrame, mkF, argsToLocals, Value.category]; done) | rfl
  rw [ef]
  have N0 := Fr.nil n0
  refine Own.getSta 3 X0 hx hZ hown (host := "") (Or.inl (w 13 rfl)) Via.refl e0 (SC.ext X00.2) (hb hby d2_0) rfl ?_
  intro T1 X1 e1
  refine Own.if_eq 26 6 X1 hx (hb hby d2_3) (by decide) rfl (fun tk => absurd tk hz) (fun tk => ?_)
  refine Own.iloadN 7 X1 hx (hb hby d2_6) rfl rfl ?_
  refine Own.callSt 10 0 [(.int x0)] [] X1 hx hZ hown (m3 l Z a0 w x0 _ hc) (w 14 rfl) (w 15 rfl) (w 16 rfl) (w 17 rfl) (by decide) e1 (by decide) (by decide) (by decide) (by decide) (by rw [hml]; rfl) (lenOf pd_0 rfl) rfl (Nat.le_of_eq rfl) (hb hby d2_7) rfl ?_
  rintro vv T2 L2 X2 ⟨rfl, hh2, rfl⟩
  have N2 := Fr.app N0 (Fr.nil _)
  refine Own.if_eq 26 13 X2 hx (hb hby d2_10) (by decide) rfl (fun tk => absurd tk (by decide)) (fun tk => ?_)
  refine Own.newObj 16 X2 hx hZ hown (w 18 rfl) (w 19 rfl) (w 11 rfl) hh2 (hb hby d2_13) rfl (by decide) (by decide) ?_
  intro T3 h3 st z3 X3 e3 E3 A3 D3
  have g_st : n0 ≤ st := Nat.le_trans Z0 (Nat.le_of_eq z3.symm)
  have sz_st : h0.size ≤ st := Nat.le_trans (Keep.refl h0 []).1 (Nat.le_of_eq z3.symm)
  have K3 := (Keep.refl h0 []).ext E3
  have O3 := X00.ext E3
  have zl3 := Nat.le_trans Z0 E3.1
  have F3_value : Fld Z h3 st "java/lang/String" "value" "[B" .null := D3 (Or.inr (w 32 rfl)) (ty := (.array .byte)) (by decide)
  have F3_coder : Fld Z h3 st "java/lang/String" "coder" "B" (.int (0 : Int32)) := D3 (Or.inr (w 34 rfl)) (ty := .byte) (by decide)
  refine Own.dup 17 X3 hx (hb hby d2_16) rfl rfl ?_
  refine Own.iloadN 18 X3 hx (hb hby d2_17) rfl rfl ?_
  refine Own.callSt 21 2 [(.int x0)] [(.ref st), (.ref st)] X3 hx hZ hown (m4 l Z a0 w x0 n0 _ zl3 O3) (w 20 rfl) (w 21 rfl) (w 16 rfl) (w 22 rfl) (by decide) e3 (by decide) (by decide) (by decide) (by decide) (by rw [hml]; rfl) (lenOf pd_1 rfl) rfl (Nat.le_of_eq rfl) (hb hby d2_18) rfl ?_
  rintro vv T5 L5 X5 ⟨ba, rfl, N5q, K5, sz_ba, g_ba⟩
  have N5 := Fr.app N2 N5q
  have O5 := O3.keep K5 all0
  have Ef_7 := A3.keep K5
  have Ff_8 := F3_value.keep K5 nin0
  have Ff_9 := F3_coder.keep K5 nin0
  have zl5 := Nat.le_trans zl3 K5.1
  have KK5 := K3.trans K5 all0
  refine Own.iconst 22 X5 hx ((0 : Int32)) (hb hby d2_21) rfl rfl ?_
  refine Own.callInit 25 1 st [(.ref ba), (.int (0 : Int32))] [(.ref st)] X5 hx hZ hown (m5 l Z a0 w st ba n0 _ _ _ zl5 O5 Ef_7 Ff_8 Ff_9 g_st) rfl (w 24 rfl) (w 25 rfl) (w 11 rfl) (w 27 rfl) (by decide) rfl (by decide) (by decide) (by decide) (by decide) (by rw [hml]; rfl) (lenOf pd_2 rfl) rfl (Nat.le_of_eq rfl) (hb hby d2_22) rfl ?_
  rintro vv T10 L10 X10 ⟨rfl, N10q, K10⟩
  have N10 := Fr.app N5 N10q
  have O10 := O5.keep K10 (allS g_st all0)
  have Ef_12 := Ef_7.keep K10
  have zl10 := Nat.le_trans zl5 K10.1
  have KK10 := KK5.trans K10 (allS (Or.inr sz_st) all0)
  refine Own.retRef X10 hx hlk rfl hret rfl (hb hby d2_25) (by decide) (by decide) ?_
  exact ⟨st, rfl, N10, KK10, sz_st, g_st, Ef_12⟩
theorem d15_0 : decode jdk_42_method_149_code 0 = .ok (.aload_n 0, 1) := by decide +kernel
theorem d15_1 : decode jdk_42_method_149_code 1 = .ok (.invokespecial 1, 3) := by decide +kernel
theorem d15_4 : decode jdk_42_method_149_code 4 = .ok (.iload_n 3, 1) := by decide +kernel
theorem d15_5 : decode jdk_42_method_149_code 5 = .ok (.ifCond .ne 22, 3) := by decide +kernel
theorem d15_8 : decode jdk_42_method_149_code 8 = .ok (.aload_n 0, 1) := by decide +kernel
theorem d15_9 : decode jdk_42_method_149_code 9 = .ok (.ldc 7, 2) := by decide +kernel
theorem d15_11 : decode jdk_42_method_149_code 11 = .ok (.getfield 9, 3) := by decide +kernel
theorem d15_14 : decode jdk_42_method_149_code 14 = .ok (.putfield 9, 3) := by decide +kernel
theorem d15_17 : decode jdk_42_method_149_code 17 = .ok (.aload_n 0, 1) := by decide +kernel
theorem d15_18 : decode jdk_42_method_149_code 18 = .ok (.ldc 7, 2) := by decide +kernel
theorem d15_20 : decode jdk_42_method_149_code 20 = .ok (.getfield 15, 3) := by decide +kernel
theorem d15_23 : decode jdk_42_method_149_code 23 = .ok (.putfield 15, 3) := by decide +kernel
theorem d15_26 : decode jdk_42_method_149_code 26 = .ok (.return_, 1) := by decide +kernel
set_option maxRecDepth 65536 in
set_option maxHeartbeats 40000000 in
theorem m15 (l : Launch) (Z : State) (a0 : Array Value) (w : ∀ (i : Nat) {d : Jvm.Cond}, tables_1[i]? = some d → d.before a0 Z = true) (a : Addr) (cs : Addr) (n0 : Nat) (u1 : Value) (h0 : Heap) (Z0 : n0 ≤ h0.size) (X00 : Old Z n0 h0)(E_a : Exa Z h0 a "java/lang/String") (F0 : Fld Z h0 a "java/lang/String" "value" "[B" .null) (F1 : Fld Z h0 a "java/lang/String" "coder" "B" u1) (g_a : n0 ≤ a)(hh : Jvm.Lit.constHeld Z "java/lang/String" 7) (hcw : Jvm.Lit.compactW.before a0 Z = true) :
    Own.MetT l Z (⟨"java/lang/String", "<init>", "([CIILjava/lang/Void;)V"⟩ : MethodName) jdk_42_method_149_code 6 none [] ({ frames := 1, cells := 2, slots := 4, locals := 12 } : Room) #[(.ref a), (.ref cs), (.int (0 : Int32)), (.int (0 : Int32)), .null] h0 Z.vm.interned (fun v h L => v = none ∧ Fr n0 L ∧ Keep h0 h [a]) := by
  refine Own.MetT.of (plainFor_of_name (by first | (simp [plainName, overriddenIn]; done) | decide +kernel)) ?_
  intro p e s m below meth c T0 hx hby hml hown hnm hret hlk hZ X0 e0 hI hsh
  have hown : s.vm.findClass "java/lang/String" = some m.cls := hown
  have hml : c.maxLocals = 6 := hml
  have hnm : meth.name = "<init>" := hnm
  have ef : entryFrame m #[(.ref a), (.ref cs), (.int (0 : Int32)), (.int (0 : Int32)), .null] 6 = mkF m 0 #[.val (.ref a), .val (.ref cs), .val (.int (0 : Int32)), .val (.int (0 : Int32)), .val .null, .unset] [] := by first | (simp [entryFrame, mkF, argsToLocals, Value.category]; done) | rfl
  rw [ef]
  have N0 := Fr.nil n0
  have hSA : ∀ d ∈ Bundle.stringAtoms, d.before a0 Z = true := fun d hd => by
    obtain ⟨i, hi⟩ := List.getElem?_of_mem ((by decide +kernel : ∀ d ∈ Bundle.stringAtoms, d ∈ tables_1) d hd)
    exact w i hi
  refine Own.aloadN 1 X0 hx (hb hby d15_0) rfl rfl rfl ?_
  refine Own.initObj 4 0 X0 hx hZ hown (w 28 rfl) (w 29 rfl) (w 30 rfl) e0 (by rw [hml]; rfl) (hb hby d15_1) rfl (by decide) (Nat.le_of_eq rfl) (by decide) ?_
  intro T1 X1 e1
  refine Own.iloadN 5 X1 hx (hb hby d15_4) rfl rfl ?_
  refine Own.if_ne 27 8 X1 hx (hb hby d15_5) (by decide) rfl (fun tk => absurd tk (by decide)) (fun tk => ?_)
  refine Own.aloadN 9 X1 hx (hb hby d15_8) rfl rfl rfl ?_
  refine Own.ldcVal 11 0 X1 hx hZ hown (w 110 rfl) hSA e1 hI (Fr.nil _) (fun q cl r => by rw [hsh]; exact X00.2.2 q cl r) hh hcw (vs := []) (z := (0 : Int32)) (by decide) (by decide) (by decide) (hb hby d15_9) rfl (by decide) (by decide) (by decide) (by decide) ?_
  intro x T2 h2 b kb2 X2 e2 E2 hZ hown Ex2 Fc2 Fv2 Vb2 Lt2
  have K2 := (Keep.refl h0 [a]).ext E2
  have Ef_4 := E_a.ext E2
  have Ff_5 := F0.ext E2
  have Ff_6 := F1.ext E2
  have O2 := X00.ext E2
  have zl2 := Nat.le_trans Z0 E2.1
  have zk2 := Nat.le_refl h2.size
  have ne_a_x : a ≠ x := Fld.ne Ff_5 Fv2 (fun q => nomatch q)
  refine Own.getFld 14 X2 hx hZ hown (host := "") (Or.inl (w 31 rfl)) Via.refl e2 Fv2 (hb hby d15_11) rfl ?_
  intro T7 X7 e7
  refine Own.putFld 17 X7 hx hZ hown (host := "") (Or.inl (w 31 rfl)) Via.refl e7 Ff_5 Ef_4 (Or.inr ⟨(w 32 rfl), rfl, hnm⟩) (w 19 rfl) (ty := (.array .byte)) (by decide) rfl rfl (hb hby d15_14) rfl ?_
  intro T8 h8 X8 e8 W8
  have N8 := Fr.snoc X8 N0 g_a
  have Ef_10 := Ef_4.wr W8
  have Ff_11 := Ff_5.same W8
  have Ff_12 := Ff_6.other W8 (Or.inr (slot_ne (Or.inr (w 34 rfl)) (Or.inr (w 32 rfl)) (by decide) (t := .byte) (t' := (.array .byte)) (by decide) (by decide)))
  have Ef_13 := Ex2.wr W8
  have Ff_14 := Fc2.other W8 (Or.inl (Ne.symm ne_a_x))
  have Ff_15 := Fv2.other W8 (Or.inl (Ne.symm ne_a_x))
  have O8 := O2.wr W8 g_a
  have zl8 := Nat.le_trans zl2 (Nat.le_of_eq W8.size.symm)
  have zk8 := Nat.le_trans zk2 (Nat.le_of_eq W8.size.symm)
  have K8 := K2.wr W8 (Or.inl (List.mem_of_getElem? (i := 0) rfl))
  refine Own.aloadN 18 X8 hx (hb hby d15_17) rfl rfl rfl ?_
  refine Own.ldcRe 20 X8 hx hZ hown (w 110 rfl) Lt2 (hb hby d15_18) rfl ?_
  refine Own.getFld 23 X8 hx hZ hown (host := "") (Or.inl (w 33 rfl)) Via.refl e8 Ff_14 (hb hby d15_20) rfl ?_
  intro T16 X16 e16
  refine Own.putFld 26 X16 hx hZ hown (host := "") (Or.inl (w 33 rfl)) Via.refl e16 Ff_12 Ef_10 (Or.inr ⟨(w 34 rfl), rfl, hnm⟩) (w 19 rfl) (ty := .byte) (by decide) rfl rfl (hb hby d15_23) rfl ?_
  intro T17 h17 X17 e17 W17
  have N17 := Fr.snoc X17 N8 g_a
  have Ef_19 := Ef_10.wr W17
  have Ff_20 := Ff_11.other W17 (Or.inr (slot_ne (Or.inr (w 32 rfl)) (Or.inr (w 34 rfl)) (by decide) (t := (.array .byte)) (t' := .byte) (by decide) (by decide)))
  have Ff_21 := Ff_12.same W17
  have Ef_22 := Ef_13.wr W17
  have Ff_23 := Ff_14.other W17 (Or.inl (Ne.symm ne_a_x))
  have Ff_24 := Ff_15.other W17 (Or.inl (Ne.symm ne_a_x))
  have O17 := O8.wr W17 g_a
  have zl17 := Nat.le_trans zl8 (Nat.le_of_eq W17.size.symm)
  have zk17 := Nat.le_trans zk8 (Nat.le_of_eq W17.size.symm)
  have K17 := K8.wr W17 (Or.inl (List.mem_of_getElem? (i := 0) rfl))
  refine Own.retVoid X17 hx hlk hret (hb hby d15_26) (by decide) (by decide) ?_
  rw [e17]
  exact ⟨⟨rfl, N17, K17⟩, zk17⟩
theorem d14_0 : decode jdk_42_method_3_code 0 = .ok (.aload_n 0, 1) := by decide +kernel
theorem d14_1 : decode jdk_42_method_3_code 1 = .ok (.aload_n 1, 1) := by decide +kernel
theorem d14_2 : decode jdk_42_method_3_code 2 = .ok (.iconst 0, 1) := by decide +kernel
theorem d14_3 : decode jdk_42_method_3_code 3 = .ok (.aload_n 1, 1) := by decide +kernel
theorem d14_4 : decode jdk_42_method_3_code 4 = .ok (.arraylength, 1) := by decide +kernel
theorem d14_5 : decode jdk_42_method_3_code 5 = .ok (.aconst_null, 1) := by decide +kernel
theorem d14_6 : decode jdk_42_method_3_code 6 = .ok (.invokespecial 27, 3) := by decide +kernel
theorem d14_9 : decode jdk_42_method_3_code 9 = .ok (.return_, 1) := by decide +kernel
set_option maxRecDepth 65536 in
set_option maxHeartbeats 40000000 in
theorem m14 (l : Launch) (Z : State) (a0 : Array Value) (w : ∀ (i : Nat) {d : Jvm.Cond}, tables_1[i]? = some d → d.before a0 Z = true) (a : Addr) (cs : Addr) (n0 : Nat) (u1 : Value) (kc : ClassId) (h0 : Heap) (Z0 : n0 ≤ h0.size) (X00 : Old Z n0 h0)(E_a : Exa Z h0 a "java/lang/String") (F0 : Fld Z h0 a "java/lang/String" "value" "[B" .null) (F1 : Fld Z h0 a "java/lang/String" "coder" "B" u1) (g_a : n0 ≤ a)(V1 : Arv Z h0 cs kc .char (0 : Int32) [] (.int (0 : Int32)))(hh : Jvm.Lit.constHeld Z "java/lang/String" 7) (hcw : Jvm.Lit.compactW.before a0 Z = true) :
    Own.MetT l Z (⟨"java/lang/String", "<init>", "([C)V"⟩ : MethodName) jdk_42_method_3_code 2 none [] ({ frames := 2, cells := 2, slots := 4, locals := 29 } : Room) #[(.ref a), (.ref cs)] h0 Z.vm.interned (fun v h L => v = none ∧ Fr n0 L ∧ Keep h0 h [a]) := by
  refine Own.MetT.of (plainFor_of_name (by first | (simp [plainName, overriddenIn]; done) | decide +kernel)) ?_
  intro p e s m below meth c T0 hx hby hml hown hnm hret hlk hZ X0 e0 hI hsh
  have hown : s.vm.findClass "java/lang/String" = some m.cls := hown
  have hml : c.maxLocals = 2 := hml
  have hnm : meth.name = "<init>" := hnm
  have ef : entryFrame m #[(.ref a), (.ref cs)] 2 = mkF m 0 #[.val (.ref a), .val (.ref cs)] [] := by first | (simp [entryFrame, mkF, argsToLocals, Value.category]; done) | rfl
  rw [ef]
  have N0 := Fr.nil n0
  refine Own.aloadN 1 X0 hx (hb hby d14_0) rfl rfl rfl ?_
  refine Own.aloadN 2 X0 hx (hb hby d14_1) rfl rfl rfl ?_
  refine Own.iconst 3 X0 hx ((0 : Int32)) (hb hby d14_2) rfl rfl ?_
  refine Own.aloadN 4 X0 hx (hb hby d14_3) rfl rfl rfl ?_
  refine Own.arrLen 5 X0 hx hZ e0 V1 (hb hby d14_4) rfl ?_
  refine Own.aconstNull 6 X0 hx (hb hby d14_5) rfl ?_
  refine Own.callInitT 9 0 a [(.ref cs), (.int (0 : Int32)), (.int (0 : Int32)), .null] [] X0 hx hZ hown (m15 l Z a0 w a cs n0 u1 _ Z0 X00 E_a F0 F1 g_a hh hcw) hI rfl (w 97 rfl) (w 98 rfl) (w 11 rfl) (w 99 rfl) (by decide) e0 (by decide) (by decide) (by decide) (by decide) (by rw [hml]; rfl) (lenOf pd_3 rfl) rfl (Nat.le_of_eq rfl) (hb hby d14_6) rfl ?_
  rintro vv T1 L1 X1 ⟨rfl, N1q, K1⟩ hZ hown
  have N1 := Fr.app N0 N1q
  have O1 := X00.keep K1 (allS g_a all0)
  have Ef_3 := E_a.keep K1
  have zl1 := Nat.le_trans Z0 K1.1
  have KK1 := (Keep.refl h0 [a]).trans K1 (allS (Or.inl (List.mem_of_getElem? (i := 0) rfl)) all0)
  have zk1 := Nat.le_refl T1.heap.size
  refine Own.retVoid X1 hx hlk hret (hb hby d14_9) (by decide) (by decide) ?_
  exact ⟨⟨rfl, N1, KK1⟩, zk1⟩
theorem d8_0 : decode prog_33_method_2_code 0 = .ok (.aload_n 0, 1) := by decide +kernel
theorem d8_1 : decode prog_33_method_2_code 1 = .ok (.invokespecial 13, 3) := by decide +kernel
theorem d8_4 : decode prog_33_method_2_code 4 = .ok (.aload_n 0, 1) := by decide +kernel
theorem d8_5 : decode prog_33_method_2_code 5 = .ok (.aload_n 1, 1) := by decide +kernel
theorem d8_6 : decode prog_33_method_2_code 6 = .ok (.putfield 18, 3) := by decide +kernel
theorem d8_9 : decode prog_33_method_2_code 9 = .ok (.aload_n 0, 1) := by decide +kernel
theorem d8_10 : decode prog_33_method_2_code 10 = .ok (.aload_n 2, 1) := by decide +kernel
theorem d8_11 : decode prog_33_method_2_code 11 = .ok (.putfield 22, 3) := by decide +kernel
theorem d8_14 : decode prog_33_method_2_code 14 = .ok (.aload_n 0, 1) := by decide +kernel
theorem d8_15 : decode prog_33_method_2_code 15 = .ok (.aload_n 3, 1) := by decide +kernel
theorem d8_16 : decode prog_33_method_2_code 16 = .ok (.putfield 23, 3) := by decide +kernel
theorem d8_19 : decode prog_33_method_2_code 19 = .ok (.return_, 1) := by decide +kernel
set_option maxRecDepth 65536 in
set_option maxHeartbeats 40000000 in
theorem m8 (l : Launch) (Z : State) (a0 : Array Value) (w : ∀ (i : Nat) {d : Jvm.Cond}, tables_1[i]? = some d → d.before a0 Z = true) (a : Addr) (k : Addr) (q : Addr) (t : Addr) (n0 : Nat) (u0 u1 u2 : Value) (h0 : Heap) (Z0 : n0 ≤ h0.size) (X00 : Old Z n0 h0)(E_a : Exa Z h0 a "com/example/bindgate/bindgate/rules/Change") (F0 : Fld Z h0 a "com/example/bindgate/bindgate/rules/Change" "kind" "Lcom/example/bindgate/bindgate/rules/Change$Kind;" u0) (F1 : Fld Z h0 a "com/example/bindgate/bindgate/rules/Change" "changeClass" "Lcom/example/bindgate/bindgate/rules/ChangeClass;" u1) (F2 : Fld Z h0 a "com/example/bindgate/bindgate/rules/Change" "subject" "Ljava/lang/String;" u2) (g_a : n0 ≤ a) :
    Own.Met l Z (⟨"com/example/bindgate/bindgate/rules/Change", "<init>", "(Lcom/example/bindgate/bindgate/rules/Change$Kind;Lcom/example/bindgate/bindgate/rules/ChangeClass;Ljava/lang/String;)V"⟩ : MethodName) prog_33_method_2_code 4 none [] ({ frames := 1, cells := 0, slots := 0, locals := 12 } : Room) #[(.ref a), (.ref k), (.ref q), (.ref t)] h0 (fun v h L => v = none ∧ Fr n0 L ∧ Keep h0 h [a] ∧ Fld Z h a "com/example/bindgate/bindgate/rules/Change" "kind" "Lcom/example/bindgate/bindgate/rules/Change$Kind;" (.ref k) ∧ Fld Z h a "com/example/bindgate/bindgate/rules/Change" "changeClass" "Lcom/example/bindgate/bindgate/rules/ChangeClass;" (.ref q) ∧ Fld Z h a "com/example/bindgate/bindgate/rules/Change" "subject" "Ljava/lang/String;" (.ref t)) := by
  refine Own.Met.of (plainFor_of_name (by first | (simp [plainName, overriddenIn]; done) | decide +kernel)) ?_
  intro p e s m below meth c T0 hx hby hml hown hnm hret hlk hZ X0 e0
  have hown : s.vm.findClass "com/example/bindgate/bindgate/rules/Change" = some m.cls := hown
  have hml : c.maxLocals = 4 := hml
  have hnm : meth.name = "<init>" := hnm
  have ef : entryFrame m #[(.ref a), (.ref k), (.ref q), (.ref t)] 4 = mkF m 0 #[.val (.ref a), .val (.ref k), .val (.ref q), .val (.ref t)] [] := by first | (simp [entryFrame, mkF, argsToLocals, Value.category]; done) | rfl
  rw [ef]
  have N0 := Fr.nil n0
  refine Own.aloadN 1 X0 hx (hb hby d8_0) rfl rfl rfl ?_
  refine Own.initObj 4 0 X0 hx hZ hown (w 49 rfl) (w 29 rfl) (w 30 rfl) e0 (by rw [hml]; rfl) (hb hby d8_1) rfl (by decide) (Nat.le_of_eq rfl) (by decide) ?_
  intro T1 X1 e1
  refine Own.aloadN 5 X1 hx (hb hby d8_4) rfl rfl rfl ?_
  refine Own.aloadN 6 X1 hx (hb hby d8_5) rfl rfl rfl ?_
  refine Own.putFld 9 X1 hx hZ hown (host := "") (Or.inl (w 50 rfl)) Via.refl e1 F0 E_a (Or.inr ⟨(w 51 rfl), rfl, hnm⟩) (w 39 rfl) (ty := (.object "com/example/bindgate/bindgate/rules/Change$Kind")) (by decide) rfl rfl (hb hby d8_6) rfl ?_
  intro T2 h2 X2 e2 W2
  have N2 := Fr.snoc X2 N0 g_a
  have Ef_4 := E_a.wr W2
  have Ff_5 := F0.same W2
  have Ff_6 := F1.other W2 (Or.inr (slot_ne (Or.inr (w 53 rfl)) (Or.inr (w 51 rfl)) (by decide) (t := (.object "com/example/bindgate/bindgate/rules/ChangeClass")) (t' := (.object "com/example/bindgate/bindgate/rules/Change$Kind")) (by decide) (by decide)))
  have Ff_7 := F2.other W2 (Or.inr (slot_ne (Or.inr (w 55 rfl)) (Or.inr (w 51 rfl)) (by decide) (t := (.object "java/lang/String")) (t' := (.object "com/example/bindgate/bindgate/rules/Change$Kind")) (by decide) (by decide)))
  have O2 := X00.wr W2 g_a
  have zl2 := Nat.le_trans Z0 (Nat.le_of_eq W2.size.symm)
  have K2 := (Keep.refl h0 [a]).wr W2 (Or.inl (List.mem_of_getElem? (i := 0) rfl))
  refine Own.aloadN 10 X2 hx (hb hby d8_9) rfl rfl rfl ?_
  refine Own.aloadN 11 X2 hx (hb hby d8_10) rfl rfl rfl ?_
  refine Own.putFld 14 X2 hx hZ hown (host := "") (Or.inl (w 52 rfl)) Via.refl e2 Ff_6 Ef_4 (Or.inr ⟨(w 53 rfl), rfl, hnm⟩) (w 39 rfl) (ty := (.object "com/example/bindgate/bindgate/rules/ChangeClass")) (by decide) rfl rfl (hb hby d8_11) rfl ?_
  intro T8 h8 X8 e8 W8
  have N8 := Fr.snoc X8 N2 g_a
  have Ef_10 := Ef_4.wr W8
  have Ff_11 := Ff_5.other W8 (Or.inr (slot_ne (Or.inr (w 51 rfl)) (Or.inr (w 53 rfl)) (by decide) (t := (.object "com/example/bindgate/bindgate/rules/Change$Kind")) (t' := (.object "com/example/bindgate/bindgate/rules/ChangeClass")) (by decide) (by decide)))
  have Ff_12 := Ff_6.same W8
  have Ff_13 := Ff_7.other W8 (Or.inr (slot_ne (Or.inr (w 55 rfl)) (Or.inr (w 53 rfl)) (by decide) (t := (.object "java/lang/String")) (t' := (.object "com/example/bindgate/bindgate/rules/ChangeClass")) (by decide) (by decide)))
  have O8 := O2.wr W8 g_a
  have zl8 := Nat.le_trans zl2 (Nat.le_of_eq W8.size.symm)
  have K8 := K2.wr W8 (Or.inl (List.mem_of_getElem? (i := 0) rfl))
  refine Own.aloadN 15 X8 hx (hb hby d8_14) rfl rfl rfl ?_
  refine Own.aloadN 16 X8 hx (hb hby d8_15) rfl rfl rfl ?_
  refine Own.putFld 19 X8 hx hZ hown (host := "") (Or.inl (w 54 rfl)) Via.refl e8 Ff_13 Ef_10 (Or.inr ⟨(w 55 rfl), rfl, hnm⟩) (w 39 rfl) (ty := (.object "java/lang/String")) (by decide) rfl rfl (hb hby d8_16) rfl ?_
  intro T14 h14 X14 e14 W14
  have N14 := Fr.snoc X14 N8 g_a
  have Ef_16 := Ef_10.wr W14
  have Ff_17 := Ff_11.other W14 (Or.inr (slot_ne (Or.inr (w 51 rfl)) (Or.inr (w 55 rfl)) (by decide) (t := (.object "com/example/bindgate/bindgate/rules/Change$Kind")) (t' := (.object "java/lang/String")) (by decide) (by decide)))
  have Ff_18 := Ff_12.other W14 (Or.inr (slot_ne (Or.inr (w 53 rfl)) (Or.inr (w 55 rfl)) (by decide) (t := (.object "com/example/bindgate/bindgate/rules/ChangeClass")) (t' := (.object "java/lang/String")) (by decide) (by decide)))
  have Ff_19 := Ff_13.same W14
  have O14 := O8.wr W14 g_a
  have zl14 := Nat.le_trans zl8 (Nat.le_of_eq W14.size.symm)
  have K14 := K8.wr W14 (Or.inl (List.mem_of_getElem? (i := 0) rfl))
  refine Own.retVoid X14 hx hlk hret (hb hby d8_19) (by decide) (by decide) ?_
  rw [e14]
  exact ⟨rfl, N14, K14, Ff_17, Ff_18, Ff_19⟩
theorem d7_0 : decode prog_33_method_1_code 0 = .ok (.aload_n 0, 1) := by decide +kernel
theorem d7_1 : decode prog_33_method_1_code 1 = .ok (.aload_n 1, 1) := by decide +kernel
theorem d7_2 : decode prog_33_method_1_code 2 = .ok (.aload_n 1, 1) := by decide +kernel
theorem d7_3 : decode prog_33_method_1_code 3 = .ok (.getfield 1, 3) := by decide +kernel
theorem d7_6 : decode prog_33_method_1_code 6 = .ok (.aload_n 2, 1) := by decide +kernel
theorem d7_7 : decode prog_33_method_1_code 7 = .ok (.invokespecial 7, 3) := by decide +kernel
theorem d7_10 : decode prog_33_method_1_code 10 = .ok (.return_, 1) := by decide +kernel
set_option maxRecDepth 65536 in
set_option maxHeartbeats 40000000 in
theorem m7 (l : Launch) (Z : State) (a0 : Array Value) (w : ∀ (i : Nat) {d : Jvm.Cond}, tables_1[i]? = some d → d.before a0 Z = true) (a : Addr) (k : Addr) (t : Addr) (n0 : Nat) (q : Addr) (u0 u1 u2 : Value) (h0 : Heap) (Z0 : n0 ≤ h0.size) (X00 : Old Z n0 h0)(E_a : Exa Z h0 a "com/example/bindgate/bindgate/rules/Change") (F0 : Fld Z h0 a "com/example/bindgate/bindgate/rules/Change" "kind" "Lcom/example/bindgate/bindgate/rules/Change$Kind;" u0) (F1 : Fld Z h0 a "com/example/bindgate/bindgate/rules/Change" "changeClass" "Lcom/example/bindgate/bindgate/rules/ChangeClass;" u1) (F2 : Fld Z h0 a "com/example/bindgate/bindgate/rules/Change" "subject" "Ljava/lang/String;" u2) (g_a : n0 ≤ a)(Fq : Fld Z Z.heap k "com/example/bindgate/bindgate/rules/Change$Kind" "changeClass" "Lcom/example/bindgate/bindgate/rules/ChangeClass;" (.ref q)) :
    Own.Met l Z (⟨"com/example/bindgate/bindgate/rules/Change", "<init>", "(Lcom/example/bindgate/bindgate/rules/Change$Kind;Ljava/lang/String;)V"⟩ : MethodName) prog_33_method_1_code 3 none [] ({ frames := 2, cells := 0, slots := 0, locals := 27 } : Room) #[(.ref a), (.ref k), (.ref t)] h0 (fun v h L => v = none ∧ Fr n0 L ∧ Keep h0 h [a] ∧ Fld Z h a "com/example/bindgate/bindgate/rules/Change" "kind" "Lcom/example/bindgate/bindgate/rules/Change$Kind;" (.ref k) ∧ Fld Z h a "com/example/bindgate/bindgate/rules/Change" "changeClass" "Lcom/example/bindgate/bindgate/rules/ChangeClass;" (.ref q) ∧ Fld Z h a "com/example/bindgate/bindgate/rules/Change" "subject" "Ljava/lang/String;" (.ref t)) := by
  refine Own.Met.of (plainFor_of_name (by first | (simp [plainName, overriddenIn]; done) | decide +kernel)) ?_
  intro p e s m below meth c T0 hx hby hml hown hnm hret hlk hZ X0 e0
  have hown : s.vm.findClass "com/example/bindgate/bindgate/rules/Change" = some m.cls := hown
  have hml : c.maxLocals = 3 := hml
  have hnm : meth.name = "<init>" := hnm
  have ef : entryFrame m #[(.ref a), (.ref k), (.ref t)] 3 = mkF m 0 #[.val (.ref a), .val (.ref k), .val (.ref t)] [] := by first | (simp [entryFrame, mkF, argsToLocals, Value.category]; done) | rfl
  rw [ef]
  have N0 := Fr.nil n0
  refine Own.aloadN 1 X0 hx (hb hby d7_0) rfl rfl rfl ?_
  refine Own.aloadN 2 X0 hx (hb hby d7_1) rfl rfl rfl ?_
  refine Own.aloadN 3 X0 hx (hb hby d7_2) rfl rfl rfl ?_
  refine Own.getFldR 6 X0 hx hZ hown (w 44 rfl) e0 (Fq.ext X00.2) (hb hby d7_3) rfl ?_
  refine Own.aloadN 7 X0 hx (hb hby d7_6) rfl rfl rfl ?_
  refine Own.callInit 10 0 a [(.ref k), (.ref q), (.ref t)] [] X0 hx hZ hown (m8 l Z a0 w a k q t n0 _ _ _ _ Z0 X00 E_a F0 F1 F2 g_a) rfl (w 46 rfl) (w 47 rfl) (w 40 rfl) (w 48 rfl) (by decide) e0 (by decide) (by decide) (by decide) (by decide) (by rw [hml]; rfl) (lenOf pd_4 rfl) rfl (Nat.le_of_eq rfl) (hb hby d7_7) rfl ?_
  rintro vv T1 L1 X1 ⟨rfl, N1q, K1, Fa1, Fb1, Fc1⟩
  have N1 := Fr.app N0 N1q
  have O1 := X00.keep K1 (allS g_a all0)
  have Ef_3 := E_a.keep K1
  have zl1 := Nat.le_trans Z0 K1.1
  have KK1 := (Keep.refl h0 [a]).trans K1 (allS (Or.inl (List.mem_of_getElem? (i := 0) rfl)) all0)
  refine Own.retVoid X1 hx hlk hret (hb hby d7_10) (by decide) (by decide) ?_
  exact ⟨rfl, N1, KK1, Fa1, Fb1, Fc1⟩
theorem d9_0 : decode prog_33_method_3_code 0 = .ok (.new 8, 3) := by decide +kernel
theorem d9_3 : decode prog_33_method_3_code 3 = .ok (.dup, 1) := by decide +kernel
theorem d9_4 : decode prog_33_method_3_code 4 = .ok (.aload_n 0, 1) := by decide +kernel
theorem d9_5 : decode prog_33_method_3_code 5 = .ok (.getfield 18, 3) := by decide +kernel
theorem d9_8 : decode prog_33_method_3_code 8 = .ok (.getstatic 27, 3) := by decide +kernel
theorem d9_11 : decode prog_33_method_3_code 11 = .ok (.aload_n 0, 1) := by decide +kernel
theorem d9_12 : decode prog_33_method_3_code 12 = .ok (.getfield 23, 3) := by decide +kernel
theorem d9_15 : decode prog_33_method_3_code 15 = .ok (.invokespecial 7, 3) := by decide +kernel
theorem d9_18 : decode prog_33_method_3_code 18 = .ok (.areturn, 1) := by decide +kernel
set_option maxRecDepth 65536 in
set_option maxHeartbeats 40000000 in
theorem m9 (l : Launch) (Z : State) (a0 : Array Value) (w : ∀ (i : Nat) {d : Jvm.Cond}, tables_1[i]? = some d → d.before a0 Z = true) (a : Addr) (k q t ci : Addr) (n0 : Nat) (h0 : Heap) (Z0 : n0 ≤ h0.size) (X00 : Old Z n0 h0)(F0 : Fld Z h0 a "com/example/bindgate/bindgate/rules/Change" "kind" "Lcom/example/bindgate/bindgate/rules/Change$Kind;" (.ref k)) (F1 : Fld Z h0 a "com/example/bindgate/bindgate/rules/Change" "changeClass" "Lcom/example/bindgate/bindgate/rules/ChangeClass;" (.ref q)) (F2 : Fld Z h0 a "com/example/bindgate/bindgate/rules/Change" "subject" "Ljava/lang/String;" (.ref t))(SI : Sta Z Z.heap "com/example/bindgate/bindgate/rules/ChangeClass" "INCOMPATIBLE" "Lcom/example/bindgate/bindgate/rules/ChangeClass;" (.ref ci)) :
    Own.Met l Z (⟨"com/example/bindgate/bindgate/rules/Change", "asIncompatible", "()Lcom/example/bindgate/bindgate/rules/Change;"⟩ : MethodName) prog_33_method_3_code 1 (some (.object "com/example/bindgate/bindgate/rules/Change")) [] ({ frames := 2, cells := 1, slots := 3, locals := 28 } : Room) #[(.ref a)] h0 (fun v h L => ∃ r : Addr, v = some (.ref r) ∧ Fr n0 L ∧ Keep h0 h [] ∧ h0.size ≤ r ∧ n0 ≤ r ∧ Exa Z h r "com/example/bindgate/bindgate/rules/Change" ∧ Fld Z h r "com/example/bindgate/bindgate/rules/Change" "kind" "Lcom/example/bindgate/bindgate/rules/Change$Kind;" (.ref k) ∧ Fld Z h r "com/example/bindgate/bindgate/rules/Change" "changeClass" "Lcom/example/bindgate/bindgate/rules/ChangeClass;" (.ref ci) ∧ Fld Z h r "com/example/bindgate/bindgate/rules/Change" "subject" "Ljava/lang/String;" (.ref t)) := by
  refine Own.Met.of (plainFor_of_name (by first | (simp [plainName, overriddenIn]; done) | decide +kernel)) ?_
  intro p e s m below meth c T0 hx hby hml hown hnm hret hlk hZ X0 e0
  have hown : s.vm.findClass "com/example/bindgate/bindgate/rules/Change" = some m.cls := hown
  have hml : c.maxLocals = 1 := hml
  have hnm : meth.name = "asIncompatible" := hnm
  have ef : entryFrame m #[(.ref a)] 1 = mkF m 0 #[.val (.ref a)] [] := by first | (simp [entryFrame, mkF, argsToLocals, Value.category]; done) | rfl
  rw [ef]
  have N0 := Fr.nil n0
  refine Own.newObj 3 X0 hx hZ hown (w 61 rfl) (w 39 rfl) (w 40 rfl) e0 (hb hby d9_0) rfl (by decide) (by decide) ?_
  intro T1 h1 r z1 X1 e1 E1 A1 D1
  have ne_a_r : a ≠ r := Nat.ne_of_lt (Nat.lt_of_lt_of_le F0.lt (Nat.le_of_eq z1.symm))
  have g_r : n0 ≤ r := Nat.le_trans Z0 (Nat.le_of_eq z1.symm)
  have sz_r : h0.size ≤ r := Nat.le_trans (Keep.refl h0 []).1 (Nat.le_of_eq z1.symm)
  have K1 := (Keep.refl h0 []).ext E1
  have Ff_3 := F0.ext E1
  have Ff_4 := F1.ext E1
  have Ff_5 := F2.ext E1
  have O1 := X00.ext E1
  have zl1 := Nat.le_trans Z0 E1.1
  have F1_kind : Fld Z h1 r "com/example/bindgate/bindgate/rules/Change" "kind" "Lcom/example/bindgate/bindgate/rules/Change$Kind;" .null := D1 (Or.inr (w 51 rfl)) (ty := (.object "com/example/bindgate/bindgate/rules/Change$Kind")) (by decide)
  have F1_changeClass : Fld Z h1 r "com/example/bindgate/bindgate/rules/Change" "changeClass" "Lcom/example/bindgate/bindgate/rules/ChangeClass;" .null := D1 (Or.inr (w 53 rfl)) (ty := (.object "com/example/bindgate/bindgate/rules/ChangeClass")) (by decide)
  have F1_subject : Fld Z h1 r "com/example/bindgate/bindgate/rules/Change" "subject" "Ljava/lang/String;" .null := D1 (Or.inr (w 55 rfl)) (ty := (.object "java/lang/String")) (by decide)
  refine Own.dup 4 X1 hx (hb hby d9_3) rfl rfl ?_
  refine Own.aloadN 5 X1 hx (hb hby d9_4) rfl rfl rfl ?_
  refine Own.getFld 8 X1 hx hZ hown (host := "") (Or.inl (w 50 rfl)) Via.refl e1 Ff_3 (hb hby d9_5) rfl ?_
  intro T6 X6 e6
  refine Own.getSta 11 X6 hx hZ hown (host := "") (Or.inl (w 62 rfl)) Via.refl e6 (SI.ext O1.2) (hb hby d9_8) rfl ?_
  intro T7 X7 e7
  refine Own.aloadN 12 X7 hx (hb hby d9_11) rfl rfl rfl ?_
  refine Own.getFld 15 X7 hx hZ hown (host := "") (Or.inl (w 54 rfl)) Via.refl e7 Ff_5 (hb hby d9_12) rfl ?_
  intro T8 X8 e8
  refine Own.callInit 18 1 r [(.ref k), (.ref ci), (.ref t)] [(.ref r)] X8 hx hZ hown (m8 l Z a0 w r k ci t n0 _ _ _ _ zl1 O1 A1 F1_kind F1_changeClass F1_subject g_r) rfl (w 46 rfl) (w 47 rfl) (w 40 rfl) (w 48 rfl) (by decide) e8 (by decide) (by decide) (by decide) (by decide) (by rw [hml]; rfl) (lenOf pd_4 rfl) rfl (Nat.le_of_eq rfl) (hb hby d9_15) rfl ?_
  rintro vv T9 L9 X9 ⟨rfl, N9q, K9, Fa9, Fb9, Fc9⟩
  have N9 := Fr.app N0 N9q
  have O9 := O1.keep K9 (allS g_r all0)
  have Ef_11 := A1.keep K9
  have zl9 := Nat.le_trans zl1 K9.1
  have KK9 := K1.trans K9 (allS (Or.inr sz_r) all0)
  refine Own.retRef X9 hx hlk rfl hret rfl (hb hby d9_18) (by decide) (by decide) ?_
  exact ⟨r, rfl, N9, KK9, sz_r, g_r, Ef_11, Fa9, Fb9, Fc9⟩
theorem d10_0 : decode prog_33_method_4_code 0 = .ok (.aload_n 0, 1) := by decide +kernel
theorem d10_1 : decode prog_33_method_4_code 1 = .ok (.getfield 18, 3) := by decide +kernel
theorem d10_4 : decode prog_33_method_4_code 4 = .ok (.areturn, 1) := by decide +kernel
set_option maxRecDepth 65536 in
set_option maxHeartbeats 40000000 in
theorem m10 (l : Launch) (Z : State) (a0 : Array Value) (w : ∀ (i : Nat) {d : Jvm.Cond}, tables_1[i]? = some d → d.before a0 Z = true) (a : Addr) (x : Addr) (h0 : Heap) (F1 : Fld Z h0 a "com/example/bindgate/bindgate/rules/Change" "kind" "Lcom/example/bindgate/bindgate/rules/Change$Kind;" (.ref x)) :
    Own.Met l Z (⟨"com/example/bindgate/bindgate/rules/Change", "kind", "()Lcom/example/bindgate/bindgate/rules/Change$Kind;"⟩ : MethodName) prog_33_method_4_code 1 (some (.object "com/example/bindgate/bindgate/rules/Change$Kind")) [] ({ frames := 0, cells := 0, slots := 0, locals := 0 } : Room) #[(.ref a)] h0 (fun v h L => v = some (.ref x) ∧ h = h0 ∧ L = []) := by
  refine Own.Met.of (plainFor_of_name (by first | (simp [plainName, overriddenIn]; done) | decide +kernel)) ?_
  intro p e s m below meth c T0 hx hby hml hown hnm hret hlk hZ X0 e0
  have hown : s.vm.findClass "com/example/bindgate/bindgate/rules/Change" = some m.cls := hown
  have hml : c.maxLocals = 1 := hml
  have hnm : meth.name = "kind" := hnm
  have ef : entryFrame m #[(.ref a)] 1 = mkF m 0 #[.val (.ref a)] [] := by first | (simp [entryFrame, mkF, argsToLocals, Value.category]; done) | rfl
  rw [ef]
  refine Own.aloadN 1 X0 hx (hb hby d10_0) rfl rfl rfl ?_
  refine Own.getFld 4 X0 hx hZ hown (host := "") (Or.inl (w 50 rfl)) Via.refl e0 F1 (hb hby d10_1) rfl ?_
  intro T1 X1 e1
  refine Own.retRef X1 hx hlk rfl hret rfl (hb hby d10_4) (by decide) (by decide) ?_
  exact ⟨rfl, e1, rfl⟩
theorem d11_0 : decode prog_33_method_6_code 0 = .ok (.aload_n 0, 1) := by decide +kernel
theorem d11_1 : decode prog_33_method_6_code 1 = .ok (.getfield 23, 3) := by decide +kernel
theorem d11_4 : decode prog_33_method_6_code 4 = .ok (.areturn, 1) := by decide +kernel
set_option maxRecDepth 65536 in
set_option maxHeartbeats 40000000 in
theorem m11 (l : Launch) (Z : State) (a0 : Array Value) (w : ∀ (i : Nat) {d : Jvm.Cond}, tables_1[i]? = some d → d.before a0 Z = true) (a : Addr) (x : Addr) (h0 : Heap) (F1 : Fld Z h0 a "com/example/bindgate/bindgate/rules/Change" "subject" "Ljava/lang/String;" (.ref x)) :
    Own.Met l Z (⟨"com/example/bindgate/bindgate/rules/Change", "subject", "()Ljava/lang/String;"⟩ : MethodName) prog_33_method_6_code 1 (some (.object "java/lang/String")) [] ({ frames := 0, cells := 0, slots := 0, locals := 0 } : Room) #[(.ref a)] h0 (fun v h L => v = some (.ref x) ∧ h = h0 ∧ L = []) := by
  refine Own.Met.of (plainFor_of_name (by first | (simp [plainName, overriddenIn]; done) | decide +kernel)) ?_
  intro p e s m below meth c T0 hx hby hml hown hnm hret hlk hZ X0 e0
  have hown : s.vm.findClass "com/example/bindgate/bindgate/rules/Change" = some m.cls := hown
  have hml : c.maxLocals = 1 := hml
  have hnm : meth.name = "subject" := hnm
  have ef : entryFrame m #[(.ref a)] 1 = mkF m 0 #[.val (.ref a)] [] := by first | (simp [entryFrame, mkF, argsToLocals, Value.category]; done) | rfl
  rw [ef]
  refine Own.aloadN 1 X0 hx (hb hby d11_0) rfl rfl rfl ?_
  refine Own.getFld 4 X0 hx hZ hown (host := "") (Or.inl (w 54 rfl)) Via.refl e0 F1 (hb hby d11_1) rfl ?_
  intro T1 X1 e1
  refine Own.retRef X1 hx hlk rfl hret rfl (hb hby d11_4) (by decide) (by decide) ?_
  exact ⟨rfl, e1, rfl⟩
theorem d13_0 : decode prog_33_method_5_code 0 = .ok (.aload_n 0, 1) := by decide +kernel
theorem d13_1 : decode prog_33_method_5_code 1 = .ok (.getfield 22, 3) := by decide +kernel
theorem d13_4 : decode prog_33_method_5_code 4 = .ok (.areturn, 1) := by decide +kernel
set_option maxRecDepth 65536 in
set_option maxHeartbeats 40000000 in
theorem m13 (l : Launch) (Z : State) (a0 : Array Value) (w : ∀ (i : Nat) {d : Jvm.Cond}, tables_1[i]? = some d → d.before a0 Z = true) (a : Addr) (x : Addr) (h0 : Heap) (F1 : Fld Z h0 a "com/example/bindgate/bindgate/rules/Change" "changeClass" "Lcom/example/bindgate/bindgate/rules/ChangeClass;" (.ref x)) :
    Own.Met l Z (⟨"com/example/bindgate/bindgate/rules/Change", "changeClass", "()Lcom/example/bindgate/bindgate/rules/ChangeClass;"⟩ : MethodName) prog_33_method_5_code 1 (some (.object "com/example/bindgate/bindgate/rules/ChangeClass")) [] ({ frames := 0, cells := 0, slots := 0, locals := 0 } : Room) #[(.ref a)] h0 (fun v h L => v = some (.ref x) ∧ h = h0 ∧ L = []) := by
  refine Own.Met.of (plainFor_of_name (by first | (simp [plainName, overriddenIn]; done) | decide +kernel)) ?_
  intro p e s m below meth c T0 hx hby hml hown hnm hret hlk hZ X0 e0
  have hown : s.vm.findClass "com/example/bindgate/bindgate/rules/Change" = some m.cls := hown
  have hml : c.maxLocals = 1 := hml
  have hnm : meth.name = "changeClass" := hnm
  have ef : entryFrame m #[(.ref a)] 1 = mkF m 0 #[.val (.ref a)] [] := by first | (simp [entryFrame, mkF, argsToLocals, Value.category]; done) | rfl
  rw [ef]
  refine Own.aloadN 1 X0 hx (hb hby d13_0) rfl rfl rfl ?_
  refine Own.getFld 4 X0 hx hZ hown (host := "") (Or.inl (w 52 rfl)) Via.refl e0 F1 (hb hby d13_1) rfl ?_
  intro T1 X1 e1
  refine Own.retRef X1 hx hlk rfl hret rfl (hb hby d13_4) (by decide) (by decide) ?_
  exact ⟨rfl, e1, rfl⟩
theorem d12_0 : decode jdk_42_method_66_code 0 = .ok (.aload_n 0, 1) := by decide +kernel
theorem d12_1 : decode jdk_42_method_66_code 1 = .ok (.aload_n 1, 1) := by decide +kernel
theorem d12_2 : decode jdk_42_method_66_code 2 = .ok (.if_acmp .ne 5, 3) := by decide +kernel
theorem d12_5 : decode jdk_42_method_66_code 5 = .ok (.iconst 1, 1) := by decide +kernel
theorem d12_6 : decode jdk_42_method_66_code 6 = .ok (.ireturn, 1) := by decide +kernel
set_option maxRecDepth 65536 in
set_option maxHeartbeats 40000000 in
theorem m12 (l : Launch) (Z : State) (a0 : Array Value) (w : ∀ (i : Nat) {d : Jvm.Cond}, tables_1[i]? = some d → d.before a0 Z = true) (a : Addr) (a : Addr)  (h0 : Heap)  :
    Own.Met l Z (⟨"java/lang/String", "equals", "(Ljava/lang/Object;)Z"⟩ : MethodName) jdk_42_method_66_code 3 (some .boolean) [] ({ frames := 0, cells := 0, slots := 0, locals := 0 } : Room) #[(.ref a), (.ref a)] h0 (fun v h L => v = some (.int 1) ∧ h = h0 ∧ L = []) := by
  refine Own.Met.of (plainFor_of_name (by first | (simp [plainName, overriddenIn]; done) | decide +kernel)) ?_
  intro p e s m below meth c T0 hx hby hml hown hnm hret hlk hZ X0 e0
  have hown : s.vm.findClass "java/lang/String" = some m.cls := hown
  have hml : c.maxLocals = 3 := hml
  have hnm : meth.name = "equals" := hnm
  have ef : entryFrame m #[(.ref a), (.ref a)] 3 = mkF m 0 #[.val (.ref a), .val (.ref a), .unset] [] := by first | (simp [entryFrame, mkF, argsToLocals, Value.category]; done) | rfl
  rw [ef]
  refine Own.aloadN 1 X0 hx (hb hby d12_0) rfl rfl rfl ?_
  refine Own.aloadN 2 X0 hx (hb hby d12_1) rfl rfl rfl ?_
  refine Own.acmp_ne 7 5 X0 hx (hb hby d12_2) rfl rfl (by decide) rfl (fun q => ?_) (fun q => ?_)
  ·
    exact absurd rfl q
  ·
    refine Own.iconst 6 X0 hx ((1 : Int32)) (hb hby d12_5) rfl rfl ?_
    refine Own.retBool X0 hx hlk hret (hb hby d12_6) (by decide) (by decide) ?_
    exact ⟨rfl, e0, rfl⟩
set_option maxRecDepth 65536 in
set_option maxHeartbeats 40000000 in
theorem m0 (l : Launch) (Z : State) (a0 : Array Value) (w : ∀ (i : Nat) {d : Jvm.Cond}, tables_1[i]? = some d → d.before a0 Z = true) (x0 : Int32) (x1 : Int32) (x2 : Int32) (x3 : Int32) (k0 k1 k2 k3 k4 k5 k6 k7 k8 k9 k10 k11 k12 k13 k14 k15 k16 k17 k18 k19 : Addr) (cc ci : Addr) (z : Int32) (h0 : Heap) (n0 : Nat) (Z0 : n0 ≤ h0.size) (X00 : Old Z n0 h0)(KK : own_KS Z k0 k1 k2 k3 k4 k5 k6 k7 k8 k9 k10 k11 k12 k13 k14 k15 k16 k17 k18 k19) (KO : own_KO Z k0 k1 k2 k3 k4 k5 k6 k7 k8 k9 k10 k11 k12 k13 k14 k15 k16 k17 k18 k19 cc ci) (SI : Sta Z Z.heap "com/example/bindgate/bindgate/rules/ChangeClass" "INCOMPATIBLE" "Lcom/example/bindgate/bindgate/rules/ChangeClass;" (.ref ci)) (SM : Sta Z Z.heap "com/example/bindgate/bindgate/rules/ChangeClass" "COMPATIBLE" "Lcom/example/bindgate/bindgate/rules/ChangeClass;" (.ref cc)) (SC : Sta Z Z.heap "java/lang/String" "COMPACT_STRINGS" "Z" (.int z)) (hz : ¬ z = 0)(hh : Jvm.Lit.constHeld Z "java/lang/String" 7) (hcw : Jvm.Lit.compactW.before a0 Z = true) :
    Own.MetT l Z x code maxLocals ret tables_1 room_1 #[(.int x0), (.int x1), (.int x2), (.int x3)] h0 Z.vm.interned (fun v h L => v = some (.int 1) ∧ Fr n0 L) := by
  refine Own.MetT.of (plainFor_of_name (by first | (simp [plainName, overriddenIn]; done) | decide +kernel)) ?_
  intro p e s m below meth c T0 hx hby hml hown hnm hret hlk hZ X0 e0 hI hsh
  have hown : s.vm.findClass "com/example/bindgate/bindgate/rules/ChangeAsIncompatiblePinLaw" = some m.cls := hown
  have hml : c.maxLocals = 16 := hml
  have hnm : meth.name = "law" := hnm
  have hret : meth.sig.returnType = some .boolean := hret
  have ef : entryFrame m #[(.int x0), (.int x1), (.int x2), (.int x3)] maxLocals = mkF m 0 #[.val (.int x0), .val (.int x1), .val (.int x2), .val (.int x3), .unset, .unset, .unset, .unset, .unset, .unset, .unset, .unset, .unset, .unset, .unset, .unset] [] := by first | (simp [entryFrame, mkF, argsToLocals, Value.category, maxLocals]; done) | rfl
  rw [ef]
  have N0 := Fr.nil n0
  have hws : ∀ d ∈ StrChars.Road.words, d.before a0 Z = true := fun d hd => by
    obtain ⟨i, hi⟩ := List.getElem?_of_mem ((by decide +kernel : ∀ d ∈ StrChars.Road.words, d ∈ tables_1) d hd)
    exact w i hi
  refine Own.iloadN 1 X0 hx (hb hby at_0) rfl rfl ?_
  refine Own.ldcInt 3 X0 hx hZ ((2147483647 : Int32)) hown (w 0 rfl) (hb hby at_1) rfl ?_
  refine Own.iand 4 X0 hx (hb hby at_3) rfl rfl ?_
  refine Own.bipush 6 X0 hx ((20 : Int32)) (hb hby at_4) rfl rfl ?_
  refine Own.irem 7 X0 hx (hb hby at_6) rfl (by decide) rfl ?_
  refine Own.istore 9 (fun v4_7 => #[.val (.int x0), .val (.int x1), .val (.int x2), .val (.int x3), .val (.int v4_7), .unset, .unset, .unset, .unset, .unset, .unset, .unset, .unset, .unset, .unset, .unset]) X0 hx (hb hby at_7) rfl (fun _ => rfl) fun v4_7 hv4_7 => ?_
  refine Own.iload 11 X0 hx (hb hby at_9) rfl rfl ?_
  have B1 := own_rem20 x0
  rw [← hv4_7] at B1
  obtain ⟨k, q, hk, Fq, hq1, hq2⟩ := own_chg KO B1
  refine Own.callSt 14 0 [(.int v4_7)] [] X0 hx hZ hown (m1 l Z a0 w v4_7 k0 k1 k2 k3 k4 k5 k6 k7 k8 k9 k10 k11 k12 k13 k14 k15 k16 k17 k18 k19 n0 h0 X00 KK) (w 1 rfl) (w 2 rfl) (w 3 rfl) (w 4 rfl) (by decide) e0 (by decide) (by decide) (by decide) (by decide) (by rw [hml]; rfl) (lenOf pd_5 rfl) rfl (Nat.le_of_eq rfl) (hb hby at_11) rfl ?_
  rintro vv T1 L1 X1 ⟨hv, hh1, rfl⟩
  obtain rfl : vv = some (.ref k) := hv.trans (congrArg some hk)
  have N1' := Fr.app N0 (Fr.nil _)
  refine Own.astore 16 #[.val (.int x0), .val (.int x1), .val (.int x2), .val (.int x3), .val (.int v4_7), .val (.ref k), .unset, .unset, .unset, .unset, .unset, .unset, .unset, .unset, .unset, .unset] X1 hx (hb hby at_14) rfl rfl rfl ?_
  refine Own.iloadN 17 X1 hx (hb hby at_16) rfl rfl ?_
  refine Own.sipush 20 X1 hx ((255 : Int32)) (hb hby at_17) rfl rfl ?_
  refine Own.iand 21 X1 hx (hb hby at_20) rfl rfl ?_
  refine Own.i2c 22 X1 hx (hb hby at_21) rfl rfl ?_
  refine Own.istoreV 24 #[.val (.int x0), .val (.int x1), .val (.int x2), .val (.int x3), .val (.int v4_7), .val (.ref k), .val (.int ((x1 &&& (255 : Int32)).toUInt32.toUInt16.toUInt32.toInt32)), .unset, .unset, .unset, .unset, .unset, .unset, .unset, .unset, .unset] X1 hx (hb hby at_22) rfl rfl ?_
  refine Own.iloadN 25 X1 hx (hb hby at_24) rfl rfl ?_
  refine Own.sipush 28 X1 hx ((255 : Int32)) (hb hby at_25) rfl rfl ?_
  refine Own.iand 29 X1 hx (hb hby at_28) rfl rfl ?_
  refine Own.i2c 30 X1 hx (hb hby at_29) rfl rfl ?_
  refine Own.istoreV 32 #[.val (.int x0), .val (.int x1), .val (.int x2), .val (.int x3), .val (.int v4_7), .val (.ref k), .val (.int ((x1 &&& (255 : Int32)).toUInt32.toUInt16.toUInt32.toInt32)), .val (.int ((x2 &&& (255 : Int32)).toUInt32.toUInt16.toUInt32.toInt32)), .unset, .unset, .unset, .unset, .unset, .unset, .unset, .unset] X1 hx (hb hby at_30) rfl rfl ?_
  refine Own.iconst 33 X1 hx ((2 : Int32)) (hb hby at_32) rfl rfl ?_
  refine Own.newArr 35 2 X1 hx hZ (w 8 rfl) hh1 (by decide) (by decide) (by decide) (hb hby at_33) rfl (by decide) (by decide) ?_
  intro T2 h2 tw k2 z2 X2 e2 E2 A2
  have g_tw : n0 ≤ tw := Nat.le_trans Z0 (Nat.le_of_eq z2.symm)
  have O2 := X00.ext E2
  have zl2 := Nat.le_trans Z0 E2.1
  have V2 : Arv Z h2 tw k2 .char (2 : Int32) [(.int (0 : Int32)), (.int (0 : Int32))] (.int (0 : Int32)) := A2
  refine Own.dup 36 X2 hx (hb hby at_35) rfl rfl ?_
  refine Own.iconst 37 X2 hx ((0 : Int32)) (hb hby at_36) rfl rfl ?_
  refine Own.iload 39 X2 hx (hb hby at_37) rfl rfl ?_
  refine Own.castore 40 X2 hx hZ e2 V2 (by decide) (Nat.le_of_ble_eq_true rfl) (hb hby at_39) rfl ?_
  intro T4 h4 X4 e4 W4 A4
  have N4 := Fr.snoc X4 N1' g_tw
  have O4 := O2.wr W4 g_tw
  have zl4 := Nat.le_trans zl2 (Nat.le_of_eq W4.size.symm)
  have V4 : Arv Z h4 tw k2 .char (2 : Int32) [(.int (nar .char ((x1 &&& (255 : Int32)).toUInt32.toUInt16.toUInt32.toInt32))), (.int (0 : Int32))] (.int (0 : Int32)) := A4
  refine Own.dup 41 X4 hx (hb hby at_40) rfl rfl ?_
  refine Own.iconst 42 X4 hx ((1 : Int32)) (hb hby at_41) rfl rfl ?_
  refine Own.iload 44 X4 hx (hb hby at_42) rfl rfl ?_
  refine Own.castore 45 X4 hx hZ e4 V4 (by decide) (Nat.le_of_ble_eq_true rfl) (hb hby at_44) rfl ?_
  intro T7 h7 X7 e7 W7 A7
  have N7 := Fr.snoc X7 N4 g_tw
  have O7 := O4.wr W7 g_tw
  have zl7 := Nat.le_trans zl4 (Nat.le_of_eq W7.size.symm)
  have V7 : Arv Z h7 tw k2 .char (2 : Int32) [(.int (nar .char ((x1 &&& (255 : Int32)).toUInt32.toUInt16.toUInt32.toInt32))), (.int (nar .char ((x2 &&& (255 : Int32)).toUInt32.toUInt16.toUInt32.toInt32)))] (.int (0 : Int32)) := A7
  refine Own.astore 47 #[.val (.int x0), .val (.int x1), .val (.int x2), .val (.int x3), .val (.int v4_7), .val (.ref k), .val (.int ((x1 &&& (255 : Int32)).toUInt32.toUInt16.toUInt32.toInt32)), .val (.int ((x2 &&& (255 : Int32)).toUInt32.toUInt16.toUInt32.toInt32)), .val (.ref tw), .unset, .unset, .unset, .unset, .unset, .unset, .unset] X7 hx (hb hby at_45) rfl rfl rfl ?_
  refine Own.iconst 48 X7 hx ((0 : Int32)) (hb hby at_47) rfl rfl ?_
  refine Own.newArr 50 0 X7 hx hZ (w 8 rfl) e7 (by decide) (by decide) (by decide) (hb hby at_48) rfl (by decide) (by decide) ?_
  intro T10 h10 no k10 z10 X10 e10 E10 A10
  have ne_tw_no : tw ≠ no := Nat.ne_of_lt (Nat.lt_of_lt_of_le V7.lt (Nat.le_of_eq z10.symm))
  have g_no : n0 ≤ no := Nat.le_trans zl7 (Nat.le_of_eq z10.symm)
  have Vf_12 := V7.ext E10
  have O10 := O7.ext E10
  have zl10 := Nat.le_trans zl7 E10.1
  have V10 : Arv Z h10 no k10 .char (0 : Int32) [] (.int (0 : Int32)) := A10
  refine Own.astore 52 #[.val (.int x0), .val (.int x1), .val (.int x2), .val (.int x3), .val (.int v4_7), .val (.ref k), .val (.int ((x1 &&& (255 : Int32)).toUInt32.toUInt16.toUInt32.toInt32)), .val (.int ((x2 &&& (255 : Int32)).toUInt32.toUInt16.toUInt32.toInt32)), .val (.ref tw), .val (.ref no), .unset, .unset, .unset, .unset, .unset, .unset] X10 hx (hb hby at_50) rfl rfl rfl ?_
  refine Own.iloadN 53 X10 hx (hb hby at_52) rfl rfl ?_
  refine Own.ldcInt 55 X10 hx hZ ((2147483647 : Int32)) hown (w 0 rfl) (hb hby at_53) rfl ?_
  refine Own.iand 56 X10 hx (hb hby at_55) rfl rfl ?_
  refine Own.iconst 57 X10 hx ((3 : Int32)) (hb hby at_56) rfl rfl ?_
  refine Own.irem 58 X10 hx (hb hby at_57) rfl (by decide) rfl ?_
  refine Own.istore 60 (fun v10_58 => #[.val (.int x0), .val (.int x1), .val (.int x2), .val (.int x3), .val (.int v4_7), .val (.ref k), .val (.int ((x1 &&& (255 : Int32)).toUInt32.toUInt16.toUInt32.toInt32)), .val (.int ((x2 &&& (255 : Int32)).toUInt32.toUInt16.toUInt32.toInt32)), .val (.ref tw), .val (.ref no), .val (.int v10_58), .unset, .unset, .unset, .unset, .unset]) X10 hx (hb hby at_58) rfl (fun _ => rfl) fun v10_58 hv10_58 => ?_
  refine Own.iload 62 X10 hx (hb hby at_60) rfl rfl ?_
  have B2 := own_three x3
  rw [← hv10_58] at B2
  have J100 : ∀ (st : Addr) (s1 : State) (kk1 : Nat) (T1 : State) (Lc : List Loc) (X1 : Stand p l e room_1 s1 m #[(.int x0), (.int x1), (.int x2), (.int x3)] below meth c T1 Lc 5 10) (hZ : Z.Warmed39 s1.vm) (hown : s1.vm.findClass "com/example/bindgate/bindgate/rules/ChangeAsIncompatiblePinLaw" = some m.cls) (N1 : Fr n0 Lc) (O1 : Old Z n0 T1.heap) (z1 : n0 ≤ T1.heap.size) (zk1 : kk1 ≤ T1.heap.size) (Es : Exa Z T1.heap st "java/lang/String"), Own.Ends p.tables e below (fun v hh L => (fun v h L => v = some (.int 1) ∧ Fr n0 L) v hh L ∧ kk1 ≤ hh.size) (Own.FE s1 room_1.cells room_1.slots) (T1.setTop (mkF m 100 #[.val (.int x0), .val (.int x1), .val (.int x2), .val (.int x3), .val (.int v4_7), .val (.ref k), .val (.int ((x1 &&& (255 : Int32)).toUInt32.toUInt16.toUInt32.toInt32)), .val (.int ((x2 &&& (255 : Int32)).toUInt32.toUInt16.toUInt32.toInt32)), .val (.ref tw), .val (.ref no), .val (.int v10_58), .unset, .unset, .unset, .unset, .unset] [(.ref st)])) := by
    intro st s1 kk1 T1 Lc X1 hZ hown N1 O1 z1 zk1 Es
    refine Own.astore 102 #[.val (.int x0), .val (.int x1), .val (.int x2), .val (.int x3), .val (.int v4_7), .val (.ref k), .val (.int ((x1 &&& (255 : Int32)).toUInt32.toUInt16.toUInt32.toInt32)), .val (.int ((x2 &&& (255 : Int32)).toUInt32.toUInt16.toUInt32.toInt32)), .val (.ref tw), .val (.ref no), .val (.int v10_58), .val (.ref st), .unset, .unset, .unset, .unset] X1 hx (hb hby at_100) rfl rfl rfl ?_
    refine Own.iload 104 X1 hx (hb hby at_102) rfl rfl ?_
    refine Own.iconst 105 X1 hx ((1 : Int32)) (hb hby at_104) rfl rfl ?_
    have J129 : ∀ (hC : own_cmp v4_7), Own.Ends p.tables e below (fun v hh L => (fun v h L => v = some (.int 1) ∧ Fr n0 L) v hh L ∧ kk1 ≤ hh.size) (Own.FE s1 room_1.cells room_1.slots) (T1.setTop (mkF m 129 #[.val (.int x0), .val (.int x1), .val (.int x2), .val (.int x3), .val (.int v4_7), .val (.ref k), .val (.int ((x1 &&& (255 : Int32)).toUInt32.toUInt16.toUInt32.toInt32)), .val (.int ((x2 &&& (255 : Int32)).toUInt32.toUInt16.toUInt32.toInt32)), .val (.ref tw), .val (.ref no), .val (.int v10_58), .val (.ref st), .unset, .unset, .unset, .unset] [])) := by
      intro hC
      refine Own.iconst 130 X1 hx ((1 : Int32)) (hb hby at_129) rfl rfl ?_
      refine Own.goto 134 X1 hx (hb hby at_130) (by decide) ?_
      refine Own.istoreV 136 #[.val (.int x0), .val (.int x1), .val (.int x2), .val (.int x3), .val (.int v4_7), .val (.ref k), .val (.int ((x1 &&& (255 : Int32)).toUInt32.toUInt16.toUInt32.toInt32)), .val (.int ((x2 &&& (255 : Int32)).toUInt32.toUInt16.toUInt32.toInt32)), .val (.ref tw), .val (.ref no), .val (.int v10_58), .val (.ref st), .val (.int (1 : Int32)), .unset, .unset, .unset] X1 hx (hb hby at_134) rfl rfl ?_
      refine Own.iload 138 X1 hx (hb hby at_136) rfl rfl ?_
      refine Own.if_eq 147 141 X1 hx (hb hby at_138) (by decide) rfl (fun tk => absurd tk (by decide)) (fun tk => ?_)
      refine Own.getSta 144 X1 hx hZ hown (host := "") (Or.inl (w 87 rfl)) Via.refl rfl (SM.ext O1.2) (hb hby at_141) rfl ?_
      intro T13 X13 e13
      refine Own.goto 150 X13 hx (hb hby at_144) (by decide) ?_
      refine Own.astore 152 #[.val (.int x0), .val (.int x1), .val (.int x2), .val (.int x3), .val (.int v4_7), .val (.ref k), .val (.int ((x1 &&& (255 : Int32)).toUInt32.toUInt16.toUInt32.toInt32)), .val (.int ((x2 &&& (255 : Int32)).toUInt32.toUInt16.toUInt32.toInt32)), .val (.ref tw), .val (.ref no), .val (.int v10_58), .val (.ref st), .val (.int (1 : Int32)), .val (.ref cc), .unset, .unset] X13 hx (hb hby at_150) rfl rfl rfl ?_
      obtain rfl : cc = q := (hq1 hC).symm
      refine Own.newObj 155 X13 hx hZ hown (w 38 rfl) (w 39 rfl) (w 40 rfl) e13 (hb hby at_152) rfl (by decide) (by decide) ?_
      intro T14 h14 ch z14 X14 e14 E14 A14 D14
      have ne_st_ch : st ≠ ch := Nat.ne_of_lt (Nat.lt_of_lt_of_le Es.lt (Nat.le_of_eq z14.symm))
      have g_ch : n0 ≤ ch := Nat.le_trans z1 (Nat.le_of_eq z14.symm)
      have Ef_16 := Es.ext E14
      have O14 := O1.ext E14
      have zl14 := Nat.le_trans z1 E14.1
      have zk14 := Nat.le_trans zk1 E14.1
      have F14_kind : Fld Z h14 ch "com/example/bindgate/bindgate/rules/Change" "kind" "Lcom/example/bindgate/bindgate/rules/Change$Kind;" .null := D14 (Or.inr (w 51 rfl)) (ty := (.object "com/example/bindgate/bindgate/rules/Change$Kind")) (by decide)
      have F14_changeClass : Fld Z h14 ch "com/example/bindgate/bindgate/rules/Change" "changeClass" "Lcom/example/bindgate/bindgate/rules/ChangeClass;" .null := D14 (Or.inr (w 53 rfl)) (ty := (.object "com/example/bindgate/bindgate/rules/ChangeClass")) (by decide)
      have F14_subject : Fld Z h14 ch "com/example/bindgate/bindgate/rules/Change" "subject" "Ljava/lang/String;" .null := D14 (Or.inr (w 55 rfl)) (ty := (.object "java/lang/String")) (by decide)
      refine Own.dup 156 X14 hx (hb hby at_155) rfl rfl ?_
      refine Own.aload 158 X14 hx (hb hby at_156) rfl rfl rfl ?_
      refine Own.aload 160 X14 hx (hb hby at_158) rfl rfl rfl ?_
      refine Own.callInit 163 1 ch [(.ref k), (.ref st)] [(.ref ch)] X14 hx hZ hown (m7 l Z a0 w ch k st n0 cc _ _ _ _ zl14 O14 A14 F14_kind F14_changeClass F14_subject g_ch Fq) rfl (w 41 rfl) (w 42 rfl) (w 40 rfl) (w 43 rfl) (by decide) e14 (by decide) (by decide) (by decide) (by decide) (by rw [hml]; rfl) (lenOf pd_6 rfl) rfl (Nat.le_of_eq rfl) (hb hby at_160) rfl ?_
      rintro vv T17 L17 X17 ⟨rfl, N17q, K17, Fa17, Fb17, Fc17⟩
      have N17 := Fr.app N1 N17q
      have O17 := O14.keep K17 (allS g_ch all0)
      have Ef_19 := Ef_16.keep K17
      have Ef_20 := A14.keep K17
      have zl17 := Nat.le_trans zl14 K17.1
      have zk17 := Nat.le_trans zk14 K17.1
      refine Own.astore 165 #[.val (.int x0), .val (.int x1), .val (.int x2), .val (.int x3), .val (.int v4_7), .val (.ref k), .val (.int ((x1 &&& (255 : Int32)).toUInt32.toUInt16.toUInt32.toInt32)), .val (.int ((x2 &&& (255 : Int32)).toUInt32.toUInt16.toUInt32.toInt32)), .val (.ref tw), .val (.ref no), .val (.int v10_58), .val (.ref st), .val (.int (1 : Int32)), .val (.ref cc), .val (.ref ch), .unset] X17 hx (hb hby at_163) rfl rfl rfl ?_
      refine Own.aload 167 X17 hx (hb hby at_165) rfl rfl rfl ?_
      refine Own.callVt 170 0 ch [] [] X17 hx hZ hown (m9 l Z a0 w ch k cc st ci n0 _ zl17 O17 Fa17 Fb17 Fc17 SI) Ef_20 (notFace_of_selects (args := #[]) (mvT hZ (w 59 rfl))) (w 56 rfl) (w 57 rfl) (w 59 rfl) (w 58 rfl) (w 40 rfl) (w 60 rfl) (by decide) rfl (by decide) (by decide) (by decide) (by decide) (by rw [hml]; rfl) (lenOf pd_7 rfl) rfl (Nat.le_of_eq rfl) (hb hby at_167) rfl ?_
      rintro vv T21 L21 X21 ⟨r, rfl, N21q, K21, sz_r, g_r, E_r, Ra21, Rb21, Rc21⟩
      have N21 := Fr.app N17 N21q
      have O21 := O17.keep K21 all0
      have Ef_23 := Ef_19.keep K21
      have Ef_24 := Ef_20.keep K21
      have Ff_25 := Fa17.keep K21 nin0
      have Ff_26 := Fb17.keep K21 nin0
      have Ff_27 := Fc17.keep K21 nin0
      have zl21 := Nat.le_trans zl17 K21.1
      have zk21 := Nat.le_trans zk17 K21.1
      refine Own.astore 172 #[.val (.int x0), .val (.int x1), .val (.int x2), .val (.int x3), .val (.int v4_7), .val (.ref k), .val (.int ((x1 &&& (255 : Int32)).toUInt32.toUInt16.toUInt32.toInt32)), .val (.int ((x2 &&& (255 : Int32)).toUInt32.toUInt16.toUInt32.toInt32)), .val (.ref tw), .val (.ref no), .val (.int v10_58), .val (.ref st), .val (.int (1 : Int32)), .val (.ref cc), .val (.ref ch), .val (.ref r)] X21 hx (hb hby at_170) rfl rfl rfl ?_
      refine Own.aload 174 X21 hx (hb hby at_172) rfl rfl rfl ?_
      refine Own.callVt 177 0 r [] [] X21 hx hZ hown (m10 l Z a0 w r k _ Ra21) E_r (notFace_of_selects (args := #[]) (mvT hZ (w 66 rfl))) (w 63 rfl) (w 64 rfl) (w 66 rfl) (w 65 rfl) (w 40 rfl) (w 67 rfl) (by decide) rfl (by decide) (by decide) (by decide) (by decide) (by rw [hml]; rfl) (lenOf pd_8 rfl) rfl (Nat.le_of_eq rfl) (hb hby at_174) rfl ?_
      rintro vv T28 L28 X28 ⟨rfl, hh28, rfl⟩
      have N28 := Fr.app N21 (Fr.nil _)
      refine Own.aload 179 X28 hx (hb hby at_177) rfl rfl rfl ?_
      refine Own.acmp_ne 243 182 X28 hx (hb hby at_179) rfl rfl (by decide) rfl (fun u => ?_) (fun u => ?_)
      ·
        exact absurd rfl u
      ·
        refine Own.aload 184 X28 hx (hb hby at_182) rfl rfl rfl ?_
        refine Own.callVt 187 0 r [] [] X28 hx hZ hown (m11 l Z a0 w r st _ Rc21) E_r (notFace_of_selects (args := #[]) (mvT hZ (w 71 rfl))) (w 68 rfl) (w 69 rfl) (w 71 rfl) (w 70 rfl) (w 40 rfl) (w 72 rfl) (by decide) hh28 (by decide) (by decide) (by decide) (by decide) (by rw [hml]; rfl) (lenOf pd_9 rfl) rfl (Nat.le_of_eq rfl) (hb hby at_184) rfl ?_
        rintro vv T29 L29 X29 ⟨rfl, hh29, rfl⟩
        have N29 := Fr.app N28 (Fr.nil _)
        refine Own.aload 189 X29 hx (hb hby at_187) rfl rfl rfl ?_
        refine Own.callVt 192 0 st [(.ref st)] [] X29 hx hZ hown (m12 l Z a0 w st st _) Ef_23 (notFace_of_selects (args := #[]) (mvT hZ (w 76 rfl))) (w 73 rfl) (w 74 rfl) (w 76 rfl) (w 75 rfl) (w 11 rfl) (w 77 rfl) (by decide) hh29 (by decide) (by decide) (by decide) (by decide) (by rw [hml]; rfl) (lenOf pd_10 rfl) rfl (Nat.le_of_eq rfl) (hb hby at_189) rfl ?_
        rintro vv T30 L30 X30 ⟨rfl, hh30, rfl⟩
        have N30 := Fr.app N29 (Fr.nil _)
        refine Own.if_eq 243 195 X30 hx (hb hby at_192) (by decide) rfl (fun tk => absurd tk (by decide)) (fun tk => ?_)
        refine Own.aload 197 X30 hx (hb hby at_195) rfl rfl rfl ?_
        refine Own.callVt 200 0 r [] [] X30 hx hZ hown (m13 l Z a0 w r ci _ Rb21) E_r (notFace_of_selects (args := #[]) (mvT hZ (w 81 rfl))) (w 78 rfl) (w 79 rfl) (w 81 rfl) (w 80 rfl) (w 40 rfl) (w 82 rfl) (by decide) hh30 (by decide) (by decide) (by decide) (by decide) (by rw [hml]; rfl) (lenOf pd_11 rfl) rfl (Nat.le_of_eq rfl) (hb hby at_197) rfl ?_
        rintro vv T31 L31 X31 ⟨rfl, hh31, rfl⟩
        have N31 := Fr.app N30 (Fr.nil _)
        refine Own.getSta 203 X31 hx hZ hown (host := "") (Or.inl (w 35 rfl)) Via.refl hh31 (SI.ext O21.2) (hb hby at_200) rfl ?_
        intro T32 X32 e32
        refine Own.acmp_ne 243 206 X32 hx (hb hby at_203) rfl rfl (by decide) rfl (fun u => ?_) (fun u => ?_)
        ·
          exact absurd rfl u
        ·
          refine Own.aload 208 X32 hx (hb hby at_206) rfl rfl rfl ?_
          refine Own.callVt 211 0 ch [] [] X32 hx hZ hown (m10 l Z a0 w ch k _ Ff_25) Ef_24 (notFace_of_selects (args := #[]) (mvT hZ (w 66 rfl))) (w 63 rfl) (w 64 rfl) (w 66 rfl) (w 65 rfl) (w 40 rfl) (w 67 rfl) (by decide) e32 (by decide) (by decide) (by decide) (by decide) (by rw [hml]; rfl) (lenOf pd_8 rfl) rfl (Nat.le_of_eq rfl) (hb hby at_208) rfl ?_
          rintro vv T33 L33 X33 ⟨rfl, hh33, rfl⟩
          have N33 := Fr.app N31 (Fr.nil _)
          refine Own.aload 213 X33 hx (hb hby at_211) rfl rfl rfl ?_
          refine Own.acmp_ne 243 216 X33 hx (hb hby at_213) rfl rfl (by decide) rfl (fun u => ?_) (fun u => ?_)
          ·
            exact absurd rfl u
          ·
            refine Own.aload 218 X33 hx (hb hby at_216) rfl rfl rfl ?_
            refine Own.callVt 221 0 ch [] [] X33 hx hZ hown (m11 l Z a0 w ch st _ Ff_27) Ef_24 (notFace_of_selects (args := #[]) (mvT hZ (w 71 rfl))) (w 68 rfl) (w 69 rfl) (w 71 rfl) (w 70 rfl) (w 40 rfl) (w 72 rfl) (by decide) hh33 (by decide) (by decide) (by decide) (by decide) (by rw [hml]; rfl) (lenOf pd_9 rfl) rfl (Nat.le_of_eq rfl) (hb hby at_218) rfl ?_
            rintro vv T34 L34 X34 ⟨rfl, hh34, rfl⟩
            have N34 := Fr.app N33 (Fr.nil _)
            refine Own.aload 223 X34 hx (hb hby at_221) rfl rfl rfl ?_
            refine Own.callVt 226 0 st [(.ref st)] [] X34 hx hZ hown (m12 l Z a0 w st st _) Ef_23 (notFace_of_selects (args := #[]) (mvT hZ (w 76 rfl))) (w 73 rfl) (w 74 rfl) (w 76 rfl) (w 75 rfl) (w 11 rfl) (w 77 rfl) (by decide) hh34 (by decide) (by decide) (by decide) (by decide) (by rw [hml]; rfl) (lenOf pd_10 rfl) rfl (Nat.le_of_eq rfl) (hb hby at_223) rfl ?_
            rintro vv T35 L35 X35 ⟨rfl, hh35, rfl⟩
            have N35 := Fr.app N34 (Fr.nil _)
            refine Own.if_eq 243 229 X35 hx (hb hby at_226) (by decide) rfl (fun tk => absurd tk (by decide)) (fun tk => ?_)
            refine Own.aload 231 X35 hx (hb hby at_229) rfl rfl rfl ?_
            refine Own.callVt 234 0 ch [] [] X35 hx hZ hown (m13 l Z a0 w ch cc _ Ff_26) Ef_24 (notFace_of_selects (args := #[]) (mvT hZ (w 81 rfl))) (w 78 rfl) (w 79 rfl) (w 81 rfl) (w 80 rfl) (w 40 rfl) (w 82 rfl) (by decide) hh35 (by decide) (by decide) (by decide) (by decide) (by rw [hml]; rfl) (lenOf pd_11 rfl) rfl (Nat.le_of_eq rfl) (hb hby at_231) rfl ?_
            rintro vv T36 L36 X36 ⟨rfl, hh36, rfl⟩
            have N36 := Fr.app N35 (Fr.nil _)
            refine Own.aload 236 X36 hx (hb hby at_234) rfl rfl rfl ?_
            refine Own.acmp_ne 243 239 X36 hx (hb hby at_236) rfl rfl (by decide) rfl (fun u => ?_) (fun u => ?_)
            ·
              exact absurd rfl u
            ·
              refine Own.iconst 240 X36 hx ((1 : Int32)) (hb hby at_239) rfl rfl ?_
              refine Own.goto 244 X36 hx (hb hby at_240) (by decide) ?_
              refine Own.retBool X36 hx hlk hret (hb hby at_244) (by decide) (by decide) ?_
              exact ⟨⟨rfl, N36⟩, by rw [hh36]; exact zk21⟩
    have J133 : ∀ (hC : ¬ own_cmp v4_7), Own.Ends p.tables e below (fun v hh L => (fun v h L => v = some (.int 1) ∧ Fr n0 L) v hh L ∧ kk1 ≤ hh.size) (Own.FE s1 room_1.cells room_1.slots) (T1.setTop (mkF m 133 #[.val (.int x0), .val (.int x1), .val (.int x2), .val (.int x3), .val (.int v4_7), .val (.ref k), .val (.int ((x1 &&& (255 : Int32)).toUInt32.toUInt16.toUInt32.toInt32)), .val (.int ((x2 &&& (255 : Int32)).toUInt32.toUInt16.toUInt32.toInt32)), .val (.ref tw), .val (.ref no), .val (.int v10_58), .val (.ref st), .unset, .unset, .unset, .unset] [])) := by
      intro hC
      refine Own.iconst 134 X1 hx ((0 : Int32)) (hb hby at_133) rfl rfl ?_
      refine Own.istoreV 136 #[.val (.int x0), .val (.int x1), .val (.int x2), .val (.int x3), .val (.int v4_7), .val (.ref k), .val (.int ((x1 &&& (255 : Int32)).toUInt32.toUInt16.toUInt32.toInt32)), .val (.int ((x2 &&& (255 : Int32)).toUInt32.toUInt16.toUInt32.toInt32)), .val (.ref tw), .val (.ref no), .val (.int v10_58), .val (.ref st), .val (.int (0 : Int32)), .unset, .unset, .unset] X1 hx (hb hby at_134) rfl rfl ?_
      refine Own.iload 138 X1 hx (hb hby at_136) rfl rfl ?_
      refine Own.if_eq 147 141 X1 hx (hb hby at_138) (by decide) rfl (fun tk => ?_) (fun tk => absurd tk (by decide))
      refine Own.getSta 150 X1 hx hZ hown (host := "") (Or.inl (w 35 rfl)) Via.refl rfl (SI.ext O1.2) (hb hby at_147) rfl ?_
      intro T37 X37 e37
      refine Own.astore 152 #[.val (.int x0), .val (.int x1), .val (.int x2), .val (.int x3), .val (.int v4_7), .val (.ref k), .val (.int ((x1 &&& (255 : Int32)).toUInt32.toUInt16.toUInt32.toInt32)), .val (.int ((x2 &&& (255 : Int32)).toUInt32.toUInt16.toUInt32.toInt32)), .val (.ref tw), .val (.ref no), .val (.int v10_58), .val (.ref st), .val (.int (0 : Int32)), .val (.ref ci), .unset, .unset] X37 hx (hb hby at_150) rfl rfl rfl ?_
      obtain rfl : ci = q := (hq2 hC).symm
      refine Own.newObj 155 X37 hx hZ hown (w 38 rfl) (w 39 rfl) (w 40 rfl) e37 (hb hby at_152) rfl (by decide) (by decide) ?_
      intro T38 h38 ch z38 X38 e38 E38 A38 D38
      have ne_st_ch : st ≠ ch := Nat.ne_of_lt (Nat.lt_of_lt_of_le Es.lt (Nat.le_of_eq z38.symm))
      have g_ch : n0 ≤ ch := Nat.le_trans z1 (Nat.le_of_eq z38.symm)
      have Ef_40 := Es.ext E38
      have O38 := O1.ext E38
      have zl38 := Nat.le_trans z1 E38.1
      have zk38 := Nat.le_trans zk1 E38.1
      have F38_kind : Fld Z h38 ch "com/example/bindgate/bindgate/rules/Change" "kind" "Lcom/example/bindgate/bindgate/rules/Change$Kind;" .null := D38 (Or.inr (w 51 rfl)) (ty := (.object "com/example/bindgate/bindgate/rules/Change$Kind")) (by decide)
      have F38_changeClass : Fld Z h38 ch "com/example/bindgate/bindgate/rules/Change" "changeClass" "Lcom/example/bindgate/bindgate/rules/ChangeClass;" .null := D38 (Or.inr (w 53 rfl)) (ty := (.object "com/example/bindgate/bindgate/rules/ChangeClass")) (by decide)
      have F38_subject : Fld Z h38 ch "com/example/bindgate/bindgate/rules/Change" "subject" "Ljava/lang/String;" .null := D38 (Or.inr (w 55 rfl)) (ty := (.object "java/lang/String")) (by decide)
      refine Own.dup 156 X38 hx (hb hby at_155) rfl rfl ?_
      refine Own.aload 158 X38 hx (hb hby at_156) rfl rfl rfl ?_
      refine Own.aload 160 X38 hx (hb hby at_158) rfl rfl rfl ?_
      refine Own.callInit 163 1 ch [(.ref k), (.ref st)] [(.ref ch)] X38 hx hZ hown (m7 l Z a0 w ch k st n0 ci _ _ _ _ zl38 O38 A38 F38_kind F38_changeClass F38_subject g_ch Fq) rfl (w 41 rfl) (w 42 rfl) (w 40 rfl) (w 43 rfl) (by decide) e38 (by decide) (by decide) (by decide) (by decide) (by rw [hml]; rfl) (lenOf pd_6 rfl) rfl (Nat.le_of_eq rfl) (hb hby at_160) rfl ?_
      rintro vv T41 L41 X41 ⟨rfl, N41q, K41, Fa41, Fb41, Fc41⟩
      have N41 := Fr.app N1 N41q
      have O41 := O38.keep K41 (allS g_ch all0)
      have Ef_43 := Ef_40.keep K41
      have Ef_44 := A38.keep K41
      have zl41 := Nat.le_trans zl38 K41.1
      have zk41 := Nat.le_trans zk38 K41.1
      refine Own.astore 165 #[.val (.int x0), .val (.int x1), .val (.int x2), .val (.int x3), .val (.int v4_7), .val (.ref k), .val (.int ((x1 &&& (255 : Int32)).toUInt32.toUInt16.toUInt32.toInt32)), .val (.int ((x2 &&& (255 : Int32)).toUInt32.toUInt16.toUInt32.toInt32)), .val (.ref tw), .val (.ref no), .val (.int v10_58), .val (.ref st), .val (.int (0 : Int32)), .val (.ref ci), .val (.ref ch), .unset] X41 hx (hb hby at_163) rfl rfl rfl ?_
      refine Own.aload 167 X41 hx (hb hby at_165) rfl rfl rfl ?_
      refine Own.callVt 170 0 ch [] [] X41 hx hZ hown (m9 l Z a0 w ch k ci st ci n0 _ zl41 O41 Fa41 Fb41 Fc41 SI) Ef_44 (notFace_of_selects (args := #[]) (mvT hZ (w 59 rfl))) (w 56 rfl) (w 57 rfl) (w 59 rfl) (w 58 rfl) (w 40 rfl) (w 60 rfl) (by decide) rfl (by decide) (by decide) (by decide) (by decide) (by rw [hml]; rfl) (lenOf pd_7 rfl) rfl (Nat.le_of_eq rfl) (hb hby at_167) rfl ?_
      rintro vv T45 L45 X45 ⟨r, rfl, N45q, K45, sz_r, g_r, E_r, Ra45, Rb45, Rc45⟩
      have N45 := Fr.app N41 N45q
      have O45 := O41.keep K45 all0
      have Ef_47 := Ef_43.keep K45
      have Ef_48 := Ef_44.keep K45
      have Ff_49 := Fa41.keep K45 nin0
      have Ff_50 := Fb41.keep K45 nin0
      have Ff_51 := Fc41.keep K45 nin0
      have zl45 := Nat.le_trans zl41 K45.1
      have zk45 := Nat.le_trans zk41 K45.1
      refine Own.astore 172 #[.val (.int x0), .val (.int x1), .val (.int x2), .val (.int x3), .val (.int v4_7), .val (.ref k), .val (.int ((x1 &&& (255 : Int32)).toUInt32.toUInt16.toUInt32.toInt32)), .val (.int ((x2 &&& (255 : Int32)).toUInt32.toUInt16.toUInt32.toInt32)), .val (.ref tw), .val (.ref no), .val (.int v10_58), .val (.ref st), .val (.int (0 : Int32)), .val (.ref ci), .val (.ref ch), .val (.ref r)] X45 hx (hb hby at_170) rfl rfl rfl ?_
      refine Own.aload 174 X45 hx (hb hby at_172) rfl rfl rfl ?_
      refine Own.callVt 177 0 r [] [] X45 hx hZ hown (m10 l Z a0 w r k _ Ra45) E_r (notFace_of_selects (args := #[]) (mvT hZ (w 66 rfl))) (w 63 rfl) (w 64 rfl) (w 66 rfl) (w 65 rfl) (w 40 rfl) (w 67 rfl) (by decide) rfl (by decide) (by decide) (by decide) (by decide) (by rw [hml]; rfl) (lenOf pd_8 rfl) rfl (Nat.le_of_eq rfl) (hb hby at_174) rfl ?_
      rintro vv T52 L52 X52 ⟨rfl, hh52, rfl⟩
      have N52 := Fr.app N45 (Fr.nil _)
      refine Own.aload 179 X52 hx (hb hby at_177) rfl rfl rfl ?_
      refine Own.acmp_ne 243 182 X52 hx (hb hby at_179) rfl rfl (by decide) rfl (fun u => ?_) (fun u => ?_)
      ·
        exact absurd rfl u
      ·
        refine Own.aload 184 X52 hx (hb hby at_182) rfl rfl rfl ?_
        refine Own.callVt 187 0 r [] [] X52 hx hZ hown (m11 l Z a0 w r st _ Rc45) E_r (notFace_of_selects (args := #[]) (mvT hZ (w 71 rfl))) (w 68 rfl) (w 69 rfl) (w 71 rfl) (w 70 rfl) (w 40 rfl) (w 72 rfl) (by decide) hh52 (by decide) (by decide) (by decide) (by decide) (by rw [hml]; rfl) (lenOf pd_9 rfl) rfl (Nat.le_of_eq rfl) (hb hby at_184) rfl ?_
        rintro vv T53 L53 X53 ⟨rfl, hh53, rfl⟩
        have N53 := Fr.app N52 (Fr.nil _)
        refine Own.aload 189 X53 hx (hb hby at_187) rfl rfl rfl ?_
        refine Own.callVt 192 0 st [(.ref st)] [] X53 hx hZ hown (m12 l Z a0 w st st _) Ef_47 (notFace_of_selects (args := #[]) (mvT hZ (w 76 rfl))) (w 73 rfl) (w 74 rfl) (w 76 rfl) (w 75 rfl) (w 11 rfl) (w 77 rfl) (by decide) hh53 (by decide) (by decide) (by decide) (by decide) (by rw [hml]; rfl) (lenOf pd_10 rfl) rfl (Nat.le_of_eq rfl) (hb hby at_189) rfl ?_
        rintro vv T54 L54 X54 ⟨rfl, hh54, rfl⟩
        have N54 := Fr.app N53 (Fr.nil _)
        refine Own.if_eq 243 195 X54 hx (hb hby at_192) (by decide) rfl (fun tk => absurd tk (by decide)) (fun tk => ?_)
        refine Own.aload 197 X54 hx (hb hby at_195) rfl rfl rfl ?_
        refine Own.callVt 200 0 r [] [] X54 hx hZ hown (m13 l Z a0 w r ci _ Rb45) E_r (notFace_of_selects (args := #[]) (mvT hZ (w 81 rfl))) (w 78 rfl) (w 79 rfl) (w 81 rfl) (w 80 rfl) (w 40 rfl) (w 82 rfl) (by decide) hh54 (by decide) (by decide) (by decide) (by decide) (by rw [hml]; rfl) (lenOf pd_11 rfl) rfl (Nat.le_of_eq rfl) (hb hby at_197) rfl ?_
        rintro vv T55 L55 X55 ⟨rfl, hh55, rfl⟩
        have N55 := Fr.app N54 (Fr.nil _)
        refine Own.getSta 203 X55 hx hZ hown (host := "") (Or.inl (w 35 rfl)) Via.refl hh55 (SI.ext O45.2) (hb hby at_200) rfl ?_
        intro T56 X56 e56
        refine Own.acmp_ne 243 206 X56 hx (hb hby at_203) rfl rfl (by decide) rfl (fun u => ?_) (fun u => ?_)
        ·
          exact absurd rfl u
        ·
          refine Own.aload 208 X56 hx (hb hby at_206) rfl rfl rfl ?_
          refine Own.callVt 211 0 ch [] [] X56 hx hZ hown (m10 l Z a0 w ch k _ Ff_49) Ef_48 (notFace_of_selects (args := #[]) (mvT hZ (w 66 rfl))) (w 63 rfl) (w 64 rfl) (w 66 rfl) (w 65 rfl) (w 40 rfl) (w 67 rfl) (by decide) e56 (by decide) (by decide) (by decide) (by decide) (by rw [hml]; rfl) (lenOf pd_8 rfl) rfl (Nat.le_of_eq rfl) (hb hby at_208) rfl ?_
          rintro vv T57 L57 X57 ⟨rfl, hh57, rfl⟩
          have N57 := Fr.app N55 (Fr.nil _)
          refine Own.aload 213 X57 hx (hb hby at_211) rfl rfl rfl ?_
          refine Own.acmp_ne 243 216 X57 hx (hb hby at_213) rfl rfl (by decide) rfl (fun u => ?_) (fun u => ?_)
          ·
            exact absurd rfl u
          ·
            refine Own.aload 218 X57 hx (hb hby at_216) rfl rfl rfl ?_
            refine Own.callVt 221 0 ch [] [] X57 hx hZ hown (m11 l Z a0 w ch st _ Ff_51) Ef_48 (notFace_of_selects (args := #[]) (mvT hZ (w 71 rfl))) (w 68 rfl) (w 69 rfl) (w 71 rfl) (w 70 rfl) (w 40 rfl) (w 72 rfl) (by decide) hh57 (by decide) (by decide) (by decide) (by decide) (by rw [hml]; rfl) (lenOf pd_9 rfl) rfl (Nat.le_of_eq rfl) (hb hby at_218) rfl ?_
            rintro vv T58 L58 X58 ⟨rfl, hh58, rfl⟩
            have N58 := Fr.app N57 (Fr.nil _)
            refine Own.aload 223 X58 hx (hb hby at_221) rfl rfl rfl ?_
            refine Own.callVt 226 0 st [(.ref st)] [] X58 hx hZ hown (m12 l Z a0 w st st _) Ef_47 (notFace_of_selects (args := #[]) (mvT hZ (w 76 rfl))) (w 73 rfl) (w 74 rfl) (w 76 rfl) (w 75 rfl) (w 11 rfl) (w 77 rfl) (by decide) hh58 (by decide) (by decide) (by decide) (by decide) (by rw [hml]; rfl) (lenOf pd_10 rfl) rfl (Nat.le_of_eq rfl) (hb hby at_223) rfl ?_
            rintro vv T59 L59 X59 ⟨rfl, hh59, rfl⟩
            have N59 := Fr.app N58 (Fr.nil _)
            refine Own.if_eq 243 229 X59 hx (hb hby at_226) (by decide) rfl (fun tk => absurd tk (by decide)) (fun tk => ?_)
            refine Own.aload 231 X59 hx (hb hby at_229) rfl rfl rfl ?_
            refine Own.callVt 234 0 ch [] [] X59 hx hZ hown (m13 l Z a0 w ch ci _ Ff_50) Ef_48 (notFace_of_selects (args := #[]) (mvT hZ (w 81 rfl))) (w 78 rfl) (w 79 rfl) (w 81 rfl) (w 80 rfl) (w 40 rfl) (w 82 rfl) (by decide) hh59 (by decide) (by decide) (by decide) (by decide) (by rw [hml]; rfl) (lenOf pd_11 rfl) rfl (Nat.le_of_eq rfl) (hb hby at_231) rfl ?_
            rintro vv T60 L60 X60 ⟨rfl, hh60, rfl⟩
            have N60 := Fr.app N59 (Fr.nil _)
            refine Own.aload 236 X60 hx (hb hby at_234) rfl rfl rfl ?_
            refine Own.acmp_ne 243 239 X60 hx (hb hby at_236) rfl rfl (by decide) rfl (fun u => ?_) (fun u => ?_)
            ·
              exact absurd rfl u
            ·
              refine Own.iconst 240 X60 hx ((1 : Int32)) (hb hby at_239) rfl rfl ?_
              refine Own.goto 244 X60 hx (hb hby at_240) (by decide) ?_
              refine Own.retBool X60 hx hlk hret (hb hby at_244) (by decide) (by decide) ?_
              exact ⟨⟨rfl, N60⟩, by rw [hh60]; exact zk45⟩
    refine Own.icmp_eq 129 108 X1 hx (hb hby at_105) (by decide) rfl (fun b1 => ?_) (fun b1 => ?_)
    ·
      exact J129 (by unfold own_cmp; exact Or.inl b1)
    ·
      refine Own.iload 110 X1 hx (hb hby at_108) rfl rfl ?_
      refine Own.bipush 112 X1 hx ((17 : Int32)) (hb hby at_110) rfl rfl ?_
      refine Own.icmp_eq 129 115 X1 hx (hb hby at_112) (by decide) rfl (fun b17 => ?_) (fun b17 => ?_)
      ·
        exact J129 (by unfold own_cmp; exact Or.inr (Or.inl b17))
      ·
        refine Own.iload 117 X1 hx (hb hby at_115) rfl rfl ?_
        refine Own.bipush 119 X1 hx ((18 : Int32)) (hb hby at_117) rfl rfl ?_
        refine Own.icmp_eq 129 122 X1 hx (hb hby at_119) (by decide) rfl (fun b18 => ?_) (fun b18 => ?_)
        ·
          exact J129 (by unfold own_cmp; exact Or.inr (Or.inr (Or.inl b18)))
        ·
          refine Own.iload 124 X1 hx (hb hby at_122) rfl rfl ?_
          refine Own.bipush 126 X1 hx ((19 : Int32)) (hb hby at_124) rfl rfl ?_
          refine Own.icmp_ne 133 129 X1 hx (hb hby at_126) (by decide) rfl (fun b19 => ?_) (fun b19 => ?_)
          ·
            exact J133 (by unfold own_cmp; rintro (q | q | q | q); exact b1 q; exact b17 q; exact b18 q; exact b19 q)
          ·
            exact J129 (by unfold own_cmp; exact Or.inr (Or.inr (Or.inr b19)))
  rcases B2 with u | u | u <;> subst u
  ·
    refine Own.if_ne 77 65 X10 hx (hb hby at_62) (by decide) rfl (fun tk => absurd tk (by decide)) (fun tk => ?_)
    refine Own.newObj 68 X10 hx hZ hown (w 93 rfl) (w 19 rfl) (w 11 rfl) e10 (hb hby at_65) rfl (by decide) (by decide) ?_
    intro T61 h61 st z61 X61 e61 E61 A61 D61
    have ne_no_st : no ≠ st := Nat.ne_of_lt (Nat.lt_of_lt_of_le V10.lt (Nat.le_of_eq z61.symm))
    have ne_tw_st : tw ≠ st := Nat.ne_of_lt (Nat.lt_of_lt_of_le Vf_12.lt (Nat.le_of_eq z61.symm))
    have g_st : n0 ≤ st := Nat.le_trans zl10 (Nat.le_of_eq z61.symm)
    have Vf_63 := Vf_12.ext E61
    have Vf_64 := V10.ext E61
    have O61 := O10.ext E61
    have zl61 := Nat.le_trans zl10 E61.1
    have F61_value : Fld Z h61 st "java/lang/String" "value" "[B" .null := D61 (Or.inr (w 32 rfl)) (ty := (.array .byte)) (by decide)
    have F61_coder : Fld Z h61 st "java/lang/String" "coder" "B" (.int (0 : Int32)) := D61 (Or.inr (w 34 rfl)) (ty := .byte) (by decide)
    refine Own.dup 69 X61 hx (hb hby at_68) rfl rfl ?_
    refine Own.aload 71 X61 hx (hb hby at_69) rfl rfl rfl ?_
    refine Own.callInitT 74 1 st [(.ref no)] [(.ref st)] X61 hx hZ hown (m14 l Z a0 w st no n0 _ _ _ zl61 O61 A61 F61_value F61_coder g_st Vf_64 hh hcw) hI rfl (w 94 rfl) (w 95 rfl) (w 11 rfl) (w 96 rfl) (by decide) e61 (by decide) (by decide) (by decide) (by decide) (by rw [hml]; rfl) (lenOf pd_12 rfl) rfl (Nat.le_of_eq rfl) (hb hby at_71) rfl ?_
    rintro vv T65 L65 X65 ⟨rfl, N65q, K65⟩ hZ hown
    have N65 := Fr.app N7 N65q
    have O65 := O61.keep K65 (allS g_st all0)
    have Ef_67 := A61.keep K65
    have zl65 := Nat.le_trans zl61 K65.1
    have zk65 := Nat.le_refl T65.heap.size
    refine Own.goto 100 X65 hx (hb hby at_74) (by decide) ?_
    exact J100 st _ _ _ _ (X65.more (by decide) (by decide)) hZ hown N65 O65 zl65 zk65 Ef_67
  ·
    refine Own.if_ne 77 65 X10 hx (hb hby at_62) (by decide) rfl (fun tk => ?_) (fun tk => absurd tk (by decide))
    refine Own.iload 79 X10 hx (hb hby at_77) rfl rfl ?_
    refine Own.iconst 80 X10 hx ((1 : Int32)) (hb hby at_79) rfl rfl ?_
    refine Own.icmp_ne 91 83 X10 hx (hb hby at_80) (by decide) rfl (fun tk => absurd tk (by decide)) (fun tk => ?_)
    refine Own.iload 85 X10 hx (hb hby at_83) rfl rfl ?_
    refine Own.callSt 88 0 [(.int ((x1 &&& (255 : Int32)).toUInt32.toUInt16.toUInt32.toInt32))] [] X10 hx hZ hown (m2 l Z a0 w _ n0 z _ zl10 O10 SC hz (own_le x1)) (w 9 rfl) (w 10 rfl) (w 11 rfl) (w 12 rfl) (by decide) e10 (by decide) (by decide) (by decide) (by decide) (by rw [hml]; rfl) (lenOf pd_13 rfl) rfl (Nat.le_of_eq rfl) (hb hby at_85) rfl ?_
    rintro vv T68 L68 X68 ⟨st, rfl, N68q, K68, sz_st, g_st, E_st⟩
    have N68 := Fr.app N7 N68q
    have O68 := O10.keep K68 all0
    have zl68 := Nat.le_trans zl10 K68.1
    refine Own.goto 100 X68 hx (hb hby at_88) (by decide) ?_
    refine Own.Ends.wide (Own.Ends.mono (J100 st s 0 _ _ (X68.more (by decide) (by decide)) hZ hown N68 O68 zl68 (Nat.zero_le _) E_st) (fun _ _ _ q => q.1))
  ·
    refine Own.if_ne 77 65 X10 hx (hb hby at_62) (by decide) rfl (fun tk => ?_) (fun tk => absurd tk (by decide))
    refine Own.iload 79 X10 hx (hb hby at_77) rfl rfl ?_
    refine Own.iconst 80 X10 hx ((1 : Int32)) (hb hby at_79) rfl rfl ?_
    refine Own.icmp_ne 91 83 X10 hx (hb hby at_80) (by decide) rfl (fun tk => ?_) (fun tk => absurd tk (by decide))
    refine Own.newObj 94 X10 hx hZ hown (w 93 rfl) (w 19 rfl) (w 11 rfl) e10 (hb hby at_91) rfl (by decide) (by decide) ?_
    intro T70 h70 st z70 X70 e70 E70 A70 D70
    have ne_no_st : no ≠ st := Nat.ne_of_lt (Nat.lt_of_lt_of_le V10.lt (Nat.le_of_eq z70.symm))
    have ne_tw_st : tw ≠ st := Nat.ne_of_lt (Nat.lt_of_lt_of_le Vf_12.lt (Nat.le_of_eq z70.symm))
    have g_st : n0 ≤ st := Nat.le_trans zl10 (Nat.le_of_eq z70.symm)
    have Vf_72 := Vf_12.ext E70
    have Vf_73 := V10.ext E70
    have O70 := O10.ext E70
    have zl70 := Nat.le_trans zl10 E70.1
    have F70_value : Fld Z h70 st "java/lang/String" "value" "[B" .null := D70 (Or.inr (w 32 rfl)) (ty := (.array .byte)) (by decide)
    have F70_coder : Fld Z h70 st "java/lang/String" "coder" "B" (.int (0 : Int32)) := D70 (Or.inr (w 34 rfl)) (ty := .byte) (by decide)
    refine Own.dup 95 X70 hx (hb hby at_94) rfl rfl ?_
    refine Own.aload 97 X70 hx (hb hby at_95) rfl rfl rfl ?_
    refine Own.callInitB 100 1 1 2 st [(.ref tw)] [(.ref st)] X70 hx hZ hown (StrChars.Road.backV (W := 1) hZ hws (kI := 4) (w 19 rfl) (cs := [nar .char ((x1 &&& 255).toUInt32.toUInt16.toUInt32.toInt32), nar .char ((x2 &&& 255).toUInt32.toUInt16.toUInt32.toInt32)]) (bs := [(nar .char ((x1 &&& 255).toUInt32.toUInt16.toUInt32.toInt32)).toInt8.toInt32, (nar .char ((x2 &&& 255).toUInt32.toUInt16.toUInt32.toInt32)).toInt8.toInt32]) (n := 2) g_st zl70 A70 F70_value F70_coder Vf_72 (SC.ext O70.2) hz rfl rfl (by decide) (by decide) (own_lat x1 x2) rfl (by decide) (by decide)) rfl (w 94 rfl) (w 95 rfl) (w 96 rfl) (by decide) e70 (by decide) (by decide) (by rw [hml]; rfl) (lenOf pd_12 rfl) rfl (Nat.le_of_eq rfl) (hb hby at_97) rfl ?_
    rintro vv T74 L74 X74 ⟨rfl, N74q, K74, -⟩
    have N74 := Fr.app N7 N74q
    have O74 := O70.keep K74 (allS g_st all0)
    have Ef_76 := A70.keep K74
    have zl74 := Nat.le_trans zl70 K74.1
    refine Own.Ends.wide (Own.Ends.mono (J100 st s 0 _ _ (X74.more (by decide) (by decide)) hZ hown N74 O74 zl74 (Nat.zero_le _) Ef_76) (fun _ _ _ q => q.1))
set_option maxRecDepth 65536 in
set_option maxHeartbeats 40000000 in
theorem comes_1 {Post : Tables → Env → Array Value → State → Outcome → State → Prop} (hpost : ∀ tb e args s v u, (limb_1_1.after args s (.returned v) u = true ∧ limb_1_2.after args s (.returned v) u = true ∧ True) → ReturnedEndW s (.returned v) u (Jvm.fieldLocs frame_1_writes args s ++ Jvm.arrayLocs frame_1_arrays args s ++ Jvm.staticLocs frame_1_statics s) 24 1152 → Post tb e args s (.returned v) u) :
    ArmFor flags0 classFile x code maxLocals ret World_1 tables_1 room_1 Calls_1 rest_1 Pre_1 Post := by
  intro l hfl _ _ p e ha hc hk s m args below hf hA hF happ hP
  obtain ⟨hcalls, hrest, hpre⟩ := hP
  obtain ⟨-, -, -, hnamed, -, -, -, hat⟩ := (Spec.applies_iff hf).mp happ
  obtain ⟨hg, hn⟩ := and_e (Cond.before_iff.mp (show (Jvm.Cond.and given_1 narrow_1).before args s = true from hpre))
  obtain ⟨g1, g2⟩ := and_e hg
  obtain ⟨g3, g4⟩ := and_e g2
  obtain ⟨g5, g6⟩ := and_e g4
  obtain ⟨g7, g8⟩ := and_e g6
  obtain ⟨w0, w1, w2, w3, rfl⟩ : ∃ w0 w1 w2 w3 : Value, args = #[w0, w1, w2, w3] := by
    have hs : args.size = 4 := by simpa [Cond.value, given_1] using g1
    obtain ⟨L⟩ := args
    match L, hs with
    | [w0, w1, w2, w3], _ => exact ⟨w0, w1, w2, w3, rfl⟩
  have hw := fun d (hd : d ∈ tables_1) => atoms_spec (ws := Jvm.Cond.code x code maxLocals ret :: tables_1) hat d (List.mem_cons_of_mem _ hd)
  obtain ⟨i0, ei0⟩ := is_v g3
  obtain rfl : w0 = (.int i0) := Option.some.inj ei0
  obtain ⟨i1, ei1⟩ := is_v g5
  obtain rfl : w1 = (.int i1) := Option.some.inj ei1
  obtain ⟨i2, ei2⟩ := is_v g7
  obtain rfl : w2 = (.int i2) := Option.some.inj ei2
  obtain ⟨i3, ei3⟩ := is_v g8
  obtain rfl : w3 = (.int i3) := Option.some.inj ei3
  obtain ⟨hn_1, hm_1⟩ := and_e hn
  obtain ⟨hn_2, hm_2⟩ := and_e hm_1
  obtain ⟨hn_3, hm_3⟩ := and_e hm_2
  obtain ⟨hn_4, hm_4⟩ := and_e hm_3
  obtain ⟨hn_5, hm_5⟩ := and_e hm_4
  obtain ⟨hn_6, hm_6⟩ := and_e hm_5
  obtain ⟨hn_7, hm_7⟩ := and_e hm_6
  obtain ⟨hn_8, hm_8⟩ := and_e hm_7
  obtain ⟨hn_9, hm_9⟩ := and_e hm_8
  obtain ⟨hn_10, hm_10⟩ := and_e hm_9
  obtain ⟨hn_11, hm_11⟩ := and_e hm_10
  obtain ⟨hn_12, hm_12⟩ := and_e hm_11
  obtain ⟨hn_13, hm_13⟩ := and_e hm_12
  obtain ⟨hn_14, hm_14⟩ := and_e hm_13
  obtain ⟨hn_15, hm_15⟩ := and_e hm_14
  obtain ⟨hn_16, hm_16⟩ := and_e hm_15
  obtain ⟨hn_17, hm_17⟩ := and_e hm_16
  obtain ⟨hn_18, hm_18⟩ := and_e hm_17
  obtain ⟨hn_19, hm_19⟩ := and_e hm_18
  obtain ⟨hn_20, hm_20⟩ := and_e hm_19
  obtain ⟨hn_21, hm_21⟩ := and_e hm_20
  obtain ⟨hn_22, hm_22⟩ := and_e hm_21
  obtain ⟨hn_23, hm_23⟩ := and_e hm_22
  obtain ⟨hn_24, hm_24⟩ := and_e hm_23
  obtain ⟨hn_25, hm_25⟩ := and_e hm_24
  obtain ⟨hn_26, hm_26⟩ := and_e hm_25
  obtain ⟨hn_27, hm_27⟩ := and_e hm_26
  obtain ⟨hn_28, hm_28⟩ := and_e hm_27
  obtain ⟨hn_29, hm_29⟩ := and_e hm_28
  obtain ⟨hn_30, hm_30⟩ := and_e hm_29
  obtain ⟨hn_31, hm_31⟩ := and_e hm_30
  obtain ⟨hn_32, hm_32⟩ := and_e hm_31
  obtain ⟨hn_33, hm_33⟩ := and_e hm_32
  obtain ⟨hn_34, hm_34⟩ := and_e hm_33
  obtain ⟨hn_35, hm_35⟩ := and_e hm_34
  obtain ⟨hn_36, hm_36⟩ := and_e hm_35
  obtain ⟨hn_37, hm_37⟩ := and_e hm_36
  obtain ⟨hn_38, hm_38⟩ := and_e hm_37
  obtain ⟨hn_39, hm_39⟩ := and_e hm_38
  obtain ⟨hn_40, hm_40⟩ := and_e hm_39
  obtain ⟨hn_41, hm_41⟩ := and_e hm_40
  obtain ⟨k0, ev_k0⟩ := exa_v hn_1
  have S_k0 := Sta.start ev_k0 (Or.inr ⟨(hw _ (List.mem_of_getElem? (i := 6) rfl)), (hw _ (List.mem_of_getElem? (i := 7) rfl))⟩)
  obtain ⟨ci, ev_ci⟩ := exa_v hn_2
  have S_ci := Sta.start ev_ci (Or.inr ⟨(hw _ (List.mem_of_getElem? (i := 36) rfl)), (hw _ (List.mem_of_getElem? (i := 37) rfl))⟩)
  obtain ⟨k12, ev_k12⟩ := exa_v hn_4
  have S_k12 := Sta.start ev_k12 (Or.inr ⟨(hw _ (List.mem_of_getElem? (i := 6) rfl)), (hw _ (List.mem_of_getElem? (i := 84) rfl))⟩)
  obtain ⟨k19, ev_k19⟩ := exa_v hn_6
  have S_k19 := Sta.start ev_k19 (Or.inr ⟨(hw _ (List.mem_of_getElem? (i := 6) rfl)), (hw _ (List.mem_of_getElem? (i := 86) rfl))⟩)
  obtain ⟨cc, ev_cc⟩ := exa_v hn_7
  have S_cc := Sta.start ev_cc (Or.inr ⟨(hw _ (List.mem_of_getElem? (i := 36) rfl)), (hw _ (List.mem_of_getElem? (i := 88) rfl))⟩)
  obtain ⟨k14, ev_k14⟩ := exa_v hn_9
  have S_k14 := Sta.start ev_k14 (Or.inr ⟨(hw _ (List.mem_of_getElem? (i := 6) rfl)), (hw _ (List.mem_of_getElem? (i := 90) rfl))⟩)
  obtain ⟨k1, ev_k1⟩ := exa_v hn_11
  have S_k1 := Sta.start ev_k1 (Or.inr ⟨(hw _ (List.mem_of_getElem? (i := 6) rfl)), (hw _ (List.mem_of_getElem? (i := 92) rfl))⟩)
  obtain ⟨k3, ev_k3⟩ := exa_v hn_13
  have S_k3 := Sta.start ev_k3 (Or.inr ⟨(hw _ (List.mem_of_getElem? (i := 6) rfl)), (hw _ (List.mem_of_getElem? (i := 114) rfl))⟩)
  obtain ⟨k16, ev_k16⟩ := exa_v hn_15
  have S_k16 := Sta.start ev_k16 (Or.inr ⟨(hw _ (List.mem_of_getElem? (i := 6) rfl)), (hw _ (List.mem_of_getElem? (i := 116) rfl))⟩)
  obtain ⟨k8, ev_k8⟩ := exa_v hn_17
  have S_k8 := Sta.start ev_k8 (Or.inr ⟨(hw _ (List.mem_of_getElem? (i := 6) rfl)), (hw _ (List.mem_of_getElem? (i := 118) rfl))⟩)
  obtain ⟨k4, ev_k4⟩ := exa_v hn_19
  have S_k4 := Sta.start ev_k4 (Or.inr ⟨(hw _ (List.mem_of_getElem? (i := 6) rfl)), (hw _ (List.mem_of_getElem? (i := 120) rfl))⟩)
  obtain ⟨k9, ev_k9⟩ := exa_v hn_21
  have S_k9 := Sta.start ev_k9 (Or.inr ⟨(hw _ (List.mem_of_getElem? (i := 6) rfl)), (hw _ (List.mem_of_getElem? (i := 122) rfl))⟩)
  obtain ⟨k2, ev_k2⟩ := exa_v hn_23
  have S_k2 := Sta.start ev_k2 (Or.inr ⟨(hw _ (List.mem_of_getElem? (i := 6) rfl)), (hw _ (List.mem_of_getElem? (i := 124) rfl))⟩)
  obtain ⟨k13, ev_k13⟩ := exa_v hn_25
  have S_k13 := Sta.start ev_k13 (Or.inr ⟨(hw _ (List.mem_of_getElem? (i := 6) rfl)), (hw _ (List.mem_of_getElem? (i := 126) rfl))⟩)
  obtain ⟨k11, ev_k11⟩ := exa_v hn_27
  have S_k11 := Sta.start ev_k11 (Or.inr ⟨(hw _ (List.mem_of_getElem? (i := 6) rfl)), (hw _ (List.mem_of_getElem? (i := 128) rfl))⟩)
  obtain ⟨k7, ev_k7⟩ := exa_v hn_29
  have S_k7 := Sta.start ev_k7 (Or.inr ⟨(hw _ (List.mem_of_getElem? (i := 6) rfl)), (hw _ (List.mem_of_getElem? (i := 130) rfl))⟩)
  obtain ⟨k10, ev_k10⟩ := exa_v hn_31
  have S_k10 := Sta.start ev_k10 (Or.inr ⟨(hw _ (List.mem_of_getElem? (i := 6) rfl)), (hw _ (List.mem_of_getElem? (i := 132) rfl))⟩)
  obtain ⟨k17, ev_k17⟩ := exa_v hn_33
  have S_k17 := Sta.start ev_k17 (Or.inr ⟨(hw _ (List.mem_of_getElem? (i := 6) rfl)), (hw _ (List.mem_of_getElem? (i := 134) rfl))⟩)
  obtain ⟨k5, ev_k5⟩ := exa_v hn_35
  have S_k5 := Sta.start ev_k5 (Or.inr ⟨(hw _ (List.mem_of_getElem? (i := 6) rfl)), (hw _ (List.mem_of_getElem? (i := 136) rfl))⟩)
  obtain ⟨k6, ev_k6⟩ := exa_v hn_37
  have S_k6 := Sta.start ev_k6 (Or.inr ⟨(hw _ (List.mem_of_getElem? (i := 6) rfl)), (hw _ (List.mem_of_getElem? (i := 138) rfl))⟩)
  obtain ⟨k15, ev_k15⟩ := exa_v hn_39
  have S_k15 := Sta.start ev_k15 (Or.inr ⟨(hw _ (List.mem_of_getElem? (i := 6) rfl)), (hw _ (List.mem_of_getElem? (i := 140) rfl))⟩)
  obtain ⟨k18, ev_k18⟩ := exa_v hn_41
  have S_k18 := Sta.start ev_k18 (Or.inr ⟨(hw _ (List.mem_of_getElem? (i := 6) rfl)), (hw _ (List.mem_of_getElem? (i := 142) rfl))⟩)
  have o0 := Fld.start ((fld_at ev_k0).symm.trans (Own.eqR_v ev_ci hn_3))
  have o12 := Fld.start ((fld_at ev_k12).symm.trans (Own.eqR_v ev_ci hn_5))
  have o19 := Fld.start ((fld_at ev_k19).symm.trans (Own.eqR_v ev_cc hn_8))
  have o14 := Fld.start ((fld_at ev_k14).symm.trans (Own.eqR_v ev_ci hn_10))
  have o1 := Fld.start ((fld_at ev_k1).symm.trans (Own.eqR_v ev_cc hn_12))
  have o3 := Fld.start ((fld_at ev_k3).symm.trans (Own.eqR_v ev_ci hn_14))
  have o16 := Fld.start ((fld_at ev_k16).symm.trans (Own.eqR_v ev_ci hn_16))
  have o8 := Fld.start ((fld_at ev_k8).symm.trans (Own.eqR_v ev_ci hn_18))
  have o4 := Fld.start ((fld_at ev_k4).symm.trans (Own.eqR_v ev_ci hn_20))
  have o9 := Fld.start ((fld_at ev_k9).symm.trans (Own.eqR_v ev_ci hn_22))
  have o2 := Fld.start ((fld_at ev_k2).symm.trans (Own.eqR_v ev_ci hn_24))
  have o13 := Fld.start ((fld_at ev_k13).symm.trans (Own.eqR_v ev_ci hn_26))
  have o11 := Fld.start ((fld_at ev_k11).symm.trans (Own.eqR_v ev_ci hn_28))
  have o7 := Fld.start ((fld_at ev_k7).symm.trans (Own.eqR_v ev_ci hn_30))
  have o10 := Fld.start ((fld_at ev_k10).symm.trans (Own.eqR_v ev_ci hn_32))
  have o17 := Fld.start ((fld_at ev_k17).symm.trans (Own.eqR_v ev_cc hn_34))
  have o5 := Fld.start ((fld_at ev_k5).symm.trans (Own.eqR_v ev_ci hn_36))
  have o6 := Fld.start ((fld_at ev_k6).symm.trans (Own.eqR_v ev_ci hn_38))
  have o15 := Fld.start ((fld_at ev_k15).symm.trans (Own.eqR_v ev_ci hn_40))
  have o18 := Fld.start ((fld_at ev_k18).symm.trans (Own.eqR_v ev_cc hm_41))
  obtain ⟨hsets, hown0⟩ := atoms_of _ (rest_1_c_eq ▸ (show rest_1_c.before _ s = true from hrest))
  have n3 := not_v (Cond.before_iff.mp (hsets _ (List.mem_of_getElem? (i := 2) rfl)))
  obtain ⟨zc, ezc⟩ := is_v (Cond.before_iff.mp (hsets _ (List.mem_of_getElem? (i := 1) rfl)))
  have SC : Sta s s.heap "java/lang/String" "COMPACT_STRINGS" "Z" (.int zc) := Sta.start ezc (Or.inl (hsets _ (List.mem_of_getElem? (i := 0) rfl)))
  have hzc : ¬ zc = 0 := gotF (Cond.eq_ints ezc (Term.int_eval (0))) n3
  have hch : Jvm.Lit.constHeld s "java/lang/String" 7 := hcalls.1 ("java/lang/String", 7) (List.mem_of_getElem? (i := 0) rfl)
  obtain ⟨n, o, h1, h2, h3, _, L, rfl, ⟨rfl, N⟩, hq⟩ := m0 l s _ (fun i {d} h => hw d (List.mem_of_getElem? h)) i0 i1 i2 i3 k0 k1 k2 k3 k4 k5 k6 k7 k8 k9 k10 k11 k12 k13 k14 k15 k16 k17 k18 k19 cc ci zc s.heap s.heap.size (Nat.le_refl _) (Old.start s) ⟨S_k0, S_k1, S_k2, S_k3, S_k4, S_k5, S_k6, S_k7, S_k8, S_k9, S_k10, S_k11, S_k12, S_k13, S_k14, S_k15, S_k16, S_k17, S_k18, S_k19⟩ ⟨o0, o1, o2, o3, o4, o5, o6, o7, o8, o9, o10, o11, o12, o13, o14, o15, o16, o17, o18, o19⟩ S_ci S_cc SC hzc hch (hsets _ (List.mem_of_getElem? (i := 2) rfl)) p e ha hc hk s m _ below hf ((Spec.applies_iff_loose hf).mp happ).1 ⟨rfl, State.Warmed39.refl s, rfl, rfl⟩ trivial
  refine ⟨n, _, h1, h2, h3, hpost _ _ _ _ _ _ ⟨Cond.after_iff.mpr rfl, Cond.after_iff.mpr (eq_i res_at (Term.int_eval (1)) rfl), trivial⟩ ⟨hq.1, hq.2.1, hq.2.2.1, (hq.2.2.2.sift fun y hy => Or.inr (N y hy)).mono (by decide) (by decide)⟩⟩
theorem main_1_1 : Claimed_1_1 := comes_1 fun _ _ _ _ _ _ h hF => ⟨h.1, hF⟩
theorem main_1_2 : Claimed_1_2 := comes_1 fun _ _ _ _ _ _ h hF => ⟨h.2.1, hF⟩
end Jvm.Pilot.@@N@@
namespace Jvm.Pilot.@@N@@
open Jvm Jvm.ClassFile Sem Op Lib Jvm.Free Jvm.Stand Jvm.Pilot.@@N@@.Jvm.D
/-! MADE BY PROGRAM (witnessworld.py) out of the Statement's table words and the real class files: 23 classes; the members and pool entries that the words name. The judged class is class 1, her method 2. -/
namespace start1
open Jvm.ClassFile
def u (s : String) : CpInfo := .utf8 (stringToUtf16 s)
/-- a pool by its gaps: so many unusable entries, then the entry; so many at the end -/
def gap : Nat → List CpInfo → List CpInfo
  | 0, r => r
  | n + 1, r => .unusable :: gap n r
def poolList (es : List (Nat × CpInfo)) (last : Nat) : List CpInfo := es.foldr (fun e r => gap e.1 (e.2 :: r)) (gap last [])
def pool (es : List (Nat × CpInfo)) (last : Nat) : Array CpInfo := ⟨poolList es last⟩
def fileOf (pool : Array CpInfo) (this : Nat) (attrs : Array Attribute := #[]) (ms : Array MethodInfo := #[]) (fl : Nat := 33) (sup : Nat := 0) (ifs : Array Nat := #[]) (fds : Array FieldInfo := #[]) : ClassFile where
  minorVersion := 0
  majorVersion := 65
  constantPool := pool
  accessFlags := fl
  thisClass := this
  superClass := sup
  interfaces := ifs
  fields := fds
  methods := ms
  attributes := attrs
def plain (name : String) (sup : Option ClassId) : Class where
  name := name
  kind := .ordinary
  loader := none
  accessFlags := 33
  super := sup
  interfaces := #[]
  cf := none
  fields := #[]
  methods := #[]
  instanceTypes := #[]
  staticTypes := #[]
  resolved := #[]
  callSites := []
  init := .initialized
  statics := none
  mirror := none

def pool0 : Array CpInfo := pool [(5, u "<init>"), (0, u "()V"), (1, .class_ 10), (1, u "java/lang/Object")] 113

def k0c0 : Code := { maxStack := 0, maxLocals := 1, code := object_method_1_code, exceptionTable := #[], attributes := #[] }
def k0m0 : Method := { name := "<init>", desc := "()V", sig := { parameters := [], returnType := none }, accessFlags := 1, code := some k0c0 }
/-- java/lang/Object -/
def k0 : Class := { plain "java/lang/Object" none with
  accessFlags := 33
  interfaces := #[]
  cf := some (fileOf pool0 8 #[] #[{ accessFlags := 1, nameIndex := 5, descriptorIndex := 6, attributes := #[] }] 33 0 #[] #[])
  fields := #[]
  methods := #[k0m0]
  instanceTypes := #[]
  staticTypes := #[]
  resolved := Array.replicate 124 none
  statics := none }

def pool1 : Array CpInfo := pool [(2, .class_ 4), (1, u "java/lang/Object"), (0, u "<init>"), (0, u "()V"), (0, .fieldref 8 9), (0, .class_ 10), (0, .nameAndType 11 12), (0, u "com/example/bindgate/bindgate/rules/Change$Kind"), (0, u "INTERFACE_REMOVED"), (0, u "Lcom/example/bindgate/bindgate/rules/Change$Kind;"), (0, .fieldref 8 14), (0, .nameAndType 15 12), (0, u "INTERFACE_ADDED"), (0, .fieldref 8 17), (0, .nameAndType 18 12), (0, u "INTERFACE_RENAMED"), (0, .fieldref 8 20), (0, .nameAndType 21 12), (0, u "BASE_CHANGED"), (0, .fieldref 8 23), (0, .nameAndType 24 12), (0, u "KIND_CHANGED"), (0, .fieldref 8 26), (0, .nameAndType 27 12), (0, u "OPERATION_REMOVED"), (0, .fieldref 8 29), (0, .nameAndType 30 12), (0, u "OPERATION_MOVED"), (0, .fieldref 8 32), (0, .nameAndType 33 12), (0, u "OPERATION_CHANGED"), (0, .fieldref 8 35), (0, .nameAndType 36 12), (0, u "CALLBACK_REMOVED"), (0, .fieldref 8 38), (0, .nameAndType 39 12), (0, u "CALLBACK_MOVED"), (0, .fieldref 8 41), (0, .nameAndType 42 12), (0, u "CALLBACK_CHANGED"), (0, .fieldref 8 44), (0, .nameAndType 45 12), (0, u "TYPE_REMOVED"), (0, .fieldref 8 47), (0, .nameAndType 48 12), (0, u "TYPE_CHANGED"), (0, .fieldref 8 50), (0, .nameAndType 51 12), (0, u "CONSTANT_REMOVED"), (0, .fieldref 8 53), (0, .nameAndType 54 12), (0, u "CONSTANT_CHANGED"), (0, .fieldref 8 56), (0, .nameAndType 57 12), (0, u "CALLBACK_ADDED"), (0, .fieldref 8 59), (0, .nameAndType 60 12), (0, u "OPERATION_ADDED_BEFORE_THE_END"), (0, .fieldref 8 62), (0, .nameAndType 63 12), (0, u "OPERATION_ADDED_AT_THE_END"), (0, .fieldref 8 65), (0, .nameAndType 66 12), (0, u "TYPE_ADDED"), (0, .fieldref 8 68), (0, .nameAndType 69 12), (0, u "CONSTANT_ADDED"), (0, .integer 2147483647), (0, .methodref 72 73), (0, .class_ 74), (0, .nameAndType 75 76), (0, u "com/example/bindgate/bindgate/rules/ChangeAsIncompatiblePinLaw"), (0, u "kindAt"), (0, u "(I)Lcom/example/bindgate/bindgate/rules/Change$Kind;"), (0, .class_ 78), (0, u "java/lang/String"), (0, .methodref 77 80), (0, .nameAndType 5 81), (0, u "([C)V"), (0, .methodref 77 83), (0, .nameAndType 84 85), (0, u "valueOf"), (0, u "(C)Ljava/lang/String;"), (0, .fieldref 87 88), (0, .class_ 89), (0, .nameAndType 90 91), (0, u "com/example/bindgate/bindgate/rules/ChangeClass"), (0, u "COMPATIBLE"), (0, u "Lcom/example/bindgate/bindgate/rules/ChangeClass;"), (0, .fieldref 87 93), (0, .nameAndType 94 91), (0, u "INCOMPATIBLE"), (0, .class_ 96), (0, u "com/example/bindgate/bindgate/rules/Change"), (0, .methodref 95 98), (0, .nameAndType 5 99), (0, u "(Lcom/example/bindgate/bindgate/rules/Change$Kind;Ljava/lang/String;)V"), (0, .methodref 95 101), (0, .nameAndType 102 103), (0, u "asIncompatible"), (0, u "()Lcom/example/bindgate/bindgate/rules/Change;"), (0, .methodref 95 105), (0, .nameAndType 106 107), (0, u "kind"), (0, u "()Lcom/example/bindgate/bindgate/rules/Change$Kind;"), (0, .methodref 95 109), (0, .nameAndType 110 111), (0, u "subject"), (0, u "()Ljava/lang/String;"), (0, .methodref 77 113), (0, .nameAndType 114 115), (0, u "equals"), (0, u "(Ljava/lang/Object;)Z"), (0, .methodref 95 117), (0, .nameAndType 118 119), (0, u "changeClass"), (0, u "()Lcom/example/bindgate/bindgate/rules/ChangeClass;"), (3, u "law"), (0, u "(IIII)Z")] 6

def k1m0 : Method := { name := "<init>", desc := "()V", sig := { parameters := [], returnType := none }, accessFlags := 1, code := none }
def k1c1 : Code := { maxStack := 2, maxLocals := 1, code := method_2_code, exceptionTable := #[], attributes := #[] }
def k1m1 : Method := { name := "kindAt", desc := "(I)Lcom/example/bindgate/bindgate/rules/Change$Kind;", sig := { parameters := [.int], returnType := some (.object "com/example/bindgate/bindgate/rules/Change$Kind") }, accessFlags := 10, code := some k1c1 }
def k1c2 : Code := { maxStack := 4, maxLocals := 16, code := code, exceptionTable := #[], attributes := #[] }
def k1m2 : Method := { name := "law", desc := "(IIII)Z", sig := { parameters := [.int, .int, .int, .int], returnType := some .boolean }, accessFlags := 9, code := some k1c2 }
/-- com/example/bindgate/bindgate/rules/ChangeAsIncompatiblePinLaw -/
def k1 : Class := { plain "com/example/bindgate/bindgate/rules/ChangeAsIncompatiblePinLaw" (some 0) with
  accessFlags := 49
  interfaces := #[]
  cf := some (fileOf pool1 72 #[] #[{ accessFlags := 1, nameIndex := 5, descriptorIndex := 6, attributes := #[] }, { accessFlags := 10, nameIndex := 75, descriptorIndex := 76, attributes := #[] }, { accessFlags := 9, nameIndex := 123, descriptorIndex := 124, attributes := #[] }] 49 2 #[] #[])
  fields := #[]
  methods := #[k1m0, k1m1, k1m2]
  instanceTypes := #[]
  staticTypes := #[]
  resolved := Array.replicate 131 none
  statics := none }

def pool2 : Array CpInfo := pool [(1, .class_ 2), (0, u "java/lang/constant/Constable"), (0, .class_ 4), (0, u "java/lang/Object")] 6

/-- java/lang/constant/Constable -/
def k2 : Class := { plain "java/lang/constant/Constable" (some 0) with
  accessFlags := 1537
  interfaces := #[]
  cf := some (fileOf pool2 1 #[] #[] 1537 3 #[] #[])
  fields := #[]
  methods := #[]
  instanceTypes := #[]
  staticTypes := #[]
  resolved := Array.replicate 11 none
  statics := none }

def pool3 : Array CpInfo := pool [(1, .class_ 2), (0, u "java/lang/Comparable"), (0, .class_ 4), (0, u "java/lang/Object")] 7

/-- java/lang/Comparable -/
def k3 : Class := { plain "java/lang/Comparable" (some 0) with
  accessFlags := 1537
  interfaces := #[]
  cf := some (fileOf pool3 1 #[] #[] 1537 3 #[] #[])
  fields := #[]
  methods := #[]
  instanceTypes := #[]
  staticTypes := #[]
  resolved := Array.replicate 12 none
  statics := none }

def pool4 : Array CpInfo := pool [(1, .class_ 2), (0, u "java/io/Serializable"), (0, .class_ 4), (0, u "java/lang/Object")] 2

/-- java/io/Serializable -/
def k4 : Class := { plain "java/io/Serializable" (some 0) with
  accessFlags := 1537
  interfaces := #[]
  cf := some (fileOf pool4 1 #[] #[] 1537 3 #[] #[])
  fields := #[]
  methods := #[]
  instanceTypes := #[]
  staticTypes := #[]
  resolved := Array.replicate 7 none
  statics := none }

def pool5 : Array CpInfo := pool [(2, .class_ 4), (1, u "java/lang/Enum"), (0, u "name"), (0, u "Ljava/lang/String;"), (2, u "ordinal"), (0, u "I"), (1, .class_ 14), (1, u "java/lang/Object"), (4, u "hash"), (86, .class_ 108), (1, u "java/lang/Enum$EnumDesc"), (2, .class_ 112), (0, u "java/lang/constant/Constable"), (0, .class_ 114), (0, u "java/lang/Comparable"), (0, .class_ 116), (0, u "java/io/Serializable")] 87

/-- java/lang/Enum -/
def k5 : Class := { plain "java/lang/Enum" (some 0) with
  accessFlags := 1057
  interfaces := #[2, 3, 4]
  cf := some (fileOf pool5 2 #[.nestMembers #[106]] #[] 1057 12 #[111, 113, 115] #[{ accessFlags := 18, nameIndex := 5, descriptorIndex := 6, attributes := #[] }, { accessFlags := 18, nameIndex := 9, descriptorIndex := 10, attributes := #[] }, { accessFlags := 2, nameIndex := 19, descriptorIndex := 10, attributes := #[] }])
  fields := #[{ name := "name", type := (.object "java/lang/String"), accessFlags := 18, slot := 0, constantValue := 0 }, { name := "ordinal", type := .int, accessFlags := 18, slot := 1, constantValue := 0 }, { name := "hash", type := .int, accessFlags := 2, slot := 2, constantValue := 0 }]
  methods := #[]
  instanceTypes := #[(.object "java/lang/String"), .int, .int]
  staticTypes := #[]
  resolved := Array.replicate 204 none
  statics := none }

def pool6 : Array CpInfo := pool [(1, .class_ 2), (0, u "com/example/bindgate/bindgate/rules/Change$Kind"), (2, u "INTERFACE_REMOVED"), (0, u "Lcom/example/bindgate/bindgate/rules/Change$Kind;"), (2, u "INTERFACE_ADDED"), (2, u "INTERFACE_RENAMED"), (2, u "BASE_CHANGED"), (2, u "KIND_CHANGED"), (2, u "OPERATION_REMOVED"), (2, u "OPERATION_MOVED"), (2, u "OPERATION_CHANGED"), (2, u "CALLBACK_REMOVED"), (2, u "CALLBACK_MOVED"), (2, u "CALLBACK_CHANGED"), (2, u "TYPE_REMOVED"), (2, u "TYPE_CHANGED"), (2, u "CONSTANT_REMOVED"), (2, u "CONSTANT_CHANGED"), (2, u "CALLBACK_ADDED"), (2, u "OPERATION_ADDED_BEFORE_THE_END"), (2, u "OPERATION_ADDED_AT_THE_END"), (2, u "TYPE_ADDED"), (2, u "CONSTANT_ADDED"), (2, u "$VALUES"), (0, u "[Lcom/example/bindgate/bindgate/rules/Change$Kind;"), (6, .class_ 76), (1, u "java/lang/Enum"), (8, u "changeClass"), (0, u "Lcom/example/bindgate/bindgate/rules/ChangeClass;"), (2, u "wording"), (0, u "Ljava/lang/String;"), (89, .class_ 181), (0, u "com/example/bindgate/bindgate/rules/Change")] 2

/-- com/example/bindgate/bindgate/rules/Change$Kind -/
def k6 : Class := { plain "com/example/bindgate/bindgate/rules/Change$Kind" (some 5) with
  accessFlags := 16433
  interfaces := #[]
  cf := some (fileOf pool6 1 #[.nestHost 180] #[] 16433 74 #[] #[{ accessFlags := 16409, nameIndex := 5, descriptorIndex := 6, attributes := #[] }, { accessFlags := 16409, nameIndex := 9, descriptorIndex := 6, attributes := #[] }, { accessFlags := 16409, nameIndex := 12, descriptorIndex := 6, attributes := #[] }, { accessFlags := 16409, nameIndex := 15, descriptorIndex := 6, attributes := #[] }, { accessFlags := 16409, nameIndex := 18, descriptorIndex := 6, attributes := #[] }, { accessFlags := 16409, nameIndex := 21, descriptorIndex := 6, attributes := #[] }, { accessFlags := 16409, nameIndex := 24, descriptorIndex := 6, attributes := #[] }, { accessFlags := 16409, nameIndex := 27, descriptorIndex := 6, attributes := #[] }, { accessFlags := 16409, nameIndex := 30, descriptorIndex := 6, attributes := #[] }, { accessFlags := 16409, nameIndex := 33, descriptorIndex := 6, attributes := #[] }, { accessFlags := 16409, nameIndex := 36, descriptorIndex := 6, attributes := #[] }, { accessFlags := 16409, nameIndex := 39, descriptorIndex := 6, attributes := #[] }, { accessFlags := 16409, nameIndex := 42, descriptorIndex := 6, attributes := #[] }, { accessFlags := 16409, nameIndex := 45, descriptorIndex := 6, attributes := #[] }, { accessFlags := 16409, nameIndex := 48, descriptorIndex := 6, attributes := #[] }, { accessFlags := 16409, nameIndex := 51, descriptorIndex := 6, attributes := #[] }, { accessFlags := 16409, nameIndex := 54, descriptorIndex := 6, attributes := #[] }, { accessFlags := 16409, nameIndex := 57, descriptorIndex := 6, attributes := #[] }, { accessFlags := 16409, nameIndex := 60, descriptorIndex := 6, attributes := #[] }, { accessFlags := 16409, nameIndex := 63, descriptorIndex := 6, attributes := #[] }, { accessFlags := 18, nameIndex := 85, descriptorIndex := 86, attributes := #[] }, { accessFlags := 18, nameIndex := 89, descriptorIndex := 90, attributes := #[] }, { accessFlags := 4122, nameIndex := 66, descriptorIndex := 67, attributes := #[] }])
  fields := #[{ name := "INTERFACE_REMOVED", type := (.object "com/example/bindgate/bindgate/rules/Change$Kind"), accessFlags := 16409, slot := 0, constantValue := 0 }, { name := "INTERFACE_ADDED", type := (.object "com/example/bindgate/bindgate/rules/Change$Kind"), accessFlags := 16409, slot := 1, constantValue := 0 }, { name := "INTERFACE_RENAMED", type := (.object "com/example/bindgate/bindgate/rules/Change$Kind"), accessFlags := 16409, slot := 2, constantValue := 0 }, { name := "BASE_CHANGED", type := (.object "com/example/bindgate/bindgate/rules/Change$Kind"), accessFlags := 16409, slot := 3, constantValue := 0 }, { name := "KIND_CHANGED", type := (.object "com/example/bindgate/bindgate/rules/Change$Kind"), accessFlags := 16409, slot := 4, constantValue := 0 }, { name := "OPERATION_REMOVED", type := (.object "com/example/bindgate/bindgate/rules/Change$Kind"), accessFlags := 16409, slot := 5, constantValue := 0 }, { name := "OPERATION_MOVED", type := (.object "com/example/bindgate/bindgate/rules/Change$Kind"), accessFlags := 16409, slot := 6, constantValue := 0 }, { name := "OPERATION_CHANGED", type := (.object "com/example/bindgate/bindgate/rules/Change$Kind"), accessFlags := 16409, slot := 7, constantValue := 0 }, { name := "CALLBACK_REMOVED", type := (.object "com/example/bindgate/bindgate/rules/Change$Kind"), accessFlags := 16409, slot := 8, constantValue := 0 }, { name := "CALLBACK_MOVED", type := (.object "com/example/bindgate/bindgate/rules/Change$Kind"), accessFlags := 16409, slot := 9, constantValue := 0 }, { name := "CALLBACK_CHANGED", type := (.object "com/example/bindgate/bindgate/rules/Change$Kind"), accessFlags := 16409, slot := 10, constantValue := 0 }, { name := "TYPE_REMOVED", type := (.object "com/example/bindgate/bindgate/rules/Change$Kind"), accessFlags := 16409, slot := 11, constantValue := 0 }, { name := "TYPE_CHANGED", type := (.object "com/example/bindgate/bindgate/rules/Change$Kind"), accessFlags := 16409, slot := 12, constantValue := 0 }, { name := "CONSTANT_REMOVED", type := (.object "com/example/bindgate/bindgate/rules/Change$Kind"), accessFlags := 16409, slot := 13, constantValue := 0 }, { name := "CONSTANT_CHANGED", type := (.object "com/example/bindgate/bindgate/rules/Change$Kind"), accessFlags := 16409, slot := 14, constantValue := 0 }, { name := "CALLBACK_ADDED", type := (.object "com/example/bindgate/bindgate/rules/Change$Kind"), accessFlags := 16409, slot := 15, constantValue := 0 }, { name := "OPERATION_ADDED_BEFORE_THE_END", type := (.object "com/example/bindgate/bindgate/rules/Change$Kind"), accessFlags := 16409, slot := 16, constantValue := 0 }, { name := "OPERATION_ADDED_AT_THE_END", type := (.object "com/example/bindgate/bindgate/rules/Change$Kind"), accessFlags := 16409, slot := 17, constantValue := 0 }, { name := "TYPE_ADDED", type := (.object "com/example/bindgate/bindgate/rules/Change$Kind"), accessFlags := 16409, slot := 18, constantValue := 0 }, { name := "CONSTANT_ADDED", type := (.object "com/example/bindgate/bindgate/rules/Change$Kind"), accessFlags := 16409, slot := 19, constantValue := 0 }, { name := "changeClass", type := (.object "com/example/bindgate/bindgate/rules/ChangeClass"), accessFlags := 18, slot := 3, constantValue := 0 }, { name := "wording", type := (.object "java/lang/String"), accessFlags := 18, slot := 4, constantValue := 0 }, { name := "$VALUES", type := (.array (.object "com/example/bindgate/bindgate/rules/Change$Kind")), accessFlags := 4122, slot := 20, constantValue := 0 }]
  methods := #[]
  instanceTypes := #[(.object "java/lang/String"), .int, .int, (.object "com/example/bindgate/bindgate/rules/ChangeClass"), (.object "java/lang/String")]
  staticTypes := #[(.object "com/example/bindgate/bindgate/rules/Change$Kind"), (.object "com/example/bindgate/bindgate/rules/Change$Kind"), (.object "com/example/bindgate/bindgate/rules/Change$Kind"), (.object "com/example/bindgate/bindgate/rules/Change$Kind"), (.object "com/example/bindgate/bindgate/rules/Change$Kind"), (.object "com/example/bindgate/bindgate/rules/Change$Kind"), (.object "com/example/bindgate/bindgate/rules/Change$Kind"), (.object "com/example/bindgate/bindgate/rules/Change$Kind"), (.object "com/example/bindgate/bindgate/rules/Change$Kind"), (.object "com/example/bindgate/bindgate/rules/Change$Kind"), (.object "com/example/bindgate/bindgate/rules/Change$Kind"), (.object "com/example/bindgate/bindgate/rules/Change$Kind"), (.object "com/example/bindgate/bindgate/rules/Change$Kind"), (.object "com/example/bindgate/bindgate/rules/Change$Kind"), (.object "com/example/bindgate/bindgate/rules/Change$Kind"), (.object "com/example/bindgate/bindgate/rules/Change$Kind"), (.object "com/example/bindgate/bindgate/rules/Change$Kind"), (.object "com/example/bindgate/bindgate/rules/Change$Kind"), (.object "com/example/bindgate/bindgate/rules/Change$Kind"), (.object "com/example/bindgate/bindgate/rules/Change$Kind"), (.array (.object "com/example/bindgate/bindgate/rules/Change$Kind"))]
  resolved := Array.replicate 184 none
  statics := some 0 }

def pool7 : Array CpInfo := pool [(2, .class_ 4), (1, u "java/lang/CharSequence"), (42, .class_ 48), (0, u "java/lang/CharSequence$1CodePointIterator"), (10, .class_ 60), (0, u "java/lang/CharSequence$1CharIterator"), (5, .class_ 67), (0, u "java/lang/Object")] 63

/-- java/lang/CharSequence -/
def k7 : Class := { plain "java/lang/CharSequence" (some 0) with
  accessFlags := 1537
  interfaces := #[]
  cf := some (fileOf pool7 2 #[.nestMembers #[47, 59]] #[] 1537 66 #[] #[])
  fields := #[]
  methods := #[]
  instanceTypes := #[]
  staticTypes := #[]
  resolved := Array.replicate 131 none
  statics := none }

def pool8 : Array CpInfo := pool [(1, .class_ 2), (0, u "java/lang/constant/ConstantDesc"), (0, .class_ 4), (0, u "java/lang/Object")] 32

/-- java/lang/constant/ConstantDesc -/
def k8 : Class := { plain "java/lang/constant/ConstantDesc" (some 0) with
  accessFlags := 1537
  interfaces := #[]
  cf := some (fileOf pool8 1 #[] #[] 1537 3 #[] #[])
  fields := #[]
  methods := #[]
  instanceTypes := #[]
  staticTypes := #[]
  resolved := Array.replicate 37 none
  statics := none }

def pool9 : Array CpInfo := pool [(1, .methodref 2 3), (0, .class_ 4), (0, .nameAndType 5 6), (0, u "java/lang/Object"), (0, u "<init>"), (0, u "()V"), (0, .string 8), (0, u ""), (0, .fieldref 10 11), (0, .class_ 12), (0, .nameAndType 13 14), (0, u "java/lang/String"), (0, u "value"), (0, u "[B"), (0, .fieldref 10 16), (0, .nameAndType 17 18), (0, u "coder"), (0, u "B"), (2, u "hash"), (0, u "I"), (2, u "hashIsZero"), (0, u "Z"), (0, .methodref 10 28), (0, .nameAndType 5 29), (0, u "([CIILjava/lang/Void;)V"), (8, .fieldref 10 39), (0, .nameAndType 40 26), (0, u "COMPACT_STRINGS"), (1, .class_ 44), (1, u "java/lang/StringUTF16"), (0, u "compress"), (1, .methodref 42 48), (0, .nameAndType 49 50), (0, u "coderFromArrayLen"), (0, u "([BI)B"), (2, u "toBytes"), (53, .class_ 109), (1, u "java/lang/StringLatin1"), (67, .methodref 42 178), (0, .nameAndType 45 179), (0, u "([CII)[B"), (29, .methodref 10 210), (0, .nameAndType 5 211), (0, u "([BB)V"), (157, u "(C)Z"), (173, u "equals"), (29, u "(Ljava/lang/Object;)Z"), (1, .class_ 576), (0, u "java/lang/CharSequence"), (22, u "CASE_INSENSITIVE_ORDER"), (0, u "Ljava/util/Comparator;"), (181, u "valueOf"), (0, u "(C)Ljava/lang/String;"), (226, u "([C)V"), (4, .methodref 107 1016), (0, .nameAndType 1017 369), (0, u "canEncode"), (0, .methodref 107 1019), (0, .nameAndType 53 1020), (0, u "(C)[B"), (80, u "serialPersistentFields"), (0, u "[Ljava/io/ObjectStreamField;"), (0, .class_ 1104), (0, u "java/lang/String$CaseInsensitiveComparator"), (1, .class_ 1107), (0, u "java/io/Serializable"), (0, .class_ 1109), (0, u "java/lang/Comparable"), (0, .class_ 1111), (0, u "java/lang/constant/Constable"), (0, .class_ 1113), (0, u "java/lang/constant/ConstantDesc"), (2, u "serialVersionUID"), (0, u "J"), (3, u "REPL"), (0, u "C"), (2, u "LATIN1"), (1, u "UTF16")] 323

def k9m0 : Method := { name := "<init>", desc := "()V", sig := { parameters := [], returnType := none }, accessFlags := 1, code := none }
def k9c1 : Code := { maxStack := 5, maxLocals := 2, code := jdk_42_method_3_code, exceptionTable := #[], attributes := #[] }
def k9m1 : Method := { name := "<init>", desc := "([C)V", sig := { parameters := [(.array .char)], returnType := none }, accessFlags := 1, code := some k9c1 }
def k9c2 : Code := { maxStack := 2, maxLocals := 3, code := jdk_42_method_66_code, exceptionTable := #[], attributes := #[] }
def k9m2 : Method := { name := "equals", desc := "(Ljava/lang/Object;)Z", sig := { parameters := [(.object "java/lang/Object")], returnType := some .boolean }, accessFlags := 1, code := some k9c2 }
def k9c3 : Code := { maxStack := 4, maxLocals := 1, code := jdk_42_method_139_code, exceptionTable := #[], attributes := #[] }
def k9m3 : Method := { name := "valueOf", desc := "(C)Ljava/lang/String;", sig := { parameters := [.char], returnType := some (.object "java/lang/String") }, accessFlags := 9, code := some k9c3 }
def k9c4 : Code := { maxStack := 4, maxLocals := 6, code := jdk_42_method_149_code, exceptionTable := #[], attributes := #[] }
def k9m4 : Method := { name := "<init>", desc := "([CIILjava/lang/Void;)V", sig := { parameters := [(.array .char), .int, .int, (.object "java/lang/Void")], returnType := none }, accessFlags := 2, code := some k9c4 }
def k9c5 : Code := { maxStack := 2, maxLocals := 3, code := jdk_42_method_151_code, exceptionTable := #[], attributes := #[] }
def k9m5 : Method := { name := "<init>", desc := "([BB)V", sig := { parameters := [(.array .byte), .byte], returnType := none }, accessFlags := 0, code := some k9c5 }
/-- java/lang/String -/
def k9 : Class := { plain "java/lang/String" (some 0) with
  accessFlags := 49
  interfaces := #[4, 3, 7, 2, 8]
  cf := some (fileOf pool9 10 #[.nestMembers #[1103]] #[{ accessFlags := 1, nameIndex := 5, descriptorIndex := 6, attributes := #[] }, { accessFlags := 1, nameIndex := 5, descriptorIndex := 1010, attributes := #[] }, { accessFlags := 1, nameIndex := 543, descriptorIndex := 573, attributes := #[] }, { accessFlags := 9, nameIndex := 782, descriptorIndex := 783, attributes := #[] }, { accessFlags := 2, nameIndex := 5, descriptorIndex := 29, attributes := #[] }, { accessFlags := 0, nameIndex := 5, descriptorIndex := 211, attributes := #[] }] 49 2 #[1106, 1108, 575, 1110, 1112] #[{ accessFlags := 18, nameIndex := 13, descriptorIndex := 14, attributes := #[] }, { accessFlags := 18, nameIndex := 17, descriptorIndex := 18, attributes := #[] }, { accessFlags := 2, nameIndex := 21, descriptorIndex := 22, attributes := #[] }, { accessFlags := 2, nameIndex := 25, descriptorIndex := 26, attributes := #[] }, { accessFlags := 26, nameIndex := 1116, descriptorIndex := 1117, attributes := #[] }, { accessFlags := 24, nameIndex := 40, descriptorIndex := 26, attributes := #[] }, { accessFlags := 26, nameIndex := 1101, descriptorIndex := 1102, attributes := #[] }, { accessFlags := 26, nameIndex := 1121, descriptorIndex := 1122, attributes := #[] }, { accessFlags := 25, nameIndex := 599, descriptorIndex := 600, attributes := #[] }, { accessFlags := 24, nameIndex := 1125, descriptorIndex := 18, attributes := #[] }, { accessFlags := 24, nameIndex := 1127, descriptorIndex := 18, attributes := #[] }])
  fields := #[{ name := "value", type := (.array .byte), accessFlags := 18, slot := 0, constantValue := 0 }, { name := "coder", type := .byte, accessFlags := 18, slot := 1, constantValue := 0 }, { name := "hash", type := .int, accessFlags := 2, slot := 2, constantValue := 0 }, { name := "hashIsZero", type := .boolean, accessFlags := 2, slot := 3, constantValue := 0 }, { name := "serialVersionUID", type := .long, accessFlags := 26, slot := 0, constantValue := 0 }, { name := "COMPACT_STRINGS", type := .boolean, accessFlags := 24, slot := 1, constantValue := 0 }, { name := "serialPersistentFields", type := (.array (.object "java/io/ObjectStreamField")), accessFlags := 26, slot := 2, constantValue := 0 }, { name := "REPL", type := .char, accessFlags := 26, slot := 3, constantValue := 0 }, { name := "CASE_INSENSITIVE_ORDER", type := (.object "java/util/Comparator"), accessFlags := 25, slot := 4, constantValue := 0 }, { name := "LATIN1", type := .byte, accessFlags := 24, slot := 5, constantValue := 0 }, { name := "UTF16", type := .byte, accessFlags := 24, slot := 6, constantValue := 0 }]
  methods := #[k9m0, k9m1, k9m2, k9m3, k9m4, k9m5]
  instanceTypes := #[(.array .byte), .byte, .int, .boolean]
  staticTypes := #[.long, .boolean, (.array (.object "java/io/ObjectStreamField")), .char, (.object "java/util/Comparator"), .byte, .byte]
  resolved := Array.replicate 1451 none
  statics := some 1 }

def pool10 : Array CpInfo := pool [(4, .class_ 6), (1, u "java/lang/Object"), (0, u "<init>"), (0, u "()V"), (5, .class_ 16), (1, u "java/lang/StringLatin1"), (73, u "canEncode"), (14, u "(C)Z"), (15, u "$assertionsDisabled"), (0, u "Z"), (98, .class_ 223), (1, u "java/lang/StringLatin1$LinesSpliterator"), (156, u "toBytes"), (1, u "(C)[B"), (7, .class_ 391), (0, u "java/lang/StringLatin1$CharsSpliterator")] 3

def k10m0 : Method := { name := "<init>", desc := "()V", sig := { parameters := [], returnType := none }, accessFlags := 0, code := none }
def k10c1 : Code := { maxStack := 2, maxLocals := 1, code := jdk_43_method_3_code, exceptionTable := #[], attributes := #[] }
def k10m1 : Method := { name := "canEncode", desc := "(C)Z", sig := { parameters := [.char], returnType := some .boolean }, accessFlags := 9, code := some k10c1 }
def k10c2 : Code := { maxStack := 4, maxLocals := 1, code := jdk_43_method_46_code, exceptionTable := #[], attributes := #[] }
def k10m2 : Method := { name := "toBytes", desc := "(C)[B", sig := { parameters := [.char], returnType := some (.array .byte) }, accessFlags := 9, code := some k10c2 }
/-- java/lang/StringLatin1 -/
def k10 : Class := { plain "java/lang/StringLatin1" (some 0) with
  accessFlags := 48
  interfaces := #[]
  cf := some (fileOf pool10 14 #[.nestMembers #[390, 221]] #[{ accessFlags := 0, nameIndex := 7, descriptorIndex := 8, attributes := #[] }, { accessFlags := 9, nameIndex := 90, descriptorIndex := 105, attributes := #[] }, { accessFlags := 9, nameIndex := 380, descriptorIndex := 382, attributes := #[] }] 48 4 #[] #[{ accessFlags := 4120, nameIndex := 121, descriptorIndex := 122, attributes := #[] }])
  fields := #[{ name := "$assertionsDisabled", type := .boolean, accessFlags := 4120, slot := 0, constantValue := 0 }]
  methods := #[k10m0, k10m1, k10m2]
  instanceTypes := #[]
  staticTypes := #[.boolean]
  resolved := Array.replicate 395 none
  statics := none }

def pool11 : Array CpInfo := pool [(1, .class_ 2), (0, u "com/example/bindgate/bindgate/rules/ChangeClass"), (2, u "NONE"), (0, u "Lcom/example/bindgate/bindgate/rules/ChangeClass;"), (2, u "COMPATIBLE"), (2, u "INCOMPATIBLE"), (2, u "$VALUES"), (0, u "[Lcom/example/bindgate/bindgate/rules/ChangeClass;"), (6, .class_ 25), (1, u "java/lang/Enum")] 71

/-- com/example/bindgate/bindgate/rules/ChangeClass -/
def k11 : Class := { plain "com/example/bindgate/bindgate/rules/ChangeClass" (some 5) with
  accessFlags := 16433
  interfaces := #[]
  cf := some (fileOf pool11 1 #[] #[] 16433 23 #[] #[{ accessFlags := 16409, nameIndex := 5, descriptorIndex := 6, attributes := #[] }, { accessFlags := 16409, nameIndex := 9, descriptorIndex := 6, attributes := #[] }, { accessFlags := 16409, nameIndex := 12, descriptorIndex := 6, attributes := #[] }, { accessFlags := 4122, nameIndex := 15, descriptorIndex := 16, attributes := #[] }])
  fields := #[{ name := "NONE", type := (.object "com/example/bindgate/bindgate/rules/ChangeClass"), accessFlags := 16409, slot := 0, constantValue := 0 }, { name := "COMPATIBLE", type := (.object "com/example/bindgate/bindgate/rules/ChangeClass"), accessFlags := 16409, slot := 1, constantValue := 0 }, { name := "INCOMPATIBLE", type := (.object "com/example/bindgate/bindgate/rules/ChangeClass"), accessFlags := 16409, slot := 2, constantValue := 0 }, { name := "$VALUES", type := (.array (.object "com/example/bindgate/bindgate/rules/ChangeClass")), accessFlags := 4122, slot := 3, constantValue := 0 }]
  methods := #[]
  instanceTypes := #[(.object "java/lang/String"), .int, .int]
  staticTypes := #[(.object "com/example/bindgate/bindgate/rules/ChangeClass"), (.object "com/example/bindgate/bindgate/rules/ChangeClass"), (.object "com/example/bindgate/bindgate/rules/ChangeClass"), (.array (.object "com/example/bindgate/bindgate/rules/ChangeClass"))]
  resolved := Array.replicate 97 none
  statics := some 2 }

def pool12 : Array CpInfo := pool [(1, .fieldref 2 3), (0, .class_ 4), (0, .nameAndType 5 6), (0, u "com/example/bindgate/bindgate/rules/Change$Kind"), (0, u "changeClass"), (0, u "Lcom/example/bindgate/bindgate/rules/ChangeClass;"), (0, .methodref 8 9), (0, .class_ 10), (0, .nameAndType 11 12), (0, u "com/example/bindgate/bindgate/rules/Change"), (0, u "<init>"), (0, u "(Lcom/example/bindgate/bindgate/rules/Change$Kind;Lcom/example/bindgate/bindgate/rules/ChangeClass;Ljava/lang/String;)V"), (0, .methodref 14 15), (0, .class_ 16), (0, .nameAndType 11 17), (0, u "java/lang/Object"), (0, u "()V"), (0, .fieldref 8 19), (0, .nameAndType 20 21), (0, u "kind"), (0, u "Lcom/example/bindgate/bindgate/rules/Change$Kind;"), (0, .fieldref 8 3), (0, .fieldref 8 24), (0, .nameAndType 25 26), (0, u "subject"), (0, u "Ljava/lang/String;"), (0, .fieldref 28 29), (0, .class_ 30), (0, .nameAndType 31 6), (0, u "com/example/bindgate/bindgate/rules/ChangeClass"), (0, u "INCOMPATIBLE"), (17, u "(Lcom/example/bindgate/bindgate/rules/Change$Kind;Ljava/lang/String;)V"), (2, u "asIncompatible"), (0, u "()Lcom/example/bindgate/bindgate/rules/Change;"), (0, u "()Lcom/example/bindgate/bindgate/rules/Change$Kind;"), (0, u "()Lcom/example/bindgate/bindgate/rules/ChangeClass;"), (0, u "()Ljava/lang/String;")] 21

def k12c0 : Code := { maxStack := 4, maxLocals := 3, code := prog_33_method_1_code, exceptionTable := #[], attributes := #[] }
def k12m0 : Method := { name := "<init>", desc := "(Lcom/example/bindgate/bindgate/rules/Change$Kind;Ljava/lang/String;)V", sig := { parameters := [(.object "com/example/bindgate/bindgate/rules/Change$Kind"), (.object "java/lang/String")], returnType := none }, accessFlags := 0, code := some k12c0 }
def k12c1 : Code := { maxStack := 2, maxLocals := 4, code := prog_33_method_2_code, exceptionTable := #[], attributes := #[] }
def k12m1 : Method := { name := "<init>", desc := "(Lcom/example/bindgate/bindgate/rules/Change$Kind;Lcom/example/bindgate/bindgate/rules/ChangeClass;Ljava/lang/String;)V", sig := { parameters := [(.object "com/example/bindgate/bindgate/rules/Change$Kind"), (.object "com/example/bindgate/bindgate/rules/ChangeClass"), (.object "java/lang/String")], returnType := none }, accessFlags := 2, code := some k12c1 }
def k12c2 : Code := { maxStack := 5, maxLocals := 1, code := prog_33_method_3_code, exceptionTable := #[], attributes := #[] }
def k12m2 : Method := { name := "asIncompatible", desc := "()Lcom/example/bindgate/bindgate/rules/Change;", sig := { parameters := [], returnType := some (.object "com/example/bindgate/bindgate/rules/Change") }, accessFlags := 0, code := some k12c2 }
def k12c3 : Code := { maxStack := 1, maxLocals := 1, code := prog_33_method_4_code, exceptionTable := #[], attributes := #[] }
def k12m3 : Method := { name := "kind", desc := "()Lcom/example/bindgate/bindgate/rules/Change$Kind;", sig := { parameters := [], returnType := some (.object "com/example/bindgate/bindgate/rules/Change$Kind") }, accessFlags := 1, code := some k12c3 }
def k12c4 : Code := { maxStack := 1, maxLocals := 1, code := prog_33_method_5_code, exceptionTable := #[], attributes := #[] }
def k12m4 : Method := { name := "changeClass", desc := "()Lcom/example/bindgate/bindgate/rules/ChangeClass;", sig := { parameters := [], returnType := some (.object "com/example/bindgate/bindgate/rules/ChangeClass") }, accessFlags := 1, code := some k12c4 }
def k12c5 : Code := { maxStack := 1, maxLocals := 1, code := prog_33_method_6_code, exceptionTable := #[], attributes := #[] }
def k12m5 : Method := { name := "subject", desc := "()Ljava/lang/String;", sig := { parameters := [], returnType := some (.object "java/lang/String") }, accessFlags := 1, code := some k12c5 }
/-- com/example/bindgate/bindgate/rules/Change -/
def k12 : Class := { plain "com/example/bindgate/bindgate/rules/Change" (some 0) with
  accessFlags := 49
  interfaces := #[]
  cf := some (fileOf pool12 8 #[.nestMembers #[2]] #[{ accessFlags := 0, nameIndex := 11, descriptorIndex := 49, attributes := #[] }, { accessFlags := 2, nameIndex := 11, descriptorIndex := 12, attributes := #[] }, { accessFlags := 0, nameIndex := 52, descriptorIndex := 53, attributes := #[] }, { accessFlags := 1, nameIndex := 20, descriptorIndex := 54, attributes := #[] }, { accessFlags := 1, nameIndex := 5, descriptorIndex := 55, attributes := #[] }, { accessFlags := 1, nameIndex := 25, descriptorIndex := 56, attributes := #[] }] 49 14 #[] #[{ accessFlags := 18, nameIndex := 20, descriptorIndex := 21, attributes := #[] }, { accessFlags := 18, nameIndex := 5, descriptorIndex := 6, attributes := #[] }, { accessFlags := 18, nameIndex := 25, descriptorIndex := 26, attributes := #[] }])
  fields := #[{ name := "kind", type := (.object "com/example/bindgate/bindgate/rules/Change$Kind"), accessFlags := 18, slot := 0, constantValue := 0 }, { name := "changeClass", type := (.object "com/example/bindgate/bindgate/rules/ChangeClass"), accessFlags := 18, slot := 1, constantValue := 0 }, { name := "subject", type := (.object "java/lang/String"), accessFlags := 18, slot := 2, constantValue := 0 }]
  methods := #[k12m0, k12m1, k12m2, k12m3, k12m4, k12m5]
  instanceTypes := #[(.object "com/example/bindgate/bindgate/rules/Change$Kind"), (.object "com/example/bindgate/bindgate/rules/ChangeClass"), (.object "java/lang/String")]
  staticTypes := #[]
  resolved := (Array.replicate 78 none).setIfInBounds 1 (some (.field 6 20))
  statics := none }

def pool13 : Array CpInfo := pool [(6, .class_ 8), (1, u "java/lang/Object"), (0, u "<init>"), (0, u "()V"), (1, .class_ 14), (1, u "java/lang/StringUTF16"), (31, u "$assertionsDisabled"), (0, u "Z"), (13, u "HI_BYTE_SHIFT"), (0, u "I"), (2, u "LO_BYTE_SHIFT"), (49, .methodref 12 116), (0, .nameAndType 117 118), (0, u "compress"), (0, u "([CI[BII)I"), (3, u "([CII)[B"), (138, u "coderFromArrayLen"), (0, u "([BI)B"), (106, .class_ 371), (1, u "java/lang/StringUTF16$LinesSpliterator"), (58, u "MAX_LENGTH"), (196, .class_ 628), (0, u "java/lang/StringUTF16$CodePointsSpliterator"), (0, .class_ 630), (0, u "java/lang/StringUTF16$CharsSpliterator")] 4

def k13m0 : Method := { name := "<init>", desc := "()V", sig := { parameters := [], returnType := none }, accessFlags := 0, code := none }
def k13c1 : Code := { maxStack := 2, maxLocals := 2, code := jdk_52_method_15_code, exceptionTable := #[], attributes := #[] }
def k13m1 : Method := { name := "coderFromArrayLen", desc := "([BI)B", sig := { parameters := [(.array .byte), .int], returnType := some .byte }, accessFlags := 8, code := some k13c1 }
def k13c2 : Code := { maxStack := 5, maxLocals := 6, code := jdk_52_method_16_code, exceptionTable := #[], attributes := #[] }
def k13m2 : Method := { name := "compress", desc := "([CII)[B", sig := { parameters := [(.array .char), .int, .int], returnType := some (.array .byte) }, accessFlags := 9, code := some k13c2 }
def k13c3 : Code := { maxStack := 3, maxLocals := 7, code := jdk_52_method_21_code, exceptionTable := #[], attributes := #[] }
def k13m3 : Method := { name := "compress", desc := "([CI[BII)I", sig := { parameters := [(.array .char), .int, (.array .byte), .int, .int], returnType := some .int }, accessFlags := 9, code := some k13c3 }
/-- java/lang/StringUTF16 -/
def k13 : Class := { plain "java/lang/StringUTF16" (some 0) with
  accessFlags := 48
  interfaces := #[]
  cf := some (fileOf pool13 12 #[.nestMembers #[627, 629, 369]] #[{ accessFlags := 0, nameIndex := 9, descriptorIndex := 10, attributes := #[] }, { accessFlags := 8, nameIndex := 261, descriptorIndex := 262, attributes := #[] }, { accessFlags := 9, nameIndex := 117, descriptorIndex := 122, attributes := #[] }, { accessFlags := 9, nameIndex := 117, descriptorIndex := 118, attributes := #[] }] 48 6 #[] #[{ accessFlags := 26, nameIndex := 61, descriptorIndex := 62, attributes := #[] }, { accessFlags := 26, nameIndex := 65, descriptorIndex := 62, attributes := #[] }, { accessFlags := 24, nameIndex := 430, descriptorIndex := 62, attributes := #[] }, { accessFlags := 4120, nameIndex := 46, descriptorIndex := 47, attributes := #[] }])
  fields := #[{ name := "HI_BYTE_SHIFT", type := .int, accessFlags := 26, slot := 0, constantValue := 0 }, { name := "LO_BYTE_SHIFT", type := .int, accessFlags := 26, slot := 1, constantValue := 0 }, { name := "MAX_LENGTH", type := .int, accessFlags := 24, slot := 2, constantValue := 0 }, { name := "$assertionsDisabled", type := .boolean, accessFlags := 4120, slot := 3, constantValue := 0 }]
  methods := #[k13m0, k13m1, k13m2, k13m3]
  instanceTypes := #[]
  staticTypes := #[.int, .int, .int, .boolean]
  resolved := Array.replicate 635 none
  statics := none }

def pool14 : Array CpInfo := pool [(2, .class_ 4), (1, u "java/lang/Object"), (0, u "<init>"), (0, u "()V"), (17, .class_ 26), (1, u "jdk/internal/util/Preconditions"), (28, .class_ 56), (0, u "jdk/internal/util/Preconditions$4"), (57, .class_ 115), (0, u "jdk/internal/util/Preconditions$1"), (7, u "SIOOBE_FORMATTER"), (0, u "Ljava/util/function/BiFunction;"), (0, .class_ 126), (0, u "jdk/internal/util/Preconditions$2"), (3, u "AIOOBE_FORMATTER"), (0, .class_ 132), (0, u "jdk/internal/util/Preconditions$3"), (3, u "IOOBE_FORMATTER")] 57

def k14m0 : Method := { name := "<init>", desc := "()V", sig := { parameters := [], returnType := none }, accessFlags := 1, code := none }
/-- jdk/internal/util/Preconditions -/
def k14 : Class := { plain "jdk/internal/util/Preconditions" (some 0) with
  accessFlags := 33
  interfaces := #[]
  cf := some (fileOf pool14 24 #[.nestMembers #[55, 131, 125, 114]] #[{ accessFlags := 1, nameIndex := 5, descriptorIndex := 6, attributes := #[] }] 33 2 #[] #[{ accessFlags := 25, nameIndex := 123, descriptorIndex := 124, attributes := #[] }, { accessFlags := 25, nameIndex := 130, descriptorIndex := 124, attributes := #[] }, { accessFlags := 25, nameIndex := 136, descriptorIndex := 124, attributes := #[] }])
  fields := #[{ name := "SIOOBE_FORMATTER", type := (.object "java/util/function/BiFunction"), accessFlags := 25, slot := 0, constantValue := 0 }, { name := "AIOOBE_FORMATTER", type := (.object "java/util/function/BiFunction"), accessFlags := 25, slot := 1, constantValue := 0 }, { name := "IOOBE_FORMATTER", type := (.object "java/util/function/BiFunction"), accessFlags := 25, slot := 2, constantValue := 0 }]
  methods := #[k14m0]
  instanceTypes := #[]
  staticTypes := #[(.object "java/util/function/BiFunction"), (.object "java/util/function/BiFunction"), (.object "java/util/function/BiFunction")]
  resolved := Array.replicate 194 none
  statics := some 3 }

def pool15 : Array CpInfo := pool [(9, u "<init>"), (6, .class_ 18), (1, u "java/lang/Object"), (0, u "()V"), (1, .class_ 23), (1, u "jdk/internal/util/ArraysSupport"), (0, u "LOG2_ARRAY_LONG_INDEX_SCALE"), (0, u "I"), (2, u "U"), (0, u "Ljdk/internal/misc/Unsafe;"), (8, u "BIG_ENDIAN"), (0, u "Z"), (8, u "LOG2_BYTE_BIT_SIZE"), (4, u "LOG2_ARRAY_INT_INDEX_SCALE"), (54, u "JLA"), (0, u "Ljdk/internal/access/JavaLangAccess;"), (11, u "LOG2_ARRAY_BOOLEAN_INDEX_SCALE"), (9, u "LOG2_ARRAY_BYTE_INDEX_SCALE"), (5, u "LOG2_ARRAY_CHAR_INDEX_SCALE"), (5, u "LOG2_ARRAY_SHORT_INDEX_SCALE"), (18, u "LOG2_ARRAY_FLOAT_INDEX_SCALE"), (24, u "LOG2_ARRAY_DOUBLE_INDEX_SCALE"), (89, u "T_BOOLEAN"), (2, u "T_CHAR"), (1, u "T_FLOAT"), (1, u "T_DOUBLE"), (1, u "T_BYTE"), (1, u "T_SHORT"), (1, u "T_INT"), (1, u "T_LONG"), (1, u "SOFT_MAX_ARRAY_LENGTH")] 83

def k15m0 : Method := { name := "<init>", desc := "()V", sig := { parameters := [], returnType := none }, accessFlags := 2, code := none }
/-- jdk/internal/util/ArraysSupport -/
def k15 : Class := { plain "jdk/internal/util/ArraysSupport" (some 0) with
  accessFlags := 33
  interfaces := #[]
  cf := some (fileOf pool15 21 #[] #[{ accessFlags := 2, nameIndex := 9, descriptorIndex := 19, attributes := #[] }] 33 16 #[] #[{ accessFlags := 24, nameIndex := 28, descriptorIndex := 29, attributes := #[] }, { accessFlags := 26, nameIndex := 38, descriptorIndex := 39, attributes := #[] }, { accessFlags := 25, nameIndex := 121, descriptorIndex := 25, attributes := #[] }, { accessFlags := 25, nameIndex := 131, descriptorIndex := 25, attributes := #[] }, { accessFlags := 25, nameIndex := 137, descriptorIndex := 25, attributes := #[] }, { accessFlags := 25, nameIndex := 143, descriptorIndex := 25, attributes := #[] }, { accessFlags := 25, nameIndex := 53, descriptorIndex := 25, attributes := #[] }, { accessFlags := 25, nameIndex := 24, descriptorIndex := 25, attributes := #[] }, { accessFlags := 25, nameIndex := 162, descriptorIndex := 25, attributes := #[] }, { accessFlags := 25, nameIndex := 187, descriptorIndex := 25, attributes := #[] }, { accessFlags := 26, nameIndex := 48, descriptorIndex := 25, attributes := #[] }, { accessFlags := 25, nameIndex := 277, descriptorIndex := 25, attributes := #[] }, { accessFlags := 25, nameIndex := 280, descriptorIndex := 25, attributes := #[] }, { accessFlags := 25, nameIndex := 282, descriptorIndex := 25, attributes := #[] }, { accessFlags := 25, nameIndex := 284, descriptorIndex := 25, attributes := #[] }, { accessFlags := 25, nameIndex := 286, descriptorIndex := 25, attributes := #[] }, { accessFlags := 25, nameIndex := 288, descriptorIndex := 25, attributes := #[] }, { accessFlags := 25, nameIndex := 290, descriptorIndex := 25, attributes := #[] }, { accessFlags := 25, nameIndex := 292, descriptorIndex := 25, attributes := #[] }, { accessFlags := 26, nameIndex := 108, descriptorIndex := 109, attributes := #[] }, { accessFlags := 25, nameIndex := 294, descriptorIndex := 25, attributes := #[] }])
  fields := #[{ name := "U", type := (.object "jdk/internal/misc/Unsafe"), accessFlags := 24, slot := 0, constantValue := 0 }, { name := "BIG_ENDIAN", type := .boolean, accessFlags := 26, slot := 1, constantValue := 0 }, { name := "LOG2_ARRAY_BOOLEAN_INDEX_SCALE", type := .int, accessFlags := 25, slot := 2, constantValue := 0 }, { name := "LOG2_ARRAY_BYTE_INDEX_SCALE", type := .int, accessFlags := 25, slot := 3, constantValue := 0 }, { name := "LOG2_ARRAY_CHAR_INDEX_SCALE", type := .int, accessFlags := 25, slot := 4, constantValue := 0 }, { name := "LOG2_ARRAY_SHORT_INDEX_SCALE", type := .int, accessFlags := 25, slot := 5, constantValue := 0 }, { name := "LOG2_ARRAY_INT_INDEX_SCALE", type := .int, accessFlags := 25, slot := 6, constantValue := 0 }, { name := "LOG2_ARRAY_LONG_INDEX_SCALE", type := .int, accessFlags := 25, slot := 7, constantValue := 0 }, { name := "LOG2_ARRAY_FLOAT_INDEX_SCALE", type := .int, accessFlags := 25, slot := 8, constantValue := 0 }, { name := "LOG2_ARRAY_DOUBLE_INDEX_SCALE", type := .int, accessFlags := 25, slot := 9, constantValue := 0 }, { name := "LOG2_BYTE_BIT_SIZE", type := .int, accessFlags := 26, slot := 10, constantValue := 0 }, { name := "T_BOOLEAN", type := .int, accessFlags := 25, slot := 11, constantValue := 0 }, { name := "T_CHAR", type := .int, accessFlags := 25, slot := 12, constantValue := 0 }, { name := "T_FLOAT", type := .int, accessFlags := 25, slot := 13, constantValue := 0 }, { name := "T_DOUBLE", type := .int, accessFlags := 25, slot := 14, constantValue := 0 }, { name := "T_BYTE", type := .int, accessFlags := 25, slot := 15, constantValue := 0 }, { name := "T_SHORT", type := .int, accessFlags := 25, slot := 16, constantValue := 0 }, { name := "T_INT", type := .int, accessFlags := 25, slot := 17, constantValue := 0 }, { name := "T_LONG", type := .int, accessFlags := 25, slot := 18, constantValue := 0 }, { name := "JLA", type := (.object "jdk/internal/access/JavaLangAccess"), accessFlags := 26, slot := 19, constantValue := 0 }, { name := "SOFT_MAX_ARRAY_LENGTH", type := .int, accessFlags := 25, slot := 20, constantValue := 0 }]
  methods := #[k15m0]
  instanceTypes := #[]
  staticTypes := #[(.object "jdk/internal/misc/Unsafe"), .boolean, .int, .int, .int, .int, .int, .int, .int, .int, .int, .int, .int, .int, .int, .int, .int, .int, .int, (.object "jdk/internal/access/JavaLangAccess"), .int]
  resolved := Array.replicate 378 none
  statics := none }

def pool16 : Array CpInfo := pool [(1, u "java/lang/Cloneable"), (0, .class_ 1), (0, u "java/lang/Object"), (0, .class_ 3)] 3

/-- java/lang/Cloneable -/
def k16 : Class := { plain "java/lang/Cloneable" (some 0) with
  accessFlags := 1537
  interfaces := #[]
  cf := some (fileOf pool16 2 #[] #[] 1537 4 #[] #[])
  fields := #[]
  methods := #[]
  instanceTypes := #[]
  staticTypes := #[]
  resolved := Array.replicate 8 none
  statics := none }

/-- the primitive byte -/
def k17 : Class := { plain "byte" none with kind := .primitive 'B', accessFlags := 0x411 }
/-- [B -/
def k18 : Class := { plain "[B" (some 0) with kind := .array 17 .byte, interfaces := #[16, 4], accessFlags := 1041 }

/-- the primitive char -/
def k19 : Class := { plain "char" none with kind := .primitive 'C', accessFlags := 0x411 }
/-- [C -/
def k20 : Class := { plain "[C" (some 0) with kind := .array 19 .char, interfaces := #[16, 4], accessFlags := 1041 }

/-- the primitive int -/
def k21 : Class := { plain "int" none with kind := .primitive 'I', accessFlags := 0x411 }
/-- [I -/
def k22 : Class := { plain "[I" (some 0) with kind := .array 21 .int, interfaces := #[16, 4], accessFlags := 1041 }

def heap : Heap := #[{ cls := 6, slots := #[.ref 6, .ref 7, .ref 8, .ref 9, .ref 10, .ref 11, .ref 12, .ref 13, .ref 14, .ref 15, .ref 16, .ref 17, .ref 18, .ref 19, .ref 20, .ref 21, .ref 22, .ref 23, .ref 24, .ref 25, .null], vm := .statics 6 },
  { cls := 9, slots := #[.long 0, .int 1, .null, .int 0, .null, .int 0, .int 0], vm := .statics 9 },
  { cls := 11, slots := #[.null, .ref 4, .ref 5, .null], vm := .statics 11 },
  { cls := 14, slots := #[.null, .null, .null], vm := .statics 14 },
  { cls := 11, slots := #[.null, .int 0, .int 0], vm := .none },
  { cls := 11, slots := #[.null, .int 1, .int 0], vm := .none },
  { cls := 6, slots := #[.null, .int 0, .int 0, .ref 5, .null], vm := .none },
  { cls := 6, slots := #[.null, .int 1, .int 0, .ref 4, .null], vm := .none },
  { cls := 6, slots := #[.null, .int 2, .int 0, .ref 5, .null], vm := .none },
  { cls := 6, slots := #[.null, .int 3, .int 0, .ref 5, .null], vm := .none },
  { cls := 6, slots := #[.null, .int 4, .int 0, .ref 5, .null], vm := .none },
  { cls := 6, slots := #[.null, .int 5, .int 0, .ref 5, .null], vm := .none },
  { cls := 6, slots := #[.null, .int 6, .int 0, .ref 5, .null], vm := .none },
  { cls := 6, slots := #[.null, .int 7, .int 0, .ref 5, .null], vm := .none },
  { cls := 6, slots := #[.null, .int 8, .int 0, .ref 5, .null], vm := .none },
  { cls := 6, slots := #[.null, .int 9, .int 0, .ref 5, .null], vm := .none },
  { cls := 6, slots := #[.null, .int 10, .int 0, .ref 5, .null], vm := .none },
  { cls := 6, slots := #[.null, .int 11, .int 0, .ref 5, .null], vm := .none },
  { cls := 6, slots := #[.null, .int 12, .int 0, .ref 5, .null], vm := .none },
  { cls := 6, slots := #[.null, .int 13, .int 0, .ref 5, .null], vm := .none },
  { cls := 6, slots := #[.null, .int 14, .int 0, .ref 5, .null], vm := .none },
  { cls := 6, slots := #[.null, .int 15, .int 0, .ref 5, .null], vm := .none },
  { cls := 6, slots := #[.null, .int 16, .int 0, .ref 5, .null], vm := .none },
  { cls := 6, slots := #[.null, .int 17, .int 0, .ref 4, .null], vm := .none },
  { cls := 6, slots := #[.null, .int 18, .int 0, .ref 4, .null], vm := .none },
  { cls := 6, slots := #[.null, .int 19, .int 0, .ref 4, .null], vm := .none }]
def classes : Array Class := #[k0, k1, k2, k3, k4, k5, k6, k7, k8, k9, k10, k11, k12, k13, k14, k15, k16, k17, k18, k19, k20, k21, k22]
def interned : List (Array UInt16 × Addr) := []
def slotsUsed : Nat := 141
def theMethod : MethodId := ⟨1, 2⟩
def args0 : Array Value := #[.int 5, .int 2, .int 1, .int 3]
def aboutOver (below : List Frame) : State where
  vm := { classes := classes, interned := interned.toArray }
  heap := heap
  slotsUsed := slotsUsed
  threads := #[{ frames := .invoking theMethod args0 :: below }]
def below0 : List Frame := [.native { method := ⟨0, 0⟩, args := #[] }]
def about1 : State := aboutOver below0
def p0 : Program := .bare "" "" ""
def e0 : Env := launch0.env 0 0 0
theorem w_frames : about1.frames = Frame.invoking theMethod args0 :: below0 := rfl
set_option maxRecDepth 65536 in
theorem w_args : argsFit about1.vm theMethod args0 = true := by decide +kernel
set_option maxRecDepth 65536 in
theorem w_heap : heapFits about1 = true := by decide +kernel
set_option maxRecDepth 65536 in
theorem w_runnable : about1.curStatus? = some .runnable := by decide +kernel
set_option maxRecDepth 65536 in
theorem w_alone : about1.alone = true := by decide +kernel
set_option maxRecDepth 65536 in
theorem w_named : about1.methodNamed? x = some theMethod := by decide +kernel
set_option maxRecDepth 65536 in
theorem w_hears : about1.hears theMethod below0 = true := by decide +kernel
set_option maxRecDepth 65536 in
theorem w_ripe : about1.ripe theMethod args0 below0 = true := by decide +kernel
theorem w_running : about1.status = .running := rfl
set_option maxRecDepth 65536 in
theorem w_room : about1.hasRoom e0.platform room_1 = true :=
  launch0.hasRoom_least _ room_1 (by decide +kernel) (by decide +kernel) (by decide +kernel) (by decide +kernel) (by decide +kernel) (by decide +kernel)
theorem allAtoms_all (ts : List Jvm.Cond) (a : Array Jvm.Value) (st : Jvm.State) : (allAtoms ts).before a st = ts.all (fun c => c.before a st) := by
  induction ts with
  | nil => rfl
  | cons c t ih =>
    show (Jvm.Cond.and c (allAtoms t)).before a st = _
    rw [Jvm.Cond.before_and, ih, List.all_cons]
def words1 : List Jvm.Cond := Jvm.Cond.code x code maxLocals ret :: tables_1
/-- a 'code' word, met by the world's own term for the bytes: nothing is compared byte by byte -/
theorem code_word {y : MethodName} {bytes : ByteArray} {mx : Nat} {rt : Option FieldType} {a : Array Value} {s : State} {m : MethodId} {meth : Method} {c : Code} (h1 : s.methodNamed? y = some m) (h2 : s.vm.method? m = some meth) (h3 : meth.code = some c) (h4 : c.code = bytes)
    (h5 : (c.maxLocals == mx && c.exceptionTable.isEmpty && decide (c.maxStack ≤ mostOperands) && decide (meth.sig.returnType = rt) && !meth.locks && decide (parseMethodDescriptor y.desc = some meth.sig)) = true) : (Jvm.Cond.code y bytes mx rt).before a s = true := by
  simp only [Bool.and_eq_true, beq_iff_eq, Bool.not_eq_true', decide_eq_true_eq] at h5
  obtain ⟨⟨⟨⟨⟨g1, g2⟩, g3⟩, g4⟩, g5⟩, g6⟩ := h5
  simp [Cond.before, Cond.holds, Cond.value, h1, h2, h3, h4, g1, g2, g3, g4, g5, g6]
def isCode : Jvm.Cond → Bool
  | .code _ _ _ _ => true
  | _ => false
theorem all_split {L : List Jvm.Cond} {P : Jvm.Cond → Bool} (h1 : L.all (fun c => isCode c || P c) = true) (h2 : ∀ c ∈ L.filter isCode, P c = true) : L.all P = true := by
  refine List.all_eq_true.mpr fun c hc => ?_
  have h := List.all_eq_true.mp h1 c hc
  rcases Bool.eq_false_or_eq_true (isCode c) with hi | hi
  · exact h2 c (List.mem_filter.mpr ⟨hc, hi⟩)
  · simpa [hi] using h
set_option maxRecDepth 65536 in
theorem w_c0 : (Jvm.Cond.code x code maxLocals ret).before args0 about1 = true := code_word (m := ⟨1, 2⟩) (meth := k1m2) (c := k1c2) (by decide +kernel) rfl rfl rfl (by decide +kernel)
set_option maxRecDepth 65536 in
theorem w_c1 : (Jvm.Cond.code ({ cls := "com/example/bindgate/bindgate/rules/ChangeAsIncompatiblePinLaw", name := "kindAt", desc := "(I)Lcom/example/bindgate/bindgate/rules/Change$Kind;" } : Jvm.MethodName) method_2_code (1 : Nat) (Option.some (Jvm.ClassFile.FieldType.object "com/example/bindgate/bindgate/rules/Change$Kind"))).before args0 about1 = true := code_word (m := ⟨1, 1⟩) (meth := k1m1) (c := k1c1) (by decide +kernel) rfl rfl rfl (by decide +kernel)
set_option maxRecDepth 65536 in
theorem w_c2 : (Jvm.Cond.code ({ cls := "java/lang/String", name := "valueOf", desc := "(C)Ljava/lang/String;" } : Jvm.MethodName) jdk_42_method_139_code (1 : Nat) (Option.some (Jvm.ClassFile.FieldType.object "java/lang/String"))).before args0 about1 = true := code_word (m := ⟨9, 3⟩) (meth := k9m3) (c := k9c3) (by decide +kernel) rfl rfl rfl (by decide +kernel)
set_option maxRecDepth 65536 in
theorem w_c3 : (Jvm.Cond.code ({ cls := "java/lang/StringLatin1", name := "canEncode", desc := "(C)Z" } : Jvm.MethodName) jdk_43_method_3_code (1 : Nat) (Option.some Jvm.ClassFile.FieldType.boolean)).before args0 about1 = true := code_word (m := ⟨10, 1⟩) (meth := k10m1) (c := k10c1) (by decide +kernel) rfl rfl rfl (by decide +kernel)
set_option maxRecDepth 65536 in
theorem w_c4 : (Jvm.Cond.code ({ cls := "java/lang/StringLatin1", name := "toBytes", desc := "(C)[B" } : Jvm.MethodName) jdk_43_method_46_code (1 : Nat) (Option.some (Jvm.ClassFile.FieldType.array Jvm.ClassFile.FieldType.byte))).before args0 about1 = true := code_word (m := ⟨10, 2⟩) (meth := k10m2) (c := k10c2) (by decide +kernel) rfl rfl rfl (by decide +kernel)
set_option maxRecDepth 65536 in
theorem w_c5 : (Jvm.Cond.code ({ cls := "java/lang/String", name := "<init>", desc := "([BB)V" } : Jvm.MethodName) jdk_42_method_151_code (3 : Nat) (Option.none : Option Jvm.ClassFile.FieldType)).before args0 about1 = true := code_word (m := ⟨9, 5⟩) (meth := k9m5) (c := k9c5) (by decide +kernel) rfl rfl rfl (by decide +kernel)
set_option maxRecDepth 65536 in
theorem w_c6 : (Jvm.Cond.code ({ cls := "java/lang/Object", name := "<init>", desc := "()V" } : Jvm.MethodName) object_method_1_code (1 : Nat) (Option.none : Option Jvm.ClassFile.FieldType)).before args0 about1 = true := code_word (m := ⟨0, 0⟩) (meth := k0m0) (c := k0c0) (by decide +kernel) rfl rfl rfl (by decide +kernel)
set_option maxRecDepth 65536 in
theorem w_c7 : (Jvm.Cond.code ({ cls := "com/example/bindgate/bindgate/rules/Change", name := "<init>", desc := "(Lcom/example/bindgate/bindgate/rules/Change$Kind;Ljava/lang/String;)V" } : Jvm.MethodName) prog_33_method_1_code (3 : Nat) (Option.none : Option Jvm.ClassFile.FieldType)).before args0 about1 = true := code_word (m := ⟨12, 0⟩) (meth := k12m0) (c := k12c0) (by decide +kernel) rfl rfl rfl (by decide +kernel)
set_option maxRecDepth 65536 in
theorem w_c8 : (Jvm.Cond.code ({ cls := "com/example/bindgate/bindgate/rules/Change", name := "<init>", desc := "(Lcom/example/bindgate/bindgate/rules/Change$Kind;Lcom/example/bindgate/bindgate/rules/ChangeClass;Ljava/lang/String;)V" } : Jvm.MethodName) prog_33_method_2_code (4 : Nat) (Option.none : Option Jvm.ClassFile.FieldType)).before args0 about1 = true := code_word (m := ⟨12, 1⟩) (meth := k12m1) (c := k12c1) (by decide +kernel) rfl rfl rfl (by decide +kernel)
set_option maxRecDepth 65536 in
theorem w_c9 : (Jvm.Cond.code ({ cls := "com/example/bindgate/bindgate/rules/Change", name := "asIncompatible", desc := "()Lcom/example/bindgate/bindgate/rules/Change;" } : Jvm.MethodName) prog_33_method_3_code (1 : Nat) (Option.some (Jvm.ClassFile.FieldType.object "com/example/bindgate/bindgate/rules/Change"))).before args0 about1 = true := code_word (m := ⟨12, 2⟩) (meth := k12m2) (c := k12c2) (by decide +kernel) rfl rfl rfl (by decide +kernel)
set_option maxRecDepth 65536 in
theorem w_c10 : (Jvm.Cond.code ({ cls := "com/example/bindgate/bindgate/rules/Change", name := "kind", desc := "()Lcom/example/bindgate/bindgate/rules/Change$Kind;" } : Jvm.MethodName) prog_33_method_4_code (1 : Nat) (Option.some (Jvm.ClassFile.FieldType.object "com/example/bindgate/bindgate/rules/Change$Kind"))).before args0 about1 = true := code_word (m := ⟨12, 3⟩) (meth := k12m3) (c := k12c3) (by decide +kernel) rfl rfl rfl (by decide +kernel)
set_option maxRecDepth 65536 in
theorem w_c11 : (Jvm.Cond.code ({ cls := "com/example/bindgate/bindgate/rules/Change", name := "subject", desc := "()Ljava/lang/String;" } : Jvm.MethodName) prog_33_method_6_code (1 : Nat) (Option.some (Jvm.ClassFile.FieldType.object "java/lang/String"))).before args0 about1 = true := code_word (m := ⟨12, 5⟩) (meth := k12m5) (c := k12c5) (by decide +kernel) rfl rfl rfl (by decide +kernel)
set_option maxRecDepth 65536 in
theorem w_c12 : (Jvm.Cond.code ({ cls := "java/lang/String", name := "equals", desc := "(Ljava/lang/Object;)Z" } : Jvm.MethodName) jdk_42_method_66_code (3 : Nat) (Option.some Jvm.ClassFile.FieldType.boolean)).before args0 about1 = true := code_word (m := ⟨9, 2⟩) (meth := k9m2) (c := k9c2) (by decide +kernel) rfl rfl rfl (by decide +kernel)
set_option maxRecDepth 65536 in
theorem w_c13 : (Jvm.Cond.code ({ cls := "com/example/bindgate/bindgate/rules/Change", name := "changeClass", desc := "()Lcom/example/bindgate/bindgate/rules/ChangeClass;" } : Jvm.MethodName) prog_33_method_5_code (1 : Nat) (Option.some (Jvm.ClassFile.FieldType.object "com/example/bindgate/bindgate/rules/ChangeClass"))).before args0 about1 = true := code_word (m := ⟨12, 4⟩) (meth := k12m4) (c := k12c4) (by decide +kernel) rfl rfl rfl (by decide +kernel)
set_option maxRecDepth 65536 in
theorem w_c14 : (Jvm.Cond.code ({ cls := "java/lang/String", name := "<init>", desc := "([C)V" } : Jvm.MethodName) jdk_42_method_3_code (2 : Nat) (Option.none : Option Jvm.ClassFile.FieldType)).before args0 about1 = true := code_word (m := ⟨9, 1⟩) (meth := k9m1) (c := k9c1) (by decide +kernel) rfl rfl rfl (by decide +kernel)
set_option maxRecDepth 65536 in
theorem w_c15 : (Jvm.Cond.code ({ cls := "java/lang/String", name := "<init>", desc := "([CIILjava/lang/Void;)V" } : Jvm.MethodName) jdk_42_method_149_code (6 : Nat) (Option.none : Option Jvm.ClassFile.FieldType)).before args0 about1 = true := code_word (m := ⟨9, 4⟩) (meth := k9m4) (c := k9c4) (by decide +kernel) rfl rfl rfl (by decide +kernel)
set_option maxRecDepth 65536 in
theorem w_c16 : (Jvm.Cond.code ({ cls := "java/lang/StringUTF16", name := "compress", desc := "([CII)[B" } : Jvm.MethodName) jdk_52_method_16_code (6 : Nat) (Option.some (Jvm.ClassFile.FieldType.array Jvm.ClassFile.FieldType.byte))).before args0 about1 = true := code_word (m := ⟨13, 2⟩) (meth := k13m2) (c := k13c2) (by decide +kernel) rfl rfl rfl (by decide +kernel)
set_option maxRecDepth 65536 in
theorem w_c17 : (Jvm.Cond.code ({ cls := "java/lang/StringUTF16", name := "compress", desc := "([CI[BII)I" } : Jvm.MethodName) jdk_52_method_21_code (7 : Nat) (Option.some Jvm.ClassFile.FieldType.int)).before args0 about1 = true := code_word (m := ⟨13, 3⟩) (meth := k13m3) (c := k13c3) (by decide +kernel) rfl rfl rfl (by decide +kernel)
set_option maxRecDepth 65536 in
theorem w_c18 : (Jvm.Cond.code ({ cls := "java/lang/StringUTF16", name := "coderFromArrayLen", desc := "([BI)B" } : Jvm.MethodName) jdk_52_method_15_code (2 : Nat) (Option.some Jvm.ClassFile.FieldType.byte)).before args0 about1 = true := code_word (m := ⟨13, 1⟩) (meth := k13m1) (c := k13c1) (by decide +kernel) rfl rfl rfl (by decide +kernel)
def codes1 : List Jvm.Cond := [Jvm.Cond.code x code maxLocals ret, Jvm.Cond.code ({ cls := "com/example/bindgate/bindgate/rules/ChangeAsIncompatiblePinLaw", name := "kindAt", desc := "(I)Lcom/example/bindgate/bindgate/rules/Change$Kind;" } : Jvm.MethodName) method_2_code (1 : Nat) (Option.some (Jvm.ClassFile.FieldType.object "com/example/bindgate/bindgate/rules/Change$Kind")), Jvm.Cond.code ({ cls := "java/lang/String", name := "valueOf", desc := "(C)Ljava/lang/String;" } : Jvm.MethodName) jdk_42_method_139_code (1 : Nat) (Option.some (Jvm.ClassFile.FieldType.object "java/lang/String")), Jvm.Cond.code ({ cls := "java/lang/StringLatin1", name := "canEncode", desc := "(C)Z" } : Jvm.MethodName) jdk_43_method_3_code (1 : Nat) (Option.some Jvm.ClassFile.FieldType.boolean), Jvm.Cond.code ({ cls := "java/lang/StringLatin1", name := "toBytes", desc := "(C)[B" } : Jvm.MethodName) jdk_43_method_46_code (1 : Nat) (Option.some (Jvm.ClassFile.FieldType.array Jvm.ClassFile.FieldType.byte)), Jvm.Cond.code ({ cls := "java/lang/String", name := "<init>", desc := "([BB)V" } : Jvm.MethodName) jdk_42_method_151_code (3 : Nat) (Option.none : Option Jvm.ClassFile.FieldType), Jvm.Cond.code ({ cls := "java/lang/Object", name := "<init>", desc := "()V" } : Jvm.MethodName) object_method_1_code (1 : Nat) (Option.none : Option Jvm.ClassFile.FieldType), Jvm.Cond.code ({ cls := "com/example/bindgate/bindgate/rules/Change", name := "<init>", desc := "(Lcom/example/bindgate/bindgate/rules/Change$Kind;Ljava/lang/String;)V" } : Jvm.MethodName) prog_33_method_1_code (3 : Nat) (Option.none : Option Jvm.ClassFile.FieldType), Jvm.Cond.code ({ cls := "com/example/bindgate/bindgate/rules/Change", name := "<init>", desc := "(Lcom/example/bindgate/bindgate/rules/Change$Kind;Lcom/example/bindgate/bindgate/rules/ChangeClass;Ljava/lang/String;)V" } : Jvm.MethodName) prog_33_method_2_code (4 : Nat) (Option.none : Option Jvm.ClassFile.FieldType), Jvm.Cond.code ({ cls := "com/example/bindgate/bindgate/rules/Change", name := "asIncompatible", desc := "()Lcom/example/bindgate/bindgate/rules/Change;" } : Jvm.MethodName) prog_33_method_3_code (1 : Nat) (Option.some (Jvm.ClassFile.FieldType.object "com/example/bindgate/bindgate/rules/Change")), Jvm.Cond.code ({ cls := "com/example/bindgate/bindgate/rules/Change", name := "kind", desc := "()Lcom/example/bindgate/bindgate/rules/Change$Kind;" } : Jvm.MethodName) prog_33_method_4_code (1 : Nat) (Option.some (Jvm.ClassFile.FieldType.object "com/example/bindgate/bindgate/rules/Change$Kind")), Jvm.Cond.code ({ cls := "com/example/bindgate/bindgate/rules/Change", name := "subject", desc := "()Ljava/lang/String;" } : Jvm.MethodName) prog_33_method_6_code (1 : Nat) (Option.some (Jvm.ClassFile.FieldType.object "java/lang/String")), Jvm.Cond.code ({ cls := "java/lang/String", name := "equals", desc := "(Ljava/lang/Object;)Z" } : Jvm.MethodName) jdk_42_method_66_code (3 : Nat) (Option.some Jvm.ClassFile.FieldType.boolean), Jvm.Cond.code ({ cls := "com/example/bindgate/bindgate/rules/Change", name := "changeClass", desc := "()Lcom/example/bindgate/bindgate/rules/ChangeClass;" } : Jvm.MethodName) prog_33_method_5_code (1 : Nat) (Option.some (Jvm.ClassFile.FieldType.object "com/example/bindgate/bindgate/rules/ChangeClass")), Jvm.Cond.code ({ cls := "java/lang/String", name := "<init>", desc := "([C)V" } : Jvm.MethodName) jdk_42_method_3_code (2 : Nat) (Option.none : Option Jvm.ClassFile.FieldType), Jvm.Cond.code ({ cls := "java/lang/String", name := "<init>", desc := "([CIILjava/lang/Void;)V" } : Jvm.MethodName) jdk_42_method_149_code (6 : Nat) (Option.none : Option Jvm.ClassFile.FieldType), Jvm.Cond.code ({ cls := "java/lang/StringUTF16", name := "compress", desc := "([CII)[B" } : Jvm.MethodName) jdk_52_method_16_code (6 : Nat) (Option.some (Jvm.ClassFile.FieldType.array Jvm.ClassFile.FieldType.byte)), Jvm.Cond.code ({ cls := "java/lang/StringUTF16", name := "compress", desc := "([CI[BII)I" } : Jvm.MethodName) jdk_52_method_21_code (7 : Nat) (Option.some Jvm.ClassFile.FieldType.int), Jvm.Cond.code ({ cls := "java/lang/StringUTF16", name := "coderFromArrayLen", desc := "([BI)B" } : Jvm.MethodName) jdk_52_method_15_code (2 : Nat) (Option.some Jvm.ClassFile.FieldType.byte)]
set_option maxRecDepth 65536 in
theorem codes_eq : words1.filter isCode = codes1 := rfl
theorem w_codes : ∀ c ∈ words1.filter isCode, c.before args0 about1 = true := by
  rw [codes_eq]
  intro c hc
  simp only [codes1, List.mem_cons, List.not_mem_nil, or_false] at hc
  rcases hc with rfl | rfl | rfl | rfl | rfl | rfl | rfl | rfl | rfl | rfl | rfl | rfl | rfl | rfl | rfl | rfl | rfl | rfl | rfl
  · exact w_c0
  · exact w_c1
  · exact w_c2
  · exact w_c3
  · exact w_c4
  · exact w_c5
  · exact w_c6
  · exact w_c7
  · exact w_c8
  · exact w_c9
  · exact w_c10
  · exact w_c11
  · exact w_c12
  · exact w_c13
  · exact w_c14
  · exact w_c15
  · exact w_c16
  · exact w_c17
  · exact w_c18
set_option maxRecDepth 65536 in
theorem w_t1 : (words1.take 24).all (fun c => isCode c || c.before args0 about1) = true := by decide +kernel
set_option maxRecDepth 65536 in
theorem w_t2 : ((words1.drop 24).take 24).all (fun c => isCode c || c.before args0 about1) = true := by decide +kernel
set_option maxRecDepth 65536 in
theorem w_t3 : (((words1.drop 24).drop 24).take 24).all (fun c => isCode c || c.before args0 about1) = true := by decide +kernel
set_option maxRecDepth 65536 in
theorem w_t4 : ((((words1.drop 24).drop 24).drop 24).take 24).all (fun c => isCode c || c.before args0 about1) = true := by decide +kernel
set_option maxRecDepth 65536 in
theorem w_t5 : (((((words1.drop 24).drop 24).drop 24).drop 24).take 24).all (fun c => isCode c || c.before args0 about1) = true := by decide +kernel
set_option maxRecDepth 65536 in
theorem w_t6 : (((((words1.drop 24).drop 24).drop 24).drop 24).drop 24).all (fun c => isCode c || c.before args0 about1) = true := by decide +kernel
theorem w_tables : (allAtoms (Jvm.Cond.code x code maxLocals ret :: tables_1)).before args0 about1 = true := by
  rw [allAtoms_all]
  show words1.all (fun c => c.before args0 about1) = true
  refine all_split ?_ w_codes
  rw [← List.take_append_drop 24 words1, List.all_append, w_t1, ← List.take_append_drop 24 (words1.drop 24), List.all_append, w_t2, ← List.take_append_drop 24 ((words1.drop 24).drop 24), List.all_append, w_t3, ← List.take_append_drop 24 (((words1.drop 24).drop 24).drop 24), List.all_append, w_t4, ← List.take_append_drop 24 ((((words1.drop 24).drop 24).drop 24).drop 24), List.all_append, w_t5, w_t6]
  rfl
set_option maxRecDepth 65536 in
theorem w_rest : rest_1_c.before args0 about1 = true := by decide +kernel
set_option maxRecDepth 65536 in
theorem w_case : (Jvm.Cond.and given_1 narrow_1).before args0 about1 = true := by decide +kernel
set_option maxRecDepth 65536 in
theorem w_consts : constsHeld consts_1 about1 := Jvm.Lit.constsHeldB_iff.mp (by decide +kernel)
theorem w_applies : (headSpec (Jvm.Cond.code x code maxLocals ret :: tables_1) room_1).applies x e0.platform about1 = true :=
  (Spec.applies_iff w_frames).mpr ⟨w_running, w_runnable, w_alone, w_named, w_hears, w_ripe, w_room, w_tables⟩
theorem atStart : AtStart classFile x code maxLocals ret World_1 tables_1 room_1 Calls_1 rest_1 Pre_1 launch0 p0 e0 about1 theMethod args0 below0 :=
  ⟨lists_1, trivial, launch0.admits_env _ _ _, launch0.least_env, fairChoices_fair.cas, fairChoices_fair.clock, w_frames, w_args, w_heap, w_applies, ⟨w_consts, trivial⟩, w_rest, w_case⟩
end start1
theorem witness_1 : WitnessClaimed_1 := ⟨start1.p0, start1.e0, start1.about1, start1.theMethod, start1.args0, start1.below0, start1.atStart⟩
end Jvm.Pilot.@@N@@
